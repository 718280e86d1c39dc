import PyProof.Rows.All
import Wide.All
import OpenK.AllK
import Wide.FinOn
import Lean
import PySem.Challenge.RW_sn0046_01
open PySem PySem.W PyProof.Rows
set_option Elab.async false
set_option compiler.extract_closed false
set_option linter.unusedVariables false
section
set_option maxRecDepth 100000
set_option maxHeartbeats 8000000
namespace Mine.Hd
noncomputable def st0 : Stmt := by
  refine' (?f : (s : Stmt) → Challenge.pw_sn0046_01.main.body[0]? = some s → Stmt) _ ?h
  case f => exact fun s _ => s
  case h => exact rfl
noncomputable def st1 : Stmt := by
  refine' (?f : (s : Stmt) → Challenge.pw_sn0046_01.main.body[1]? = some s → Stmt) _ ?h
  case f => exact fun s _ => s
  case h => exact rfl
noncomputable def st2 : Stmt := by
  refine' (?f : (s : Stmt) → Challenge.pw_sn0046_01.main.body[2]? = some s → Stmt) _ ?h
  case f => exact fun s _ => s
  case h => exact rfl
noncomputable def st3 : Stmt := by
  refine' (?f : (s : Stmt) → Challenge.pw_sn0046_01.main.body[3]? = some s → Stmt) _ ?h
  case f => exact fun s _ => s
  case h => exact rfl
noncomputable def st4 : Stmt := by
  refine' (?f : (s : Stmt) → Challenge.pw_sn0046_01.main.body[4]? = some s → Stmt) _ ?h
  case f => exact fun s _ => s
  case h => exact rfl
noncomputable def st5 : Stmt := by
  refine' (?f : (s : Stmt) → Challenge.pw_sn0046_01.main.body[5]? = some s → Stmt) _ ?h
  case f => exact fun s _ => s
  case h => exact rfl
noncomputable def st6 : Stmt := by
  refine' (?f : (s : Stmt) → Challenge.pw_sn0046_01.main.body[6]? = some s → Stmt) _ ?h
  case f => exact fun s _ => s
  case h => exact rfl
noncomputable def st7 : Stmt := by
  refine' (?f : (s : Stmt) → Challenge.pw_sn0046_01.main.body[7]? = some s → Stmt) _ ?h
  case f => exact fun s _ => s
  case h => exact rfl
noncomputable def st8 : Stmt := by
  refine' (?f : (s : Stmt) → Challenge.pw_sn0046_01.main.body[8]? = some s → Stmt) _ ?h
  case f => exact fun s _ => s
  case h => exact rfl
noncomputable def st9 : Stmt := by
  refine' (?f : (s : Stmt) → Challenge.pw_sn0046_01.main.body[9]? = some s → Stmt) _ ?h
  case f => exact fun s _ => s
  case h => exact rfl
noncomputable def st10 : Stmt := by
  refine' (?f : (s : Stmt) → Challenge.pw_sn0046_01.main.body[10]? = some s → Stmt) _ ?h
  case f => exact fun s _ => s
  case h => exact rfl
noncomputable def st11 : Stmt := by
  refine' (?f : (s : Stmt) → Challenge.pw_sn0046_01.main.body[11]? = some s → Stmt) _ ?h
  case f => exact fun s _ => s
  case h => exact rfl
noncomputable def st12 : Stmt := by
  refine' (?f : (s : Stmt) → Challenge.pw_sn0046_01.main.body[12]? = some s → Stmt) _ ?h
  case f => exact fun s _ => s
  case h => exact rfl
noncomputable def st13 : Stmt := by
  refine' (?f : (s : Stmt) → Challenge.pw_sn0046_01.main.body[13]? = some s → Stmt) _ ?h
  case f => exact fun s _ => s
  case h => exact rfl
noncomputable def st14 : Stmt := by
  refine' (?f : (s : Stmt) → Challenge.pw_sn0046_01.main.body[14]? = some s → Stmt) _ ?h
  case f => exact fun s _ => s
  case h => exact rfl
noncomputable def st15 : Stmt := by
  refine' (?f : (s : Stmt) → Challenge.pw_sn0046_01.main.body[15]? = some s → Stmt) _ ?h
  case f => exact fun s _ => s
  case h => exact rfl
noncomputable def st16 : Stmt := by
  refine' (?f : (s : Stmt) → Challenge.pw_sn0046_01.main.body[16]? = some s → Stmt) _ ?h
  case f => exact fun s _ => s
  case h => exact rfl
noncomputable def st17 : Stmt := by
  refine' (?f : (s : Stmt) → Challenge.pw_sn0046_01.main.body[17]? = some s → Stmt) _ ?h
  case f => exact fun s _ => s
  case h => exact rfl
noncomputable def st18 : Stmt := by
  refine' (?f : (s : Stmt) → Challenge.pw_sn0046_01.main.body[18]? = some s → Stmt) _ ?h
  case f => exact fun s _ => s
  case h => exact rfl
noncomputable def st19 : Stmt := by
  refine' (?f : (s : Stmt) → Challenge.pw_sn0046_01.main.body[19]? = some s → Stmt) _ ?h
  case f => exact fun s _ => s
  case h => exact rfl
noncomputable def st20 : Stmt := by
  refine' (?f : (s : Stmt) → Challenge.pw_sn0046_01.main.body[20]? = some s → Stmt) _ ?h
  case f => exact fun s _ => s
  case h => exact rfl
noncomputable def st21 : Stmt := by
  refine' (?f : (s : Stmt) → Challenge.pw_sn0046_01.main.body[21]? = some s → Stmt) _ ?h
  case f => exact fun s _ => s
  case h => exact rfl
noncomputable def st22 : Stmt := by
  refine' (?f : (s : Stmt) → Challenge.pw_sn0046_01.main.body[22]? = some s → Stmt) _ ?h
  case f => exact fun s _ => s
  case h => exact rfl
noncomputable def scp : Scope := by
  refine' (?f : (s : Scope) → Challenge.pw_sn0046_01.main.scope = s → Scope) _ ?h
  case f => exact fun s _ => s
  case h => exact (rfl : Scope.mk _ _ _ _ _ = Scope.mk _ _ _ _ _)
noncomputable def prog : Program := { main := { body := [st0, st1, st2, st3, st4, st5, st6, st7, st8, st9, st10, st11, st12, st13, st14, st15, st16, st17, st18, st19, st20, st21, st22], scope := scp, futureAnnotations := false, file := "/claim/cut.py", more := [] }, modules := [], parses := [], absent := [], harvested := [], given := { argv := [], stdin := [], environ := (some [([76, 67, 95, 65, 76, 76], [67, 46, 85, 84, 70, 45, 56])]) } }
noncomputable def law : OpenLaw := { prog := prog, name := (Str.ofString "law"), about := [(Str.ofString "_div2n1n")], foot := 10, most := some 63, bound := none, writes := false }
noncomputable def fnIn (s : Stmt) (mk : Arguments → List Stmt → Scope → Obj) : Option Obj :=
  match s with
  | .FunctionDef _ a b _ _ _ sc _ _ _ => some (mk a b sc)
  | _ => none
noncomputable def inCls (s : Stmt) (i : Nat) : Stmt :=
  match s with
  | .ClassDef _ _ _ b _ _ _ _ _ _ _ => b[i]?.getD s
  | _ => s
noncomputable def ko2 : Obj := { cls := Value.none, data := Data.dict #[] }
noncomputable def ko3 (P : Params) : Obj := { cls := Value.type "dict", data := Data.dict #[{ hash := PyData.keyHash P (Str.ofString "__name__"), key := Value.str (Str.ofString "__name__") 165, val := Value.str (Str.ofString "law_sn0046_01") 360 }, { hash := PyData.keyHash P (Str.ofString "__doc__"), key := Value.str (Str.ofString "__doc__") 166, val := Value.none }, { hash := PyData.keyHash P (Str.ofString "__package__"), key := Value.str (Str.ofString "__package__") 167, val := Value.none }, { hash := PyData.keyHash P (Str.ofString "__loader__"), key := Value.str (Str.ofString "__loader__") 168, val := Value.builtin "__main__.__loader__#opaque" }, { hash := PyData.keyHash P (Str.ofString "__spec__"), key := Value.str (Str.ofString "__spec__") 169, val := Value.none }, { hash := PyData.keyHash P (Str.ofString "__annotations__"), key := Value.str (Str.ofString "__annotations__") 170, val := Value.ref 6 }, { hash := PyData.keyHash P (Str.ofString "__builtins__"), key := Value.str (Str.ofString "__builtins__") 171, val := Value.ref 4 }, { hash := PyData.keyHash P (Str.ofString "__file__"), key := Value.str (Str.ofString "__file__") 173, val := Value.str (Str.ofString "/claim/cut.py") 172 }, { hash := PyData.keyHash P (Str.ofString "__cached__"), key := Value.str (Str.ofString "__cached__") 174, val := Value.none }, { hash := PyData.keyHash P (Str.ofString "_wall"), key := Value.str (Str.ofString "_wall") 193, val := Value.ref 21 }, { hash := PyData.keyHash P (Str.ofString "_DIV_LIMIT"), key := Value.str (Str.ofString "_DIV_LIMIT") 197, val := Value.int 4000 196 }, { hash := PyData.keyHash P (Str.ofString "_div2n1n"), key := Value.str (Str.ofString "_div2n1n") 214, val := Value.ref 28 }, { hash := PyData.keyHash P (Str.ofString "_div3n2n"), key := Value.str (Str.ofString "_div3n2n") 228, val := Value.ref 35 }, { hash := PyData.keyHash P (Str.ofString "rgb_to_hls"), key := Value.str (Str.ofString "rgb_to_hls") 249, val := Value.ref 42 }, { hash := PyData.keyHash P (Str.ofString "ELLIPSIS_MARKER"), key := Value.str (Str.ofString "ELLIPSIS_MARKER") 253, val := Value.str (Str.ofString "...") 252 }, { hash := PyData.keyHash P (Str.ofString "_ellipsis_match"), key := Value.str (Str.ofString "_ellipsis_match") 265, val := Value.ref 49 }, { hash := PyData.keyHash P (Str.ofString "Whitespace"), key := Value.str (Str.ofString "Whitespace") 359, val := Value.ref 111 }, { hash := PyData.keyHash P (Str.ofString "_law_mirrored"), key := Value.str (Str.ofString "_law_mirrored") 372, val := Value.ref 122 }, { hash := PyData.keyHash P (Str.ofString "_law_woven"), key := Value.str (Str.ofString "_law_woven") 378, val := Value.ref 127 }, { hash := PyData.keyHash P (Str.ofString "_law_periods"), key := Value.str (Str.ofString "_law_periods") 384, val := Value.ref 132 }, { hash := PyData.keyHash P (Str.ofString "_law_indent"), key := Value.str (Str.ofString "_law_indent") 390, val := Value.ref 137 }, { hash := PyData.keyHash P (Str.ofString "_law_norm"), key := Value.str (Str.ofString "_law_norm") 396, val := Value.ref 142 }, { hash := PyData.keyHash P (Str.ofString "_law_hue"), key := Value.str (Str.ofString "_law_hue") 403, val := Value.ref 149 }, { hash := PyData.keyHash P (Str.ofString "_law_from_the_front"), key := Value.str (Str.ofString "_law_from_the_front") 409, val := Value.ref 154 }, { hash := PyData.keyHash P (Str.ofString "_law_from_the_end"), key := Value.str (Str.ofString "_law_from_the_end") 415, val := Value.ref 159 }, { hash := PyData.keyHash P (Str.ofString "_law_kinds"), key := Value.str (Str.ofString "_law_kinds") 430, val := Value.ref 166 }, { hash := PyData.keyHash P (Str.ofString "law"), key := Value.str (Str.ofString "law") 436, val := Value.ref 171 }] 27 }
noncomputable def ko27 : Obj := { cls := Value.type "code", data := Data.fields #[Value.str (Str.ofString "_div2n1n") 198, Value.str (Str.ofString "_div2n1n") 199, Value.str (Str.ofString "/claim/cut.py") 200, Value.int 6 0, Value.int 3 0, Value.int 0 0, Value.int 0 0, Value.int 3 0, Value.ref 22, Value.bool true, Value.int 181 0, Value.ref 23, Value.none, Value.ref 24, Value.ref 25, Value.ref 26, Value.int 212 0, Value.int 6 0, Value.str (Str.ofString "/claim/cut.py") 213] }
noncomputable def ko28 : Obj := by
  refine' (?f : (o : Obj) → fnIn st3 (fun a b sc => ({ cls := Value.type "function", data := Data.func { name := Str.ofString "_div2n1n", qualname := Str.ofString "_div2n1n", params := a, body := FuncBody.stmts b, scope := sc, globals := 3, closure := [], defaults := Value.none, kwdefaults := Value.none, pyModule := Value.str (Str.ofString "cpy313._pylong") 194, code := Value.ref 27 } } : Obj)) = some o → Obj) _ ?h
  case f => exact fun o _ => o
  case h => exact rfl
noncomputable def ko41 : Obj := { cls := Value.type "code", data := Data.fields #[Value.str (Str.ofString "rgb_to_hls") 231, Value.str (Str.ofString "rgb_to_hls") 232, Value.str (Str.ofString "/claim/cut.py") 233, Value.int 33 0, Value.int 3 0, Value.int 0 0, Value.int 0 0, Value.int 3 0, Value.ref 36, Value.bool true, Value.int 181 0, Value.ref 37, Value.none, Value.ref 38, Value.ref 39, Value.ref 40, Value.int 247 0, Value.int 33 0, Value.str (Str.ofString "/claim/cut.py") 248] }
noncomputable def ko42 : Obj := by
  refine' (?f : (o : Obj) → fnIn st6 (fun a b sc => ({ cls := Value.type "function", data := Data.func { name := Str.ofString "rgb_to_hls", qualname := Str.ofString "rgb_to_hls", params := a, body := FuncBody.stmts b, scope := sc, globals := 3, closure := [], defaults := Value.none, kwdefaults := Value.none, pyModule := Value.str (Str.ofString "cpy313.colorsys") 229, code := Value.ref 41 } } : Obj)) = some o → Obj) _ ?h
  case f => exact fun o _ => o
  case h => exact rfl
noncomputable def ko48 : Obj := { cls := Value.type "code", data := Data.fields #[Value.str (Str.ofString "_ellipsis_match") 254, Value.str (Str.ofString "_ellipsis_match") 255, Value.str (Str.ofString "/claim/cut.py") 256, Value.int 58 0, Value.int 2 0, Value.int 0 0, Value.int 0 0, Value.int 3 0, Value.ref 43, Value.bool true, Value.int 181 0, Value.ref 44, Value.none, Value.ref 45, Value.ref 46, Value.ref 47, Value.int 263 0, Value.int 58 0, Value.str (Str.ofString "/claim/cut.py") 264] }
noncomputable def ko49 : Obj := by
  refine' (?f : (o : Obj) → fnIn st9 (fun a b sc => ({ cls := Value.type "function", data := Data.func { name := Str.ofString "_ellipsis_match", qualname := Str.ofString "_ellipsis_match", params := a, body := FuncBody.stmts b, scope := sc, globals := 3, closure := [], defaults := Value.none, kwdefaults := Value.none, pyModule := Value.str (Str.ofString "cpy313.doctest") 250, code := Value.ref 48 } } : Obj)) = some o → Obj) _ ?h
  case f => exact fun o _ => o
  case h => exact rfl
noncomputable def ko65 : Obj := { cls := Value.type "code", data := Data.fields #[Value.str (Str.ofString "__init__") 285, Value.str (Str.ofString "Whitespace.__init__") 286, Value.str (Str.ofString "/claim/cut.py") 287, Value.int 90 0, Value.int 2 0, Value.int 0 0, Value.int 0 0, Value.int 3 0, Value.ref 60, Value.bool true, Value.int 181 0, Value.ref 61, Value.none, Value.ref 62, Value.ref 63, Value.ref 64, Value.int 297 0, Value.int 90 0, Value.str (Str.ofString "/claim/cut.py") 298] }
noncomputable def ko66 : Obj := by
  refine' (?f : (o : Obj) → fnIn (inCls st11 1) (fun a b sc => ({ cls := Value.type "function", data := Data.func { name := Str.ofString "__init__", qualname := Str.ofString "Whitespace.__init__", params := a, body := FuncBody.stmts b, scope := sc, globals := 3, closure := [], defaults := Value.none, kwdefaults := Value.none, pyModule := Value.str (Str.ofString "cpy313.tabnanny") 266, code := Value.ref 65 } } : Obj)) = some o → Obj) _ ?h
  case f => exact fun o _ => o
  case h => exact rfl
noncomputable def ko110 (P : Params) : Obj := { cls := Value.type "dict", data := Data.dict #[{ hash := PyData.keyHash P (Str.ofString "__module__"), key := Value.str (Str.ofString "__module__") 275, val := Value.str (Str.ofString "cpy313.tabnanny") 266 }, { hash := PyData.keyHash P (Str.ofString "__firstlineno__"), key := Value.str (Str.ofString "__firstlineno__") 279, val := Value.int 87 278 }, { hash := PyData.keyHash P (Str.ofString "S"), key := Value.str (Str.ofString "S") 283, val := Value.str (Str.ofString " ") 281 }, { hash := PyData.keyHash P (Str.ofString "T"), key := Value.str (Str.ofString "T") 284, val := Value.str (Str.ofString "\t") 282 }, { hash := PyData.keyHash P (Str.ofString "__init__"), key := Value.str (Str.ofString "__init__") 299, val := Value.ref 66 }, { hash := PyData.keyHash P (Str.ofString "longest_run_of_spaces"), key := Value.str (Str.ofString "longest_run_of_spaces") 306, val := Value.ref 73 }, { hash := PyData.keyHash P (Str.ofString "indent_level"), key := Value.str (Str.ofString "indent_level") 314, val := Value.ref 80 }, { hash := PyData.keyHash P (Str.ofString "equal"), key := Value.str (Str.ofString "equal") 322, val := Value.ref 87 }, { hash := PyData.keyHash P (Str.ofString "not_equal_witness"), key := Value.str (Str.ofString "not_equal_witness") 330, val := Value.ref 94 }, { hash := PyData.keyHash P (Str.ofString "less"), key := Value.str (Str.ofString "less") 338, val := Value.ref 101 }, { hash := PyData.keyHash P (Str.ofString "not_less_witness"), key := Value.str (Str.ofString "not_less_witness") 346, val := Value.ref 108 }, { hash := PyData.keyHash P (Str.ofString "__static_attributes__"), key := Value.str (Str.ofString "__static_attributes__") 352, val := Value.ref 109 }, { hash := PyData.keyHash P (Str.ofString "__dict__"), key := Value.str (Str.ofString "__dict__") 354, val := Value.ref 112 }, { hash := PyData.keyHash P (Str.ofString "__weakref__"), key := Value.str (Str.ofString "__weakref__") 356, val := Value.ref 113 }, { hash := PyData.keyHash P (Str.ofString "__doc__"), key := Value.str (Str.ofString "__doc__") 357, val := Value.none }] 4 }
noncomputable def ko111 : Obj := { cls := Value.type "type", data := Data.cls { name := Str.ofString "Whitespace", bases := [Value.type "object"], mro := [Value.ref 111, Value.type "object"], ns := 110, qualname := Str.ofString "Whitespace" }, slots := #[none, none, some (Value.str (Str.ofString "Whitespace") 268), some (Value.str (Str.ofString "Whitespace") 276), some (Value.builtin "object.__new__"), some (Value.bool true)] }
noncomputable def ko121 : Obj := { cls := Value.type "code", data := Data.fields #[Value.str (Str.ofString "_law_mirrored") 362, Value.str (Str.ofString "_law_mirrored") 363, Value.str (Str.ofString "/claim/cut.py") 364, Value.int 131 0, Value.int 1 0, Value.int 0 0, Value.int 0 0, Value.int 3 0, Value.ref 116, Value.bool true, Value.int 181 0, Value.ref 117, Value.none, Value.ref 118, Value.ref 119, Value.ref 120, Value.int 370 0, Value.int 131 0, Value.str (Str.ofString "/claim/cut.py") 371] }
noncomputable def ko122 : Obj := by
  refine' (?f : (o : Obj) → fnIn st13 (fun a b sc => ({ cls := Value.type "function", data := Data.func { name := Str.ofString "_law_mirrored", qualname := Str.ofString "_law_mirrored", params := a, body := FuncBody.stmts b, scope := sc, globals := 3, closure := [], defaults := Value.none, kwdefaults := Value.none, pyModule := Value.str (Str.ofString "law_sn0046_01") 360, code := Value.ref 121 } } : Obj)) = some o → Obj) _ ?h
  case f => exact fun o _ => o
  case h => exact rfl
noncomputable def ko126 : Obj := { cls := Value.type "code", data := Data.fields #[Value.str (Str.ofString "_law_woven") 373, Value.str (Str.ofString "_law_woven") 374, Value.str (Str.ofString "/claim/cut.py") 375, Value.int 141 0, Value.int 1 0, Value.int 0 0, Value.int 0 0, Value.int 3 0, Value.ref 123, Value.bool true, Value.int 181 0, Value.ref 124, Value.none, Value.none, Value.none, Value.ref 125, Value.int 376 0, Value.int 141 0, Value.str (Str.ofString "/claim/cut.py") 377] }
noncomputable def ko127 : Obj := by
  refine' (?f : (o : Obj) → fnIn st14 (fun a b sc => ({ cls := Value.type "function", data := Data.func { name := Str.ofString "_law_woven", qualname := Str.ofString "_law_woven", params := a, body := FuncBody.stmts b, scope := sc, globals := 3, closure := [], defaults := Value.none, kwdefaults := Value.none, pyModule := Value.str (Str.ofString "law_sn0046_01") 360, code := Value.ref 126 } } : Obj)) = some o → Obj) _ ?h
  case f => exact fun o _ => o
  case h => exact rfl
noncomputable def ko131 : Obj := { cls := Value.type "code", data := Data.fields #[Value.str (Str.ofString "_law_periods") 379, Value.str (Str.ofString "_law_periods") 380, Value.str (Str.ofString "/claim/cut.py") 381, Value.int 146 0, Value.int 1 0, Value.int 0 0, Value.int 0 0, Value.int 3 0, Value.ref 128, Value.bool true, Value.int 181 0, Value.ref 129, Value.none, Value.none, Value.none, Value.ref 130, Value.int 382 0, Value.int 146 0, Value.str (Str.ofString "/claim/cut.py") 383] }
noncomputable def ko132 : Obj := by
  refine' (?f : (o : Obj) → fnIn st15 (fun a b sc => ({ cls := Value.type "function", data := Data.func { name := Str.ofString "_law_periods", qualname := Str.ofString "_law_periods", params := a, body := FuncBody.stmts b, scope := sc, globals := 3, closure := [], defaults := Value.none, kwdefaults := Value.none, pyModule := Value.str (Str.ofString "law_sn0046_01") 360, code := Value.ref 131 } } : Obj)) = some o → Obj) _ ?h
  case f => exact fun o _ => o
  case h => exact rfl
noncomputable def ko136 : Obj := { cls := Value.type "code", data := Data.fields #[Value.str (Str.ofString "_law_indent") 385, Value.str (Str.ofString "_law_indent") 386, Value.str (Str.ofString "/claim/cut.py") 387, Value.int 152 0, Value.int 2 0, Value.int 0 0, Value.int 0 0, Value.int 3 0, Value.ref 133, Value.bool true, Value.int 181 0, Value.ref 134, Value.none, Value.none, Value.none, Value.ref 135, Value.int 388 0, Value.int 152 0, Value.str (Str.ofString "/claim/cut.py") 389] }
noncomputable def ko137 : Obj := by
  refine' (?f : (o : Obj) → fnIn st16 (fun a b sc => ({ cls := Value.type "function", data := Data.func { name := Str.ofString "_law_indent", qualname := Str.ofString "_law_indent", params := a, body := FuncBody.stmts b, scope := sc, globals := 3, closure := [], defaults := Value.none, kwdefaults := Value.none, pyModule := Value.str (Str.ofString "law_sn0046_01") 360, code := Value.ref 136 } } : Obj)) = some o → Obj) _ ?h
  case f => exact fun o _ => o
  case h => exact rfl
noncomputable def ko141 : Obj := { cls := Value.type "code", data := Data.fields #[Value.str (Str.ofString "_law_norm") 391, Value.str (Str.ofString "_law_norm") 392, Value.str (Str.ofString "/claim/cut.py") 393, Value.int 154 0, Value.int 2 0, Value.int 0 0, Value.int 0 0, Value.int 3 0, Value.ref 138, Value.bool true, Value.int 181 0, Value.ref 139, Value.none, Value.none, Value.none, Value.ref 140, Value.int 394 0, Value.int 154 0, Value.str (Str.ofString "/claim/cut.py") 395] }
noncomputable def ko142 : Obj := by
  refine' (?f : (o : Obj) → fnIn st17 (fun a b sc => ({ cls := Value.type "function", data := Data.func { name := Str.ofString "_law_norm", qualname := Str.ofString "_law_norm", params := a, body := FuncBody.stmts b, scope := sc, globals := 3, closure := [], defaults := Value.none, kwdefaults := Value.none, pyModule := Value.str (Str.ofString "law_sn0046_01") 360, code := Value.ref 141 } } : Obj)) = some o → Obj) _ ?h
  case f => exact fun o _ => o
  case h => exact rfl
noncomputable def ko148 : Obj := { cls := Value.type "code", data := Data.fields #[Value.str (Str.ofString "_law_hue") 397, Value.str (Str.ofString "_law_hue") 398, Value.str (Str.ofString "/claim/cut.py") 399, Value.int 158 0, Value.int 1 0, Value.int 0 0, Value.int 0 0, Value.int 3 0, Value.ref 143, Value.bool true, Value.int 181 0, Value.ref 144, Value.none, Value.ref 145, Value.ref 146, Value.ref 147, Value.int 401 0, Value.int 158 0, Value.str (Str.ofString "/claim/cut.py") 402] }
noncomputable def ko149 : Obj := by
  refine' (?f : (o : Obj) → fnIn st18 (fun a b sc => ({ cls := Value.type "function", data := Data.func { name := Str.ofString "_law_hue", qualname := Str.ofString "_law_hue", params := a, body := FuncBody.stmts b, scope := sc, globals := 3, closure := [], defaults := Value.none, kwdefaults := Value.none, pyModule := Value.str (Str.ofString "law_sn0046_01") 360, code := Value.ref 148 } } : Obj)) = some o → Obj) _ ?h
  case f => exact fun o _ => o
  case h => exact rfl
noncomputable def ko153 : Obj := { cls := Value.type "code", data := Data.fields #[Value.str (Str.ofString "_law_from_the_front") 404, Value.str (Str.ofString "_law_from_the_front") 405, Value.str (Str.ofString "/claim/cut.py") 406, Value.int 160 0, Value.int 1 0, Value.int 0 0, Value.int 0 0, Value.int 3 0, Value.ref 150, Value.bool true, Value.int 181 0, Value.ref 151, Value.none, Value.none, Value.none, Value.ref 152, Value.int 407 0, Value.int 160 0, Value.str (Str.ofString "/claim/cut.py") 408] }
noncomputable def ko154 : Obj := by
  refine' (?f : (o : Obj) → fnIn st19 (fun a b sc => ({ cls := Value.type "function", data := Data.func { name := Str.ofString "_law_from_the_front", qualname := Str.ofString "_law_from_the_front", params := a, body := FuncBody.stmts b, scope := sc, globals := 3, closure := [], defaults := Value.none, kwdefaults := Value.none, pyModule := Value.str (Str.ofString "law_sn0046_01") 360, code := Value.ref 153 } } : Obj)) = some o → Obj) _ ?h
  case f => exact fun o _ => o
  case h => exact rfl
noncomputable def ko158 : Obj := { cls := Value.type "code", data := Data.fields #[Value.str (Str.ofString "_law_from_the_end") 410, Value.str (Str.ofString "_law_from_the_end") 411, Value.str (Str.ofString "/claim/cut.py") 412, Value.int 171 0, Value.int 1 0, Value.int 0 0, Value.int 0 0, Value.int 3 0, Value.ref 155, Value.bool true, Value.int 181 0, Value.ref 156, Value.none, Value.none, Value.none, Value.ref 157, Value.int 413 0, Value.int 171 0, Value.str (Str.ofString "/claim/cut.py") 414] }
noncomputable def ko159 : Obj := by
  refine' (?f : (o : Obj) → fnIn st20 (fun a b sc => ({ cls := Value.type "function", data := Data.func { name := Str.ofString "_law_from_the_end", qualname := Str.ofString "_law_from_the_end", params := a, body := FuncBody.stmts b, scope := sc, globals := 3, closure := [], defaults := Value.none, kwdefaults := Value.none, pyModule := Value.str (Str.ofString "law_sn0046_01") 360, code := Value.ref 158 } } : Obj)) = some o → Obj) _ ?h
  case f => exact fun o _ => o
  case h => exact rfl
noncomputable def ko165 : Obj := { cls := Value.type "code", data := Data.fields #[Value.str (Str.ofString "_law_kinds") 416, Value.str (Str.ofString "_law_kinds") 417, Value.str (Str.ofString "/claim/cut.py") 418, Value.int 180 0, Value.int 2 0, Value.int 0 0, Value.int 0 0, Value.int 3 0, Value.ref 160, Value.bool true, Value.int 181 0, Value.ref 161, Value.none, Value.ref 162, Value.ref 163, Value.ref 164, Value.int 428 0, Value.int 180 0, Value.str (Str.ofString "/claim/cut.py") 429] }
noncomputable def ko166 : Obj := by
  refine' (?f : (o : Obj) → fnIn st21 (fun a b sc => ({ cls := Value.type "function", data := Data.func { name := Str.ofString "_law_kinds", qualname := Str.ofString "_law_kinds", params := a, body := FuncBody.stmts b, scope := sc, globals := 3, closure := [], defaults := Value.none, kwdefaults := Value.none, pyModule := Value.str (Str.ofString "law_sn0046_01") 360, code := Value.ref 165 } } : Obj)) = some o → Obj) _ ?h
  case f => exact fun o _ => o
  case h => exact rfl
noncomputable def ko170 : Obj := { cls := Value.type "code", data := Data.fields #[Value.str (Str.ofString "law") 431, Value.str (Str.ofString "law") 432, Value.str (Str.ofString "/claim/cut.py") 433, Value.int 199 0, Value.int 1 0, Value.int 0 0, Value.int 0 0, Value.int 3 0, Value.ref 167, Value.bool true, Value.int 181 0, Value.ref 168, Value.none, Value.none, Value.none, Value.ref 169, Value.int 434 0, Value.int 199 0, Value.str (Str.ofString "/claim/cut.py") 435] }
noncomputable def ko171 : Obj := by
  refine' (?f : (o : Obj) → fnIn st22 (fun a b sc => ({ cls := Value.type "function", data := Data.func { name := Str.ofString "law", qualname := Str.ofString "law", params := a, body := FuncBody.stmts b, scope := sc, globals := 3, closure := [], defaults := Value.none, kwdefaults := Value.none, pyModule := Value.str (Str.ofString "law_sn0046_01") 360, code := Value.ref 170 } } : Obj)) = some o → Obj) _ ?h
  case f => exact fun o _ => o
  case h => exact rfl
noncomputable def K : Params → Frag := fun P => [(nat_lit 2, ko2), (nat_lit 3, ko3 P), (nat_lit 27, ko27), (nat_lit 28, ko28), (nat_lit 41, ko41), (nat_lit 42, ko42), (nat_lit 48, ko48), (nat_lit 49, ko49), (nat_lit 65, ko65), (nat_lit 66, ko66), (nat_lit 110, ko110 P), (nat_lit 111, ko111), (nat_lit 121, ko121), (nat_lit 122, ko122), (nat_lit 126, ko126), (nat_lit 127, ko127), (nat_lit 131, ko131), (nat_lit 132, ko132), (nat_lit 136, ko136), (nat_lit 137, ko137), (nat_lit 141, ko141), (nat_lit 142, ko142), (nat_lit 148, ko148), (nat_lit 149, ko149), (nat_lit 153, ko153), (nat_lit 154, ko154), (nat_lit 158, ko158), (nat_lit 159, ko159), (nat_lit 165, ko165), (nat_lit 166, ko166), (nat_lit 170, ko170), (nat_lit 171, ko171)]
noncomputable def kas : List Addr := [nat_lit 2, nat_lit 3, nat_lit 27, nat_lit 28, nat_lit 41, nat_lit 42, nat_lit 48, nat_lit 49, nat_lit 65, nat_lit 66, nat_lit 110, nat_lit 111, nat_lit 121, nat_lit 122, nat_lit 126, nat_lit 127, nat_lit 131, nat_lit 132, nat_lit 136, nat_lit 137, nat_lit 141, nat_lit 142, nat_lit 148, nat_lit 149, nat_lit 153, nat_lit 154, nat_lit 158, nat_lit 159, nat_lit 165, nat_lit 166, nat_lit 170, nat_lit 171]

theorem law_is : law = Challenge.rw_sn0046_01 := rfl
end Mine.Hd


noncomputable def Mine.Hd.view : Program := { Mine.Hd.law.row.toRowW.1 with main := { Mine.Hd.law.row.toRowW.1.main with body := [Mine.Hd.st0, Mine.Hd.st2, Mine.Hd.st3, Mine.Hd.st4, Mine.Hd.st6, Mine.Hd.st8, Mine.Hd.st9, Mine.Hd.st11, Mine.Hd.st13, Mine.Hd.st14, Mine.Hd.st15, Mine.Hd.st16, Mine.Hd.st17, Mine.Hd.st18, Mine.Hd.st19, Mine.Hd.st20, Mine.Hd.st21, Mine.Hd.st22] } }



namespace Mine.Hd
noncomputable def bootTree (P : Params) : BT :=
  (((((((((((BT.nil.ins 0 (boot_o_0 P)).ins 1 (boot_o_1 P)).ins 2 (boot_o_2 P)).ins 3 (boot_o_3 P)).ins 4 (boot_o_4 P)).ins 5 (boot_o_5 P)).ins 6 (boot_o_6 P)).ins 7 (boot_o_7 P)).ins 8 (boot_o_8 P)).ins 9 (boot_o_9 P)).ins 10 (boot_o_10 P))
noncomputable def bootT (w : World) (os : OsState) : SharedT := ⟨bootTree w.params, 11, {}, Array.mk [], boot_drawn, boot_toks, os⟩
theorem boot_abs (w : World) (os : OsState) : (bootT w os).abs = ⟨boot_heap w.params, Array.mk [], boot_drawn, boot_toks, os⟩ := by kernel_rfl
noncomputable def topRunT (tb : String → Option Builtin) (p : Program) (w : World) (n₀ : Nat) (ann : Option Value) : Nat → SharedT → Thread → Option SharedT
  | 0, _, _ => none
  | n + 1, s, t => match through t with
    | true => some s
    | false => match stepOk n₀ ann t with
      | false => none
      | true => match stepT (denote tb) p w s t with
        | some (s', t') => topRunT tb p w n₀ ann n s' t'
        | none => none
theorem topRun_of {tb : String → Option Builtin} {p : Program} {w : World} {n₀ : Nat} {ann : Option Value} : ∀ {n : Nat} {s s' : SharedT} {t : Thread}, topRunT tb p w n₀ ann n s t = some s' → topRun tb p w n₀ ann n s.abs t = some s'.abs
  | 0, _, _, _, h => by cases h
  | n + 1, s, s', t, h => by
    unfold topRunT at h
    unfold topRun
    cases he : through t with
    | true => rw [he] at h; cases h; rfl
    | false =>
      rw [he] at h
      cases hk : stepOk n₀ ann t with
      | false => rw [hk] at h; cases h
      | true =>
        rw [hk] at h
        cases hs : stepT (denote tb) p w s t with
        | none => rw [hs] at h; cases h
        | some r => obtain ⟨s₂, t₂⟩ := r; rw [hs] at h; rw [stepT_spec hs]; exact topRun_of h
theorem left_tree {p q : Program} {loose : List Str} {Xt : Shared → Bool} {α : Type} {Yf : Shared → α} {Ya : World → α} {N : Nat}
    (e : opening p = plainProg p.main.scope.names) (hN : Nat.ble 600 N = true) (f : ∀ s, fenceModules? p s = some s)
    (h : ∀ w : World, ∀ os : OsState, (topRunT treeTable p w 11 (some (.ref 6)) N (bootT w os) (topStub p)).map (fun s =>
        (staticsOk (importedModules p.main.body) (boot_heap w.params) s.abs.heap && namesBound p s.abs.heap && gensDone s.abs && laidKept (boot_heap w.params) s.abs.heap,
          openSeen q loose (importedModules p.main.body) Xt true s.abs, Yf s.abs)) = some (true, openGood q loose, Ya w)) :
    LeftO p q loose Xt Yf Ya N := fun w => by
  obtain ⟨⟨h0, gs, d, k, os⟩, b1, b2⟩ := Option.map_eq_some_iff.mp (boot_open e hN f w)
  obtain ⟨rfl, rfl, rfl, rfl⟩ : h0 = boot_heap w.params ∧ gs = Array.mk [] ∧ d = boot_drawn ∧ k = boot_toks := by simpa using b2
  obtain ⟨s, c1, c2⟩ := Option.map_eq_some_iff.mp (h w os)
  obtain ⟨l1, l2, l3⟩ : _ ∧ _ ∧ _ := by simpa only [Prod.mk.injEq] using c2
  have r := topRun_of c1
  rw [boot_abs] at r
  have t : topFrom treeTable p w N ⟨boot_heap w.params, Array.mk [], boot_drawn, boot_toks, os⟩ = some s.abs := by
    unfold topFrom
    have z1 : ((boot_heap w.params).isNs mainGlobals && (Array.mk ([] : List GenState)).size == 0) = true := by kernel_rfl
    have z2 : (boot_heap w.params).objs.size = 11 := by kernel_rfl
    have z3 : (boot_heap w.params).nsMap mainGlobals "__annotations__" = some (.ref 6) := by kernel_rfl
    dsimp only
    rw [z1, z2, z3, r]
    show (match staticsOk (importedModules p.main.body) (boot_heap w.params) s.abs.heap && namesBound p s.abs.heap && gensDone s.abs && laidKept (boot_heap w.params) s.abs.heap with | true => _ | false => _) = _
    rw [l1]
  unfold openEnds
  rw [b1]
  show (topFrom treeTable p w N ⟨boot_heap w.params, Array.mk [], boot_drawn, boot_toks, os⟩).map _ = _
  rw [t]
  show some (openSeen q loose (importedModules p.main.body) Xt true s.abs, Yf s.abs) = _
  rw [l2, l3]
end Mine.Hd

namespace Mine.Hd

noncomputable def obs (s : Shared) : List (Option Obj) := (fun s => [s.heap.get? 2, s.heap.get? 3, s.heap.get? 27, s.heap.get? 28, s.heap.get? 41, s.heap.get? 42, s.heap.get? 48, s.heap.get? 49, s.heap.get? 65, s.heap.get? 66, s.heap.get? 110, s.heap.get? 111, s.heap.get? 121, s.heap.get? 122, s.heap.get? 126, s.heap.get? 127, s.heap.get? 131, s.heap.get? 132, s.heap.get? 136, s.heap.get? 137, s.heap.get? 141, s.heap.get? 142, s.heap.get? 148, s.heap.get? 149, s.heap.get? 153, s.heap.get? 154, s.heap.get? 158, s.heap.get? 159, s.heap.get? 165, s.heap.get? 166, s.heap.get? 170, s.heap.get? 171]) s
noncomputable def val (w : World) : List (Option Obj) := (fun w => [some ko2, some (ko3 w.params), some ko27, some ko28, some ko41, some ko42, some ko48, some ko49, some ko65, some ko66, some (ko110 w.params), some ko111, some ko121, some ko122, some ko126, some ko127, some ko131, some ko132, some ko136, some ko137, some ko141, some ko142, some ko148, some ko149, some ko153, some ko154, some ko158, some ko159, some ko165, some ko166, some ko170, some ko171]) w

theorem prime : Function.const _ true (@topRunT, Mine.Hd.law, Mine.Hd.view, @val) = true := by k_qdec
theorem wsp : Str.ofString "Whitespace" = Str.mk (Array.mk [87, 104, 105, 116, 101, 115, 112, 97, 99, 101]) := Fast.ofString_ofList ['W', 'h', 'i', 't', 'e', 's', 'p', 'a', 'c', 'e']
def RowOk (w : World) : Prop := ∀ os : OsState, (topRunT treeTable Mine.Hd.law.row.prog w 11 (some (.ref 6)) 2140 (bootT w os) (topStub Mine.Hd.law.row.prog)).map (fun s =>
        (staticsOk (importedModules Mine.Hd.law.row.prog.main.body) (boot_heap w.params) s.abs.heap && namesBound Mine.Hd.law.row.prog s.abs.heap && gensDone s.abs && laidKept (boot_heap w.params) s.abs.heap,
   openSeen Mine.Hd.view [Str.ofString "Whitespace"] (importedModules Mine.Hd.law.row.prog.main.body) (fun s => xlAt Mine.Hd.view [] s && recOk (RowW.records Mine.Hd.law.row.toRowW) s) true s.abs, obs s.abs)) = some (true, openGood Mine.Hd.view [Str.ofString "Whitespace"], val w)
theorem rowF (w : World) : RowOk (w.withFollow "special-get-raises" false) := by
  intro os
  rewrite [wsp, PySem.W.Fast.te5923862056798008813, PySem.W.Fast.te2368527892694137696, PySem.W.Fast.te12789675229958926294, PySem.W.Fast.te4187177175401517315, PySem.W.Fast.te7353748235471265468, PySem.W.Fast.te1530396689234351972, PySem.W.Fast.te14364793385576792824, PySem.W.Fast.te3398882593279934937]
  kernel_rfl
theorem rowT (w : World) : RowOk (w.withFollow "special-get-raises" true) := by
  intro os
  rewrite [wsp, PySem.W.Fast.te5923862056798008813, PySem.W.Fast.te2368527892694137696, PySem.W.Fast.te12789675229958926294, PySem.W.Fast.te4187177175401517315, PySem.W.Fast.te7353748235471265468, PySem.W.Fast.te1530396689234351972, PySem.W.Fast.te14364793385576792824, PySem.W.Fast.te3398882593279934937]
  kernel_rfl
theorem left : LeftO Mine.Hd.law.row.toRowW.1 Mine.Hd.view [Str.ofString "Whitespace"] (fun s => xlAt Mine.Hd.view [] s && recOk (RowW.records Mine.Hd.law.row.toRowW) s) obs val 2140 :=
  left_tree (by kernel_rfl) (by kernel_rfl) (fun s => by kernel_rfl) (byRow2 "special-get-raises" rowF rowT)
theorem kas_eq (P : Params) : kas = (K P).map (·.1) := by kernel_rfl
theorem kin (w : World) (s : Shared) (e : obs s = val w) : (kHook K kas kas_eq).says w s.heap := InK.of kas_eq w s e

theorem left' : LeftO Challenge.rw_sn0046_01.row.prog Mine.Hd.view [Str.ofString "Whitespace"] (fun s => xlAt Mine.Hd.view [] s && recOk (RowW.records Challenge.rw_sn0046_01.row.toRowW) s) obs val 2140 := by
  have h := left
  rewrite [law_is] at h
  exact h
theorem by_law (h : Mine.Hd.law.row.wellSaid = true → Mine.Hd.law.row.Holds) : Mine.Hd.law.Holds := by
  o_law
  exact h (by assumption)
theorem by_row (h : Challenge.rw_sn0046_01.row.wellSaid = true → Challenge.rw_sn0046_01.row.Holds) : Challenge.rw_sn0046_01.Holds := law_is ▸ by_law (law_is ▸ h)
end Mine.Hd
local macro_rules
  | `(tactic| o_law) => `(tactic| refine Mine.Hd.by_row fun said => ?_)
local macro_rules
  | `(tactic| k_head) => `(tactic| (refine holds_open (q := Mine.Hd.view) (loose := [Str.ofString "Whitespace"]) (Xt := fun s => xlAt Mine.Hd.view [] s && recOk (RowW.records Challenge.rw_sn0046_01.row.toRowW) s) (XP := XL Mine.Hd.view []) (Yf := Mine.Hd.obs) (Ya := Mine.Hd.val) (YP := Hook.says (kHook Mine.Hd.K Mine.Hd.kas Mine.Hd.kas_eq)) (N := 2140) Mine.Hd.left' Mine.Hd.kin (Hook.keeps (kHook Mine.Hd.K Mine.Hd.kas Mine.Hd.kas_eq)) (fun s e => xl_of s (Bool.and_eq_true_iff.mp e).1) XL.keeps (by rfl) (by rfl) (by rfl) (fun s e => recFacts_of (Bool.and_eq_true_iff.mp e).2) (by first | rfl) (by first | assumption | decide +kernel) (by decide +kernel) ⟨rfl, rfl, rfl, rfl, rfl, by decide +kernel⟩ ?hw ?hc))
namespace Mine
open_top hd for PySem.Challenge.rw_sn0046_01
end Mine
end

section
open PySem PySem.W PySem.Calls PyProof.Rows
namespace Mine
noncomputable abbrev PG : Program := RowW.prog (OpenRow.toRowW (OpenLaw.row Challenge.rw_sn0046_01))



/-- a call of f on vs hands back what `Q` is told of, from any function's frame -/
abbrev Ctr (room : Nat) (w : World) (mean : ExcName → Option Value) (mg mb : Str → Option Value) (f : Addr) (vs : List Value) (R : Tok → Value) : Prop :=
  ∀ (dp un : Nat) (gd : Option (List Code)) (cn : Str) (cs : Scope) (a : Addr) (ccd : Value) (cl : List (Str × Addr)) (outer : List Env) (A₀ : Around) (base h₀ : Heap) (L : Addr) (m : Str → Option Value) (news : List (Addr × Obj)) (s : Shared) (Q E : Value → Shared → Prop),
    Below A₀ base outer h₀ → Fr h₀ L s.heap m → Frag.In (Mine.Hd.K (World.params w)) h₀ → News h₀ L s.heap news → Top Mine.Hd.view (looseW Mine.Hd.view [Str.ofString "Whitespace"]) mean mg mb h₀ → cs.kind = .function →
    dp + room < recursionLimit → un + 8 * room < cLine → CbRet h₀ L m news s Q R →
      wpAny (model PG w) (ktrTop dp un gd cn cs L a ccd cl outer) (call (.ref f) vs) Q E s
end Mine
namespace Mine
section
variable {h₀ h' : Heap} {L : Addr} {m : Str → Option Value} {news news' : List (Addr × Obj)} {s : Shared} {Q : Value → Shared → Prop} {tk' : Nat}
theorem news_sub {h : Heap} (N : News h₀ L h news') (hs : ∀ p ∈ news, p ∈ news') : News h₀ L h news := fun p hp => N p (hs p hp)
theorem endB {x y : Bool} (hret : CbRet h₀ L m news s Q (fun _ => .bool x)) (F : Fr h₀ L h' m) (N : News h₀ L h' news') (hs : ∀ p ∈ news, p ∈ news') (e : y = x) : Q (.bool y) { s with heap := h', toks := tk' } := by
  subst e; exact hret 0 h' tk' F (news_sub N hs)
theorem endS {x y : Str} {t : Tok} (hret : CbRet h₀ L m news s Q (fun t => .str x t)) (F : Fr h₀ L h' m) (N : News h₀ L h' news') (hs : ∀ p ∈ news, p ∈ news') (e : y = x) : Q (.str y t) { s with heap := h', toks := tk' } := by
  subst e; exact hret t h' tk' F (news_sub N hs)
theorem endF {x y : UInt64} {t : Tok} (hret : CbRet h₀ L m news s Q (fun t => .float x t)) (F : Fr h₀ L h' m) (N : News h₀ L h' news') (hs : ∀ p ∈ news, p ∈ news') (e : y = x) : Q (.float y t) { s with heap := h', toks := tk' } := by
  subst e; exact hret t h' tk' F (news_sub N hs)
end
end Mine
namespace Mine
/-- a call of f on vs hands back an object that it made (or any value), told by R -/
abbrev CtrO (room : Nat) (w : World) (mean : ExcName → Option Value) (mg mb : Str → Option Value) (f : Addr) (vs : List Value) (R : Value → List (Addr × Obj) → Prop) : Prop :=
  ∀ (dp un : Nat) (gd : Option (List Code)) (cn : Str) (cs : Scope) (a : Addr) (ccd : Value) (cl : List (Str × Addr)) (outer : List Env) (A₀ : Around) (base h₀ : Heap) (L : Addr) (m : Str → Option Value) (news : List (Addr × Obj)) (s : Shared) (Q E : Value → Shared → Prop),
    Below A₀ base outer h₀ → Fr h₀ L s.heap m → Frag.In (Mine.Hd.K (World.params w)) h₀ → News h₀ L s.heap news → Top Mine.Hd.view (looseW Mine.Hd.view [Str.ofString "Whitespace"]) mean mg mb h₀ → cs.kind = .function →
    dp + room < recursionLimit → un + 8 * room < cLine → (∀ v tl h' tk', Fr h₀ L h' m → News h₀ L h' (tl ++ news) → (∀ p ∈ tl, ∀ q ∈ news, p.1 ≠ q.1) → R v tl → Q v { s with heap := h', toks := tk' }) →
      wpAny (model PG w) (ktrTop dp un gd cn cs L a ccd cl outer) (call (.ref f) vs) Q E s
end Mine
namespace Mine
/-- as CtrO, of a ledger that holds what is handed in -/
abbrev CtrP (room : Nat) (w : World) (mean : ExcName → Option Value) (mg mb : Str → Option Value) (f : Addr) (vs : List Value) (Pre : List (Addr × Obj) → Prop) (R : Value → List (Addr × Obj) → Prop) : Prop :=
  ∀ (dp un : Nat) (gd : Option (List Code)) (cn : Str) (cs : Scope) (a : Addr) (ccd : Value) (cl : List (Str × Addr)) (outer : List Env) (A₀ : Around) (base h₀ : Heap) (L : Addr) (m : Str → Option Value) (news : List (Addr × Obj)) (s : Shared) (Q E : Value → Shared → Prop),
    Below A₀ base outer h₀ → Fr h₀ L s.heap m → Frag.In (Mine.Hd.K (World.params w)) h₀ → News h₀ L s.heap news → Top Mine.Hd.view (looseW Mine.Hd.view [Str.ofString "Whitespace"]) mean mg mb h₀ → cs.kind = .function →
    dp + room < recursionLimit → un + 8 * room < cLine → Pre news → (∀ v tl h' tk', Fr h₀ L h' m → News h₀ L h' (tl ++ news) → (∀ p ∈ tl, ∀ q ∈ news, p.1 ≠ q.1) → R v tl → Q v { s with heap := h', toks := tk' }) →
      wpAny (model PG w) (ktrTop dp un gd cn cs L a ccd cl outer) (call (.ref f) vs) Q E s
/-- what omega is not to see; `assumption` sees through it -/
def Hide (p : Prop) : Prop := p
/-- marks that switch the walk's stops on -/
def OnRef : Prop := True
def OnComp : Prop := True
def OnList : Prop := True
end Mine

end
section
open PySem PySem.W PySem.Calls PyProof.Rows
namespace Mine
open PySem.StrLaws PySem.Builtin.Str

def DOTS : Str := ⟨#[46, 46, 46]⟩
theorem dots_eq : Str.ofString "..." = DOTS := by decide +kernel

theorem occ_single {s sub : Str} {p limit : Nat} (hl : 1 ≤ limit) (hp : 0 < sub.length) (h : ∀ i, At s sub s.length i ↔ i = p) :
    occurrences s sub 0 s.length limit = [p] := by
  obtain ⟨f, hc⟩ := occ_chain s sub limit
  rcases occ_head s sub limit hl with ⟨_, hn⟩ | ⟨i, r, e, hi, _⟩
  · exact absurd ((h p).mpr rfl) (hn p)
  · have ip := (h i).mp hi
    subst ip
    rw [e] at hc ⊢
    cases r with
    | nil => rfl
    | cons c r' =>
      exfalso
      obtain ⟨_, _, h3⟩ := hc
      obtain ⟨h4, h5, _⟩ := h3
      have := (h c).mp h5
      omega

theorem kind_pos (s : Str) : 1 ≤ PySem.Builtin.Str.strKind s := by
  unfold PySem.Builtin.Str.strKind
  split
  · exact Nat.le_refl _
  · split <;> omega
theorem kind_dots : PySem.Builtin.Str.strKind DOTS = 1 := by decide +kernel

theorem split_single {s : Str} {p : Nat} (h : ∀ i, At s DOTS s.length i ↔ i = p) :
    Txt.split s DOTS = [strSub s 0 p, strSub s (p + 3) s.length] ∧ (occurrences s DOTS 0 s.length 1).isEmpty = false := by
  have hd : DOTS.length = 3 := rfl
  have hlen : p + 3 ≤ s.length := by
    have := ((h p).mpr rfl).1
    rw [hd] at this
    exact this
  refine ⟨?_, by rw [occ_single (Nat.le_refl _) (by decide) h]; rfl⟩
  unfold Txt.split
  have hk := kind_pos s
  rw [kind_dots, hd]
  have e1 : (decide (s.length < 3) || decide (PySem.Builtin.Str.strKind s < 1)) = false := by
    rw [Bool.or_eq_false_iff]
    constructor <;> (rw [decide_eq_false_iff_not]; omega)
  rw [e1, if_neg (by decide), occ_single (by omega) (by decide) h]
  rfl

/-- no dot stands in it -/
def Plain (x : Str) : Prop := ∀ c ∈ x.cps.toList, c ≠ 46

theorem at_dots {s : Str} {i : Nat} : At s DOTS s.length i ↔ (i + 3 ≤ s.length ∧ s.cps.toList[i]? = some 46 ∧ s.cps.toList[i+1]? = some 46 ∧ s.cps.toList[i+2]? = some 46) := by
  unfold At
  rw [subAt_eq]
  show i + 3 ≤ s.length ∧ (List.take 3 (List.drop i s.cps.toList) == [46, 46, 46]) = true ↔ _
  have hs : s.length = s.cps.toList.length := by simp [Str.length]
  constructor
  · rintro ⟨h1, h2⟩
    have h2 := beq_iff_eq.mp h2
    refine ⟨h1, ?_, ?_, ?_⟩
    · have := congrArg (·[0]?) h2; simpa [List.getElem?_take, List.getElem?_drop] using this
    · have := congrArg (·[1]?) h2; simpa [List.getElem?_take, List.getElem?_drop] using this
    · have := congrArg (·[2]?) h2; simpa [List.getElem?_take, List.getElem?_drop] using this
  · rintro ⟨h1, h2, h3, h4⟩
    refine ⟨h1, beq_iff_eq.mpr ?_⟩
    apply List.ext_getElem?
    intro k
    match k with
    | 0 => simpa [List.getElem?_take, List.getElem?_drop] using h2
    | 1 => simpa [List.getElem?_take, List.getElem?_drop] using h3
    | 2 => simpa [List.getElem?_take, List.getElem?_drop] using h4
    | k + 3 => simp [List.getElem?_take]; omega

theorem len_dots (x : Str) : (DOTS ++ x).length = x.length + 3 := by rw [Str.length_append]; show 3 + _ = _; omega
theorem dots_len (x : Str) : (x ++ DOTS).length = x.length + 3 := by rw [Str.length_append]; rfl

theorem at_front {x : Str} (hx : Plain x) (i : Nat) : At (DOTS ++ x) DOTS (DOTS ++ x).length i ↔ i = 0 := by
  rw [at_dots, len_dots]
  have e : (DOTS ++ x).cps.toList = [46, 46, 46] ++ x.cps.toList := by rw [Str.cps_append, Array.toList_append]; rfl
  rw [e]
  constructor
  · rintro ⟨h1, h2, h3, h4⟩
    match i with
    | 0 => rfl
    | i + 1 =>
      exfalso
      rw [List.getElem?_append_right (by simp)] at h4
      have := List.mem_of_getElem? h4
      exact hx _ this rfl
  · rintro rfl
    exact ⟨by omega, rfl, rfl, rfl⟩

theorem at_back {x : Str} (hx : Plain x) (i : Nat) : At (x ++ DOTS) DOTS (x ++ DOTS).length i ↔ i = x.length := by
  rw [at_dots, dots_len]
  have e : (x ++ DOTS).cps.toList = x.cps.toList ++ [46, 46, 46] := by rw [Str.cps_append, Array.toList_append]; rfl
  have hs : x.length = x.cps.toList.length := by simp [Str.length]
  rw [e]
  constructor
  · rintro ⟨h1, h2, h3, h4⟩
    rcases Nat.lt_or_ge i x.length with h | h
    · exfalso
      rw [List.getElem?_append_left (by omega)] at h2
      exact hx _ (List.mem_of_getElem? h2) rfl
    · omega
  · rintro rfl
    refine ⟨by omega, ?_, ?_, ?_⟩
    · rw [hs, List.getElem?_append_right (by omega)]; simp
    · rw [hs, List.getElem?_append_right (by omega)]; simp
    · rw [hs, List.getElem?_append_right (by omega)]; simp

theorem sub_front (x : Str) : strSub (DOTS ++ x) (0 + 3) (DOTS ++ x).length = x := by
  apply Str.ext'
  apply Array.toList_inj.mp
  rw [strSub_toList, len_dots, Str.cps_append, Array.toList_append]
  show (List.drop 3 ([46, 46, 46] ++ x.cps.toList)).take _ = _
  rw [List.drop_left' (by rfl)]
  exact List.take_of_length_le (by simp [Str.length])
theorem sub_back (x : Str) : strSub (x ++ DOTS) 0 x.length = x := by
  apply Str.ext'
  apply Array.toList_inj.mp
  rw [strSub_toList, Str.cps_append, Array.toList_append]
  show (x.cps.toList ++ _).take _ = _
  exact List.take_left' (by simp [Str.length])
theorem sub_nil (x : Str) (i : Nat) : strSub x i i = ⟨#[]⟩ := by
  apply Str.ext'
  apply Array.toList_inj.mp
  rw [strSub_toList]
  simp

theorem split_front {x : Str} (hx : Plain x) : Txt.split (Str.ofString "..." ++ x) (Str.ofString "...") = [⟨#[]⟩, x] := by
  rw [dots_eq, (split_single (at_front hx)).1, sub_front, sub_nil]
theorem has_front {x : Str} (hx : Plain x) : (occurrences (Str.ofString "..." ++ x) (Str.ofString "...") 0 (Str.ofString "..." ++ x).length 1).isEmpty = false := by
  rw [dots_eq]; exact (split_single (at_front hx)).2
theorem split_back {x : Str} (hx : Plain x) : Txt.split (x ++ Str.ofString "...") (Str.ofString "...") = [x, ⟨#[]⟩] := by
  rw [dots_eq, (split_single (at_back hx)).1, sub_back, ← dots_len, sub_nil]
theorem has_back {x : Str} (hx : Plain x) : (occurrences (x ++ Str.ofString "...") (Str.ofString "...") 0 (x ++ Str.ofString "...").length 1).isEmpty = false := by
  rw [dots_eq]; exact (split_single (at_back hx)).2

open PySem.Builtin in
theorem gives_find4 (x y : Str) (i j : Int) (t u v v' : Tok) : Gives («str.find» ⟨[.str x t, .str y u, .int i v, .int j v'], []⟩) (.int (match occurrences x y (fromIndex x.length i) (min (fromIndex x.length j) x.length) 1 with | k :: _ => (k : Int) | [] => -1)) := by
  show Gives (match occurrences x y (fromIndex x.length i) (min (fromIndex x.length j) x.length) 1 with | k :: _ => retInt k | [] => (do rule "str.find.not-found"; retInt (-1))) _
  cases occurrences x y (fromIndex x.length i) (min (fromIndex x.length j) x.length) 1 with
  | nil => exact .rule (.of_eq rfl)
  | cons k _ => exact .of_eq rfl

theorem occ_empty (x : Str) {lo hi : Nat} (hl : lo ≤ hi) : ∃ r, occurrences x ⟨#[]⟩ lo hi 1 = lo :: r := by
  rw [occ_eq]
  have e : hi + 1 - lo = (hi - lo) + 1 := by omega
  rw [e, List.range'_succ, List.forIn_cons]
  have h0 : occBody x ⟨#[]⟩ hi 1 lo (#[], lo) = pure (ForInStep.yield (#[lo], lo)) := by
    unfold occBody
    rw [if_pos]
    · rfl
    · refine ⟨⟨⟨Nat.zero_lt_one, Nat.le_refl _⟩, hl⟩, ?_⟩
      rw [subAt_eq]; rfl
  rw [h0]
  have hk := occ_head_keeps x ⟨#[]⟩ hi 1 lo (List.range' (lo + 1) (hi - lo) 1) (#[lo], lo) rfl
  show ∃ r, (forIn (List.range' (lo + 1) (hi - lo)) (#[lo], lo) (occBody x ⟨#[]⟩ hi 1) : Id (Array Nat × Nat)).run.fst.toList = lo :: r
  generalize (forIn (List.range' (lo + 1) (hi - lo) 1) (#[lo], lo) (occBody x ⟨#[]⟩ hi 1) : Id (Array Nat × Nat)).run.fst = z at hk ⊢
  obtain ⟨l⟩ := z
  cases l with
  | nil => cases hk
  | cons a r => exact ⟨r, by simpa using hk⟩

theorem find_empty {prog : Program} {w : World} {A : Around} {E : Value → Shared → Prop} {s : Shared} {x : Str} {t u v v' : Tok} {i j : Int} {Q : Value → Shared → Prop} (h0 : 0 ≤ i) (h1 : i ≤ j) (h2 : j ≤ (x.length : Int))
    (hq : Q (.int i s.toks) { s with toks := s.toks + 1 }) : wpAny (model prog w) A (call (.builtin "str.find") [.str x t, .str ⟨#[]⟩ u, .int i v, .int j v']) Q E s :=
  call_gives F.slot_str_find (typeIs_str _ _ _) F.entry_str_find (F.args_str_find_4 _ _ _ _) (gives_find4 x ⟨#[]⟩ i j t u v v') (by
    have ei : fromIndex x.length i = i.toNat := by
      unfold fromIndex; rw [if_neg (by omega)]; congr 1; omega
    have ej : fromIndex x.length j = j.toNat := by
      unfold fromIndex; rw [if_neg (by omega)]; congr 1; omega
    obtain ⟨r, e⟩ := occ_empty x (lo := i.toNat) (hi := min j.toNat x.length) (by omega)
    rw [ei, ej, e]
    have : ((i.toNat : Nat) : Int) = i := by omega
    show Q (.int ((i.toNat : Nat) : Int) _) _
    rw [this]
    exact hq)
theorem starts_le {x y : Str} (h : Txt.startswith x y = true) : y.length ≤ x.length := by
  unfold Txt.startswith at h
  simp at h; omega
theorem ends_le {x y : Str} (h : Txt.endswith x y = true) : y.length ≤ x.length := by
  unfold Txt.endswith at h
  simp at h; omega
theorem str_nil {x : Str} (h : ((x.length : Nat) : Int) = 0) : x = ⟨#[]⟩ := by
  apply Str.ext'
  apply Array.eq_empty_of_size_eq_zero
  have : x.length = x.cps.size := rfl
  omega
theorem starts_nil (y : Str) : Txt.startswith y ⟨#[]⟩ = true := by
  unfold Txt.startswith
  rw [subAt_eq]
  simp [Str.length]
end Mine

end
section
open PySem PySem.W PySem.Calls PyProof.Rows PyProof.V PySem.Spec
namespace Mine
section
variable {prog : Program} {w : World} {A : Around} {E : Value → Shared → Prop} {s : Shared} {env : Env} {h₀ : Heap} {x : Str} {body : List Stmt} {Q : Flow → Shared → Prop}

/-- a loop over a list of the call's own that is not asked behind the loop; nothing is said of the frame behind it -/
theorem iter_forget {l : Addr} {vs : List Value} {nn : Nat} {m₀ : Str → Option Value} {news : List (Addr × Obj)} (J : Nat → (Str → Option Value) → Prop)
    (hh : A.handled = none) (hl : s.heap.get? l = some (listOf vs.toArray nn)) (hL : l ≠ env.locals) (hn : ∀ q ∈ news, q.1 ≠ l) (F : Fr h₀ env.locals s.heap m₀) (N : News h₀ env.locals s.heap news) (hj : J 0 m₀)
    (turn : ∀ i v m₁ h tk own, i < vs.length → vs[i]? = some v → J i m₁ → Fr h₀ env.locals h (fun y => if y = x then some v else m₁ y) → News h₀ env.locals h (news ++ own) →
      wpAny (model prog w) A (execs body env) (InvPostN h₀ env.locals (fun m nx => nx = news ∧ J (i + 1) m) own (news.map (·.1)) { s with heap := h, toks := tk } Q) E { s with heap := h, toks := tk })
    (done : ∀ m₁ h tk, J vs.length m₁ → Fr h₀ env.locals h m₁ → News h₀ env.locals h news → Q .next { s with heap := h, toks := tk }) :
    wpAny (model prog w) A (pyIter (.ref l)) (fun it s₂ => LoopAtV prog w A h₀ env x body Q E it s₂) E s := by
  have hls : s.heap.IsList l vs.toArray := ⟨_, hl, rfl, nn, rfl⟩
  have hne : l ≠ s.heap.objs.size := Nat.ne_of_lt (Heap.lt_size hl)
  refine wpAny_pyIter_list hls ?_
  have W := Walks.list (prog := prog) (w := w) hh s.heap.objs.size l hne vs.toArray
  have hlen : vs.toArray.size = vs.length := by simp
  rw [hlen] at W
  refine loop_invN (fun i m nx => nx = news ∧ J i m) W ?_ ?_ ?_ ?_ ⟨⟨_, Heap.get?_push_size _ rfl, rfl, rfl⟩, hls.at fun o e => Heap.get?_push_of_some _ e⟩ (F.push _) (fun p hp => ⟨Heap.get?_push_of_some _ (N p hp).1, (N p hp).2⟩) ⟨rfl, hj⟩ ?_ ?_
  · intro hm
    rcases List.mem_cons.mp hm with e | hm
    · exact absurd F.ns.lt (e ▸ Nat.lt_irrefl _)
    · exact hL (List.mem_singleton.mp hm).symm
  · intro b hb
    rw [List.mem_singleton.mp hb]
    exact next_is_new F
  · intro p hp hI
    exact absurd (Heap.lt_size (N p hp).1) ((List.mem_singleton.mp hI) ▸ Nat.lt_irrefl _)
  · intro p hp hI
    rcases List.mem_cons.mp hI with e | hm
    · exact absurd (Heap.lt_size (N p hp).1) (e ▸ Nat.lt_irrefl _)
    · exact hn p hp (List.mem_singleton.mp hm)
  · rintro i v m₁ nx h tk own hi hv _ _ ⟨rfl, hJ⟩ F₁ N₁
    exact turn i v m₁ h tk own hi (by simpa using hv) hJ F₁ N₁
  · rintro m₁ nx h tk ⟨rfl, hJ⟩ F₁ N₁
    exact done m₁ h tk hJ F₁ N₁
end
/-- what the frame holds, said of the names that are asked -/
def Holds (m : Str → Option Value) (ps : List (Str × Value)) : Prop := ∀ p ∈ ps, m p.1 = some p.2
theorem Holds.nil {m : Str → Option Value} : Holds m [] := fun _ h => nomatch h
theorem Holds.cons {m : Str → Option Value} {k : Str} {v : Value} {ps : List (Str × Value)} (h : m k = some v) (r : Holds m ps) : Holds m ((k, v) :: ps) := fun p hp => by
  rcases List.mem_cons.mp hp with rfl | hp
  · exact h
  · exact r p hp
theorem Holds.set {m : Str → Option Value} {x : Str} {v : Value} {ps : List (Str × Value)} (r : Holds m ps) (h : ∀ p ∈ ps, p.1 ≠ x) : Holds (fun z => if z = x then some v else m z) ps := fun p hp => by
  show (if p.1 = x then some v else m p.1) = some p.2
  rw [if_neg (h p hp)]; exact r p hp
theorem kstB_holds {m : Str → Option Value} {ps : List (Str × Value)} (hp : Holds m ps) : kstB m ps = m := funext fun z => kstB_eq hp fun _ => rfl
theorem fr_known {h₀ h : Heap} {L : Addr} {m : Str → Option Value} (F : Fr h₀ L h m) {ps : List (Str × Value)} (hp : Holds m ps) : Fr h₀ L h (kstB m ps) := by
  rw [kstB_holds hp]; exact F
theorem fr_turn {h₀ h : Heap} {L : Addr} {m : Str → Option Value} {x : Str} {v : Value} (F : Fr h₀ L h (fun z => if z = x then some v else m z)) {ps : List (Str × Value)} (hp : Holds m ps) : Fr h₀ L h (fun z => if z = x then some v else kstB m ps z) := by
  rw [kstB_holds hp]; exact F
end Mine
namespace Mine
/-- the walk is to halt here -/
def Stop (P : Prop) : Prop := P
theorem Stop.mk {P : Prop} (h : Stop P) : P := h
theorem Stop.out {P : Prop} (h : P) : Stop P := h
theorem off_tail {news own : List (Addr × Obj)} {adr : List Addr} {L1 c : Addr} (h1 : ∀ p ∈ news, p.1 < L1) (h2 : OwnOff own adr) (h3 : c ∈ adr) (h4 : L1 ≤ c) : ∀ p ∈ news ++ own, p.1 ≠ c := fun p hp => by
  rcases List.mem_append.mp hp with h | h
  · exact Nat.ne_of_lt (Nat.lt_of_lt_of_le (h1 p h) h4)
  · exact h2 p h c h3
end Mine

end
section
open PySem PySem.W PySem.Calls PyProof.Rows PyProof.V PySem.Spec
namespace Mine
def S (l : List Nat) : Str := ⟨l.toArray⟩
def toL (l : List Int) : List Nat := l.map Int.toNat
/-- is y the tail of x -/
def endsL (x y : List Nat) : Bool := decide (y.length ≤ x.length) && x.drop (x.length - y.length) == y
def shrink (m t : List Nat) : Nat → Nat
  | 0 => 0
  | n + 1 => if n = 0 then 1 else if endsL t (m.take (n + 1)) then n + 1 else shrink m t n
def mirStep (text : List Nat) (c : Nat) : List Nat :=
  let t := text ++ [c]
  let m := t.reverse
  t ++ m.drop (shrink m t t.length)
def mirrored (w : List Nat) : List Nat := w.foldl mirStep []

def wovStep (text : List Nat) (c : Nat) : List Nat := (text.flatMap fun o => if o = c then [o] else [c, o]) ++ [c]
/-- of the signs in the order of the loop: the word from its end -/
def woven (r : List Nat) : List Nat := r.foldl wovStep []

def perStep (p : Int × Int × Int) (c : Nat) : Int × Int × Int :=
  if c = 114 then (p.1, p.2.1 + p.1, p.2.2 + p.1) else if c = 103 then (p.1 + p.2.1, p.2.1, p.2.2 + p.2.1) else (p.1 + p.2.2, p.2.1 + p.2.2, p.2.2)
def perF (w : List Nat) : Int × Int × Int := w.foldl perStep (1, 1, 1)
/-- Whitespace's reading, a sign at a time: the counts, the blanks in a row, the tabs -/
def wsStep (q : List Int × Int × Int) (c : Nat) : List Int × Int × Int :=
  if c = 32 then (q.1, q.2.1 + 1, q.2.2) else
    let cnt := if q.2.1 ≥ (q.1.length : Int) then q.1 ++ List.replicate (q.2.1 - q.1.length + 1).toNat 0 else q.1
    (cnt.set q.2.1.toNat (cnt.getD q.2.1.toNat 0 + 1), 0, q.2.2 + 1)
def wsF (w : List Nat) : List Int × Int × Int := w.foldl wsStep ([], 0, 0)
/-- the law's own reading of the pieces' lengths -/
def normL (pcs : List Int) : List Int × Int :=
  let closed := pcs.take (pcs.length - 1)
  ((List.range ((closed.foldl max 0).toNat + 1)).map fun (k : Nat) => (closed.count (k : Int) : Int), pcs.getD (pcs.length - 1) 0)
/-- the head of i's tree, in at most f steps -/
def root (H : List Int) : Nat → Int → Option Int
  | 0, _ => none
  | f + 1, i => if 0 ≤ i ∧ i < (H.length : Int) then (if H.getD i.toNat 0 = i then some i else root H f (H.getD i.toNat 0)) else none
def joins (place : Int) : List Int → List Int → Int → Option (List Int × Int)
  | [], H, fr => some (H, fr)
  | p :: ps, H, fr =>
    if p ≤ place then
      match root H 64 place with
      | none => none
      | some one => match root H 64 (place - p) with
        | none => none
        | some two => if one = two then joins place ps H fr else joins place ps (H.set one.toNat two) (fr - 1)
    else joins place ps H fr
def kindsF (ps : List Int) : Nat → Int → List Int → List Int → Option (List Int)
  | 0, _, _, K => some K
  | n + 1, place, H, K => match joins place ps (H ++ [place]) 1 with
    | none => none
    | some (H', fr) => kindsF ps n (place + 1) H' (K ++ [(if K = [] then 0 else K.getD (K.length - 1) 0) + fr])
/-- one of the three letters -/
def Rgb (c : Nat) : Prop := c = 114 ∨ c = 103 ∨ c = 98

theorem S_list (l : List Nat) : (S l).cps.toList = l := rfl
theorem S_len (l : List Nat) : (S l).length = l.length := by simp [S, Str.length]
theorem S_of (x : Str) : S x.cps.toList = x := rfl
theorem S_app (a b : List Nat) : S a ++ S b = S (a ++ b) := by
  apply Str.ext'
  rw [Str.cps_append]
  simp [S]
theorem len_toList (x : Str) : x.cps.toList.length = x.length := by simp [Str.length]
theorem rev_eq (x : Str) (u : Tok) : Txt.sliceBy x none none (-1, u) = S x.cps.toList.reverse := by
  apply Str.ext'
  apply Array.toList_inj.mp
  rw [step_rev_list, S_list]
  apply List.ext_getElem?
  intro i
  have hl := len_toList x
  by_cases h : i < x.length
  · rw [List.getElem?_reverse (by omega), List.getElem?_map, List.getElem?_range h, Option.map_some, hl]
    have h2 : x.length - 1 - i < x.cps.size := by show _ < x.length; omega
    simp [Array.getD, h2]
  · rw [List.getElem?_eq_none (by simp; omega), List.getElem?_eq_none (by simp [Str.length] at *; omega)]
theorem take_eq {x : Str} {j : Int} (h0 : 0 ≤ j) (h : j ≤ (x.length : Int)) : StrLaws.sliceText x none (some j) = S (x.cps.toList.take j.toNat) := by
  have hl := len_toList x
  rw [StrLaws.sliceText_to (by omega)]
  simp [S]
theorem drop_eq {x : Str} {j : Int} (h0 : 0 ≤ j) (h : j ≤ (x.length : Int)) : StrLaws.sliceText x (some j) none = S (x.cps.toList.drop j.toNat) := by
  have hl := len_toList x
  rw [StrLaws.sliceText_from (by omega), List.take_of_length_le (by simp; omega)]
  rfl
theorem ends_eq (x y : Str) : Txt.endswith x y = endsL x.cps.toList y.cps.toList := by
  unfold Txt.endswith endsL
  rw [StrLaws.subAt_eq, len_toList, len_toList, Nat.zero_add]
  by_cases h : y.length ≤ x.length
  · rw [List.take_of_length_le (by simp [Str.length] at *; omega)]
  · simp [h]
end Mine

end
section
open PySem PySem.W PySem.Calls PyProof.Rows PyProof.V PySem.Spec
namespace Mine
section
variable {prog : Program} {w : World} {A : Around} {E : Value → Shared → Prop} {s : Shared} {h₀ : Heap} {L : Addr} {m : Str → Option Value} {news : List (Addr × Obj)} {x y : Str} {t u : Tok} {Q : Value → Shared → Prop} {value slice : PySem.Expr}
theorem iadd_gen (hsz : x.length + y.length ≤ sizeLine) (h : ∀ (z : Str) t' k, z = x ++ y → z.length = x.length + y.length → Q (.str z t') { s with toks := k }) : wpAny (model prog w) A (inplaceOp .Add (.str x t) (.str y u)) Q E s :=
  SBL.iadd (fun t' k _ => h _ t' k rfl (Str.length_append x y)) hsz
theorem iadd_sign {n : Nat} (hsz : x.length + 1 ≤ sizeLine) (h : ∀ (z : Str) t' k, z.cps.toList = x.cps.toList ++ [n] → z.length = x.length + 1 → Q (.str z t') { s with toks := k }) : wpAny (model prog w) A (inplaceOp .Add (.str x t) (.str ⟨#[n]⟩ u)) Q E s :=
  SBL.iadd (fun t' k _ => h _ t' k (by rw [Str.cps_append, Array.toList_append]) (Str.length_append x _)) hsz
theorem slice_rev {uk : Tok} (hF : Fr h₀ L s.heap m) (hN : News h₀ L s.heap news) (hsz : x.length ≤ sizeLine)
    (hs : subscripted slice false (.str x t) (.ref s.heap.objs.size) = operate [.ref s.heap.objs.size, .str x t] (getItem (.str x t) (.ref s.heap.objs.size)))
    (ht : ∀ r, letTemporaryGo value (.str x t) r = pure ())
    (h : ∀ (z : Str) h' t' c, z.cps.toList = x.cps.toList.reverse → z.length = x.length → Fr h₀ L h' m → News h₀ L h' news → Q (.str z t') { s with heap := h', toks := c }) :
    wpAny (model prog w) A (subscriptTail value slice (.str x t) (.ref s.heap.objs.size)) Q E { s with heap := s.heap.push { cls := .type "slice", data := .fields #[.none, .none, .int (-1) uk] } } :=
  slice_strK_nn hF hN (by decide) (fun h' t' c F N => h _ h' t' c (by rw [rev_eq]; rfl) (step_rev_len x _) F N) hs ht hsz
theorem slice_to {j : Int} {uj : Tok} (hF : Fr h₀ L s.heap m) (hN : News h₀ L s.heap news) (hsz : x.length ≤ sizeLine) (h0 : 0 ≤ j) (h1 : j ≤ (x.length : Int))
    (hs : subscripted slice false (.str x t) (.ref s.heap.objs.size) = operate [.ref s.heap.objs.size, .str x t] (getItem (.str x t) (.ref s.heap.objs.size)))
    (ht : ∀ r, letTemporaryGo value (.str x t) r = pure ())
    (h : ∀ (z : Str) h' t' c, z.cps.toList = x.cps.toList.take j.toNat → (z.length : Int) = j → Fr h₀ L h' m → News h₀ L h' news → Q (.str z t') { s with heap := h', toks := c }) :
    wpAny (model prog w) A (subscriptTail value slice (.str x t) (.ref s.heap.objs.size)) Q E { s with heap := s.heap.push { cls := .type "slice", data := .fields #[.none, .int j uj, .none] } } :=
  slice_strN_ns hF hN (fun h' t' c F N => by
    have e : Txt.slice x none (some j) = S (x.cps.toList.take j.toNat) := take_eq h0 h1
    rw [e]
    exact h _ h' t' c rfl (by rw [S_len]; simp [Str.length] at *; omega) F N) hs ht hsz
theorem slice_from {j : Int} {uj : Tok} (hF : Fr h₀ L s.heap m) (hN : News h₀ L s.heap news) (hsz : x.length ≤ sizeLine) (h0 : 0 ≤ j) (h1 : j ≤ (x.length : Int))
    (hs : subscripted slice false (.str x t) (.ref s.heap.objs.size) = operate [.ref s.heap.objs.size, .str x t] (getItem (.str x t) (.ref s.heap.objs.size)))
    (ht : ∀ r, letTemporaryGo value (.str x t) r = pure ())
    (h : ∀ (z : Str) h' t' c, z.cps.toList = x.cps.toList.drop j.toNat → (z.length : Int) = x.length - j → Fr h₀ L h' m → News h₀ L h' news → Q (.str z t') { s with heap := h', toks := c }) :
    wpAny (model prog w) A (subscriptTail value slice (.str x t) (.ref s.heap.objs.size)) Q E { s with heap := s.heap.push { cls := .type "slice", data := .fields #[.int j uj, .none, .none] } } :=
  slice_strN_sn hF hN (fun h' t' c F N => by
    have e : Txt.slice x (some j) none = S (x.cps.toList.drop j.toNat) := drop_eq h0 h1
    rw [e]
    exact h _ h' t' c rfl (by rw [S_len]; simp [Str.length] at *; omega) F N) hs ht hsz
end
end Mine

end
section
open PySem PySem.W PySem.Calls PyProof.Rows
open Mine
local macro_rules | `(tactic| walk_at "call builtin:str.split") => `(tactic| (k_here; refine' KSpl.split1 ?k1 ?k2 ?hy ?_ ?hz; (case k1 => k_asm); (case k2 => k_asm); (case hy => decide); (case hz => size_fits); (intro D' l' h' k' e' a' F' N' l1); (try k_lt l1); (first | rw [split_front (by assumption)] at e' | rw [split_back (by assumption)] at e'); (kspl_open e'); (simp only [strValues, List.map_cons, List.map_nil] at N' a')))
local macro_rules | `(tactic| walk_at "EndB") => `(tactic| refine' endB (by with_reducible assumption) (by with_reducible assumption) (by with_reducible assumption) (by kcj_all) ?_)
section
open PySem PySem.W PySem.Calls PyProof.Rows
namespace Mine

set_option maxRecDepth 100000 in
set_option maxHeartbeats 8000000 in
theorem ell {w : World} {mean : ExcName → Option Value} {mg mb : Str → Option Value} (x y : Str) (t u : Tok) (hx : Plain x) (hxl : x.length ≤ 1000) (hyl : y.length ≤ 1000) (hx0 : 0 < x.length) : Challenge.rw_sn0046_01 = Challenge.rw_sn0046_01 → Ctr 2 w mean mg mb 49 [.str (Str.ofString "..." ++ x) t, .str y u] (fun _ => .bool (Txt.endswith y x)) := by
  unfold Ctr
  w_top off
  k_fill
  intro _
  intro dp un gd cn cs a ccd cl outer A₀ base h₀ L m news s Q E B F X N T hk hdp hun hret
  refine wpAny_call ?_
  k_dflt cell_enter
  k_steps
  · exfalso
    rename List.isEmpty _ = true => hh
    rw [has_front hx] at hh
    cases hh
  · walk_at "EndB"
    symm
    unfold Txt.endswith
    have : ¬ (0 + x.length ≤ y.length) := by omega
    simp; omega
  · (rename Fr _ _ _ _ => lF')
    (rename News _ _ _ _ => lN')
    (rename_i lOrd _ _ _ _ _ _ _ _ _ _ _ _ _ _ _ _ _ _)
    (with_unfolding_all refine' For_invVF lF' ?k1 ?k2 ?_)
    case k1 => exact rfl
    case k2 => exact rfl
    k_dflt (refine ld lF' (by rfl) ?_)
    trace "here"
    have h1 := lN' _ (.tail _ (.head _))
    (rename (∀ p ∈ _, Prod.fst p < _) => hlt)
    (refine iter_forget (news := news) (fun i m => i = 0 → m (Str.ofString "got") = some (.str y u) ∧ (∃ t, m (Str.ofString "startpos") = some (.int 0 t)) ∧ (∃ t, m (Str.ofString "endpos") = some (.int (y.length - x.length) t))) rfl h1.1 h1.2.1 (fun q hq => Nat.ne_of_lt (hlt q hq)) lF' (news_sub lN' (fun p hp => .tail _ (.tail _ hp))) (fun _ => ⟨rfl, ⟨_, rfl⟩, ⟨_, rfl⟩⟩) ?turn ?done)
    case done =>
      intro m₁ h tk _ F' N'
      k_steps
      walk_at "EndB"
      symm
      assumption
    case turn =>
      intro i v m₁ h tk own hi hv hJ F' N'
      have hi0 : i = 0 := Nat.lt_one_iff.mp hi
      subst hi0
      have hv' : some _ = some v := hv
      cases hv'
      obtain ⟨j1, ⟨t2, j2⟩, ⟨t3, j3⟩⟩ := hJ rfl
      have F' := fr_turn F' (.cons j2 (.cons j3 (.cons j1 .nil)))
      k_steps
      refine find_empty (by decide) (by omega) (by omega) ?_
      k_steps
      refine InvEndN.intro (by assumption) (by assumption) ⟨rfl, fun h => absurd h (Nat.succ_ne_zero _)⟩ rfl (fun _ h => List.mem_append_left _ h) (fun _ h => List.mem_append_right _ h)
  · walk_at "EndB"
    symm
    assumption
  · exfalso
    omega
end Mine

end
section
open PySem PySem.W PySem.Calls PyProof.Rows
namespace Mine

set_option maxRecDepth 100000 in
set_option maxHeartbeats 8000000 in
theorem ell2 {w : World} {mean : ExcName → Option Value} {mg mb : Str → Option Value} (x y : Str) (t u : Tok) (hx : Plain x) (hxl : x.length ≤ 1000) (hyl : y.length ≤ 1000) : Challenge.rw_sn0046_01 = Challenge.rw_sn0046_01 → Ctr 2 w mean mg mb 49 [.str (x ++ Str.ofString "...") t, .str y u] (fun _ => .bool (Txt.startswith y x)) := by
  unfold Ctr
  w_top off
  k_fill
  intro _
  intro dp un gd cn cs a ccd cl outer A₀ base h₀ L m news s Q E B F X N T hk hdp hun hret
  refine wpAny_call ?_
  k_dflt cell_enter
  k_steps
  · exfalso
    rename List.isEmpty _ = true => hh
    rw [has_back hx] at hh
    cases hh
  · exfalso
    have := starts_le (x := y) (y := x) (by assumption)
    omega
  · have hle := starts_le (x := y) (y := x) (by assumption)
    (rename Fr _ _ _ _ => lF')
    (rename News _ _ _ _ => lN')
    (with_unfolding_all refine' For_invVF lF' ?k1 ?k2 ?_)
    case k1 => exact rfl
    case k2 => exact rfl
    k_dflt (refine ld lF' (by rfl) ?_)
    have h1 := lN' _ (.tail _ (.head _))
    (rename (∀ p ∈ _, Prod.fst p < _) => hlt)
    (refine iter_forget (news := news) (fun i m => m (Str.ofString "got") = some (.str y u) ∧ (∃ t, m (Str.ofString "startpos") = some (.int (x.length : Int) t)) ∧ (∃ t, m (Str.ofString "endpos") = some (.int (y.length) t))) rfl h1.1 h1.2.1 (fun q hq => Nat.ne_of_lt (hlt q hq)) lF' (news_sub lN' (fun p hp => .tail _ (.tail _ hp))) ⟨rfl, ⟨_, rfl⟩, ⟨_, rfl⟩⟩ ?turn ?done)
    case done =>
      intro m₁ h tk _ F' N'
      k_steps
      walk_at "EndB"
      symm
      assumption
    case turn =>
      intro i v m₁ h tk own hi hv hJ F' N'
      obtain ⟨t0, ht0⟩ : ∃ t0, v = .str ⟨#[]⟩ t0 := by
        have hi0 : i = 0 := Nat.lt_one_iff.mp hi
        subst hi0
        exact ⟨_, (Option.some.inj hv).symm⟩
      subst ht0
      obtain ⟨j1, ⟨t2, j2⟩, ⟨t3, j3⟩⟩ := hJ
      have F' := fr_turn F' (.cons j2 (.cons j3 (.cons j1 .nil)))
      k_steps
      refine find_empty (by omega) (by omega) (by omega) ?_
      k_steps
      (rename Fr _ _ _ _ => F9)
      (rename News _ _ _ _ => N9)
      refine InvEndN.intro F9 N9 ⟨rfl, rfl, ⟨_, rfl⟩, ⟨_, rfl⟩⟩ rfl (fun _ h => List.mem_append_left _ h) (fun _ h => List.mem_append_right _ h)
  · walk_at "EndB"
    symm
    assumption
  · obtain rfl : x = ⟨#[]⟩ := str_nil (by assumption)
    (rename Fr _ _ _ _ => lF')
    (rename News _ _ _ _ => lN')
    (with_unfolding_all refine' For_invVF lF' ?k1 ?k2 ?_)
    case k1 => exact rfl
    case k2 => exact rfl
    k_dflt (refine ld lF' (by rfl) ?_)
    have h1 := lN' _ (.tail _ (.head _))
    (rename (∀ p ∈ _, Prod.fst p < _) => hlt)
    (refine iter_forget (news := news) (fun i m => m (Str.ofString "got") = some (.str y u) ∧ (∃ t, m (Str.ofString "startpos") = some (.int 0 t)) ∧ (∃ t, m (Str.ofString "endpos") = some (.int (y.length) t))) rfl h1.1 h1.2.1 (fun q hq => Nat.ne_of_lt (hlt q hq)) lF' (news_sub lN' (fun p hp => .tail _ (.tail _ hp))) ⟨rfl, ⟨_, rfl⟩, ⟨_, rfl⟩⟩ ?turn ?done)
    case done =>
      intro m₁ h tk _ F' N'
      k_steps
      walk_at "EndB"
      exact (starts_nil y).symm
    case turn =>
      intro i v m₁ h tk own hi hv hJ F' N'
      obtain ⟨t0, ht0⟩ : ∃ t0, v = .str ⟨#[]⟩ t0 := by
        match i, hi, hv with
        | 0, _, hv => exact ⟨_, (Option.some.inj hv).symm⟩
        | 1, _, hv => exact ⟨_, (Option.some.inj hv).symm⟩
      subst ht0
      obtain ⟨j1, ⟨t2, j2⟩, ⟨t3, j3⟩⟩ := hJ
      have F' := fr_turn F' (.cons j2 (.cons j3 (.cons j1 .nil)))
      k_steps
      refine find_empty (by omega) (by omega) (by omega) ?_
      k_steps
      (rename Fr _ _ _ _ => F9)
      (rename News _ _ _ _ => N9)
      refine InvEndN.intro F9 N9 ⟨rfl, rfl, ⟨_, rfl⟩, ⟨_, rfl⟩⟩ rfl (fun _ h => List.mem_append_left _ h) (fun _ h => List.mem_append_right _ h)

end Mine

end
end
section
open PySem PySem.W PySem.Calls PyProof.Rows
namespace Mine
local macro_rules | `(tactic| walk_at "call ref") => `(tactic| (k_here; (k_dflt (refine' ell _ _ _ _ ?px ?pl1 ?pl2 ?p0 rfl _ _ _ _ _ _ _ _ _ _ _ _ _ _ _ _ _ _ ?k1 ?k2 ?k3 ?k4 ?k5 ?kK ?kd ?ku ?kR)); (case k1 => k_asm); (case k2 => k_asm); (case k3 => k_asm); (case k4 => k_asm); (case k5 => k_asm); (case kK => first | exact rfl | assumption); (case kd => ktr_room); (case ku => ktr_units); rotate_right; (intro t9 h9 tk9 F9 N9; (try dsimp only); (try k_fold))))
def MirW (text mirror : Str) (size : Int) : Prop := 1 ≤ size ∧ size ≤ text.length ∧ shrink mirror.cps.toList text.cps.toList text.length = shrink mirror.cps.toList text.cps.toList size.toNat
theorem mirW_start {t m : Str} {k : Int} (h : k = t.length) (h1 : 1 ≤ k) : MirW t m k := by
  refine ⟨h1, by omega, ?_⟩
  rw [h, Int.toNat_natCast]
theorem mirW_step {t m z : Str} {k : Int} (h : MirW t m k) (h1 : 1 < k) (hz : z.cps.toList = m.cps.toList.take k.toNat) (he : Txt.endswith t z = false) : MirW t m (k - 1) := by
  obtain ⟨_, h2, h3⟩ := h
  refine ⟨by omega, by omega, ?_⟩
  rw [h3]
  obtain ⟨n, rfl⟩ := Int.eq_ofNat_of_zero_le (show (0 : Int) ≤ k by omega)
  match n, h1 with
  | n + 2, _ =>
    have e : ((((n + 2 : Nat) : Int) - 1).toNat) = n + 1 := by omega
    rw [e, Int.toNat_natCast]
    rw [ends_eq, hz, Int.toNat_natCast] at he
    show (if n + 1 = 0 then 1 else if endsL t.cps.toList (m.cps.toList.take (n + 1 + 1)) then n + 1 + 1 else shrink _ _ (n + 1)) = _
    rw [if_neg (by omega), he]
    rfl
theorem mirW_one {t m : Str} {k : Int} (h : MirW t m k) (h1 : ¬ 1 < k) : shrink m.cps.toList t.cps.toList t.length = k.toNat := by
  obtain ⟨h0, h2, h3⟩ := h
  have : k = 1 := by omega
  subst this
  rw [h3]; rfl
theorem mirW_hit {t m z : Str} {k : Int} (h : MirW t m k) (h1 : 1 < k) (hz : z.cps.toList = m.cps.toList.take k.toNat) (he : Txt.endswith t z = true) : shrink m.cps.toList t.cps.toList t.length = k.toNat := by
  obtain ⟨h0, h2, h3⟩ := h
  rw [h3]
  obtain ⟨n, rfl⟩ := Int.eq_ofNat_of_zero_le (show (0 : Int) ≤ k by omega)
  match n, h1 with
  | n + 2, _ =>
    rw [Int.toNat_natCast]
    rw [ends_eq, hz, Int.toNat_natCast] at he
    show (if n + 1 = 0 then 1 else if endsL t.cps.toList (m.cps.toList.take (n + 1 + 1)) then n + 1 + 1 else shrink _ _ (n + 1)) = _
    rw [if_neg (by omega), he]
    rfl
def MirP (pre : List Int) (text : Str) : Prop := text = S (mirrored (toL pre)) ∧ text.length + 2 ≤ 2 ^ (pre.length + 1) ∧ Plain text
theorem code_mem {x : Str} {pre post : List Int} {n : Nat} (h : KStt.codes x = pre ++ (n : Int) :: post) : n ∈ x.cps.toList := by
  have h1 : (n : Int) ∈ KStt.codes x := by rw [h]; simp
  obtain ⟨a, ha, e⟩ := List.mem_map.mp h1
  have : a = n := by omega
  exact this ▸ ha
theorem toL_codes (x : Str) : toL (KStt.codes x) = x.cps.toList := by
  unfold toL KStt.codes
  rw [List.map_map]
  exact (List.map_congr_left (g := id) fun c _ => Int.toNat_natCast c).trans (List.map_id _)
theorem toL_snoc (pre : List Int) (n : Nat) : toL (pre ++ [(n : Int)]) = toL pre ++ [n] := by simp [toL]
theorem mir_turn {x f t m d z : Str} {pre post : List Int} {n : Nat} {k : Int} (hx : Plain x) (hl : x.length ≤ 6) (he : KStt.codes x = pre ++ (n : Int) :: post) (hp : MirP pre f)
    (ht : t.cps.toList = f.cps.toList ++ [n]) (hm : m.cps.toList = t.cps.toList.reverse) (hs : shrink m.cps.toList t.cps.toList t.length = k.toNat) (hd : d.cps.toList = m.cps.toList.drop k.toNat) (hz : z = t ++ d) (hzl : z.length = t.length + d.length) :
    MirP (pre ++ [(n : Int)]) z ∧ z.length ≤ 126 := by
  obtain ⟨h1, h2, h3⟩ := hp
  have hn := hx n (code_mem he)
  have hpl : pre.length < 6 := by
    have := congrArg List.length he
    rw [KStt.codes_length] at this
    simp at this; omega
  have e1 : z = S (mirrored (toL (pre ++ [(n : Int)]))) := by
    rw [toL_snoc]
    unfold mirrored
    rw [List.foldl_append]
    have hf : List.foldl mirStep [] (toL pre) = f.cps.toList := by rw [h1]; rfl
    show z = S (mirStep (List.foldl mirStep [] (toL pre)) n)
    rw [hf]
    unfold mirStep
    dsimp only
    rw [← ht, ← hm, len_toList, hs, ← hd, hz]
    apply Str.ext'
    apply Array.toList_inj.mp
    rw [Str.cps_append, Array.toList_append]
    rfl
  have hdl : d.length ≤ t.length := by
    rw [← len_toList, ← len_toList, hd, List.length_drop, hm, List.length_reverse]; omega
  have htl : t.length = f.length + 1 := by
    rw [← len_toList, ← len_toList, ht]; simp
  have e2 : z.length + 2 ≤ 2 ^ ((pre ++ [(n : Int)]).length + 1) := by
    rw [List.length_append, List.length_singleton, Nat.pow_succ]
    omega
  refine ⟨⟨e1, e2, ?_⟩, ?_⟩
  · have pt : Plain t := by
      intro c hc
      rw [ht] at hc
      rcases List.mem_append.mp hc with h | h
      · exact h3 c h
      · rw [List.mem_singleton.mp h]; exact hn
    intro c hc
    rw [hz, Str.cps_append, Array.toList_append] at hc
    rcases List.mem_append.mp hc with h | h
    · exact pt c h
    · rw [hd, hm] at h
      exact pt c (List.mem_reverse.mp (List.mem_of_mem_drop h))
  · have : 2 ^ ((pre ++ [(n : Int)]).length + 1) ≤ 2 ^ 7 := Nat.pow_le_pow_right (by decide) (by simp; omega)
    omega
theorem mir_plain {x f t m z : Str} {pre post : List Int} {n : Nat} {k : Nat} (hx : Plain x) (he : KStt.codes x = pre ++ (n : Int) :: post) (hp : MirP pre f)
    (ht : t.cps.toList = f.cps.toList ++ [n]) (hm : m.cps.toList = t.cps.toList.reverse) (hz : z.cps.toList = m.cps.toList.take k) : Plain z := by
  obtain ⟨_, _, h3⟩ := hp
  intro c hc
  rw [hz, hm] at hc
  have h := List.mem_reverse.mp (List.mem_of_mem_take hc)
  rw [ht] at h
  rcases List.mem_append.mp h with h | h
  · exact h3 c h
  · rw [List.mem_singleton.mp h]; exact hx n (code_mem he)
theorem mirP_nil : MirP [] (Str.ofString "") ∧ (Str.ofString "").length ≤ 126 := ⟨⟨rfl, by decide, fun _ h => nomatch h⟩, by decide⟩
local macro_rules | `(tactic| walk_at "exec While") => `(tactic| refine Stop.mk ?_)
local macro_rules | `(tactic| walk_at "inplaceOp Add str str") => `(tactic| ((refine iadd_gen ?hsz ?_); (case hsz => size_fits); intro _ _ _ _ _))
local macro_rules | `(tactic| walk_at "inplaceOp Add str str") => `(tactic| ((refine iadd_sign ?hsz ?_); (case hsz => size_fits); intro _ _ _ _ _))
local macro_rules | `(tactic| walk_at "subscriptTail Name Slice str ref") => `(tactic| ((with_reducible show wpAny _ _ (subscriptTail _ (Expr.Slice none none (some _) _) _ _) _ _ _); (with_reducible rename Fr _ _ _ _ => F'); (with_reducible rename News _ _ _ _ => N'); (refine slice_rev (s := ⟨_, _, _, _, _⟩) F' N' ?hsz (by with_unfolding_all rfl) (by intro _; with_unfolding_all rfl) ?_); (case hsz => size_fits); intro _ _ _ _ _ _ _ _))
local macro_rules | `(tactic| walk_at "subscriptTail Name Slice str ref") => `(tactic| ((with_reducible show wpAny _ _ (subscriptTail _ (Expr.Slice none (some _) none _) _ _) _ _ _); (with_reducible rename Fr _ _ _ _ => F'); (with_reducible rename News _ _ _ _ => N'); (refine slice_to (s := ⟨_, _, _, _, _⟩) F' N' ?hsz ?h0 ?h1 (by with_unfolding_all rfl) (by intro _; with_unfolding_all rfl) ?_); (case hsz => size_fits); (case h0 => omega); (case h1 => omega); intro _ _ _ _ _ _ _ _))
local macro_rules | `(tactic| walk_at "subscriptTail Name Slice str ref") => `(tactic| ((with_reducible show wpAny _ _ (subscriptTail _ (Expr.Slice (some _) none none _) _ _) _ _ _); (with_reducible rename Fr _ _ _ _ => F'); (with_reducible rename News _ _ _ _ => N'); (refine slice_from (s := ⟨_, _, _, _, _⟩) F' N' ?hsz ?h0 ?h1 (by with_unfolding_all rfl) (by intro _; with_unfolding_all rfl) ?_); (case hsz => size_fits); (case h0 => omega); (case h1 => omega); intro _ _ _ _ _ _ _ _))
set_option maxRecDepth 100000 in
set_option maxHeartbeats 8000000 in
theorem mir {w : World} {mean : ExcName → Option Value} {mg mb : Str → Option Value} (x : Str) (t : Tok) (hx : Plain x) (hxl : x.length ≤ 6) : Challenge.rw_sn0046_01 = Challenge.rw_sn0046_01 → Ctr 5 w mean mg mb 122 [.str x t] (fun t => .str (S (mirrored x.cps.toList)) t) := by
  unfold Ctr
  w_top off
  k_fill
  intro _
  intro dp un gd cn cs a ccd cl outer A₀ base h₀ L m news s Q E B F X N T hk hdp hun hret
  refine wpAny_call ?_
  k_dflt cell_enter
  k_with "state" => first | exact mirP_nil | exact mirW_start (by omega) (by omega) | exact mirW_step (by assumption) (by assumption) (by assumption) (by assumption) | exact mir_turn (by assumption) (by assumption) (by assumption) (by assumption) (by assumption) (by assumption) (mirW_one (by assumption) (by assumption)) (by assumption) (by assumption) (by assumption) | exact mir_turn (by assumption) (by assumption) (by assumption) (by assumption) (by assumption) (by assumption) (mirW_hit (by assumption) (by assumption) (by assumption) (by assumption)) (by assumption) (by assumption) (by assumption)
  k_with "pyIter str" => k_state (fun pre text => MirP pre text ∧ text.length ≤ 126) "text"
  k_steps
  · refine Stop.out ?_
    k_while_given ["text", "mirror"] (fun (text mirror : Str) (_ : List Int) (size : Int) => MirW text mirror size) (fun (_ _ : Str) (_ : List Int) (size : Int) => size.toNat) "size"
    (rename MirW _ _ _ => kInv)
    have kInv1 := kInv.1
    have kInv2 := kInv.2.1
    k_steps
    exact mir_plain (by assumption) (by assumption) (by assumption) (by assumption) (by assumption) (by assumption)
  refine' endS (by with_reducible assumption) (by with_reducible assumption) (by with_reducible assumption) (by kcj_all) ?_
  (rename MirP _ _ => hfin)
  rw [hfin.1, toL_codes]
end Mine

end
section
open PySem PySem.W PySem.Calls PyProof.Rows PyProof.V PySem.Spec
namespace Mine
section
variable {prog : Program} {w : World} {A : Around} {E : Value → Shared → Prop} {s : Shared} {h₀ : Heap} {L : Addr} {m : Str → Option Value} {env : Env}

theorem iter_text2 {x : Str} {t : Tok} {Q : Value → Shared → Prop}
    (hQ : ∀ (o : Obj) (St : Nat → Heap → Prop), (∀ A' : Around, A'.handled = none → Walks prog w A' s.heap.objs.size [s.heap.objs.size] [s.heap.objs.size] x.cps.size (SignAt x) St) → (∀ i h, St i h → ∃ o, h.get? s.heap.objs.size = some o) → St 0 (s.heap.push o) →
      Q (.ref s.heap.objs.size) { s with heap := s.heap.push o }) : wpAny (model prog w) A (pyIter (.str x t)) Q E s := by
  cases ha : x.cps.all (· < 128)
  · exact wpAny_pyIter_wide ha (hQ _ _ (fun A' hA => Walks.strWide hA _ x t) (fun i h st => by obtain ⟨o, e, _⟩ := st; exact ⟨o, e⟩) ⟨_, Heap.get?_push_size _ rfl, rfl, rfl⟩)
  · exact wpAny_pyIter_ascii ha (hQ _ _ (fun A' hA => Walks.strAscii hA _ x t) (fun i h st => by obtain ⟨o, e, _⟩ := st; exact ⟨o, e⟩) ⟨_, Heap.get?_push_size _ rfl, rfl, rfl⟩)

/-- the source of a comprehension that is a text -/
def SrcText (prog : Program) (w : World) (A : Around) (h₀ : Heap) (L : Addr) (m : Str → Option Value) (env : Env) (elt : PySem.Expr) (x : Str) (scope : Scope) (cl : List (Str × Addr)) (Fin : Shared → List Value → List (Addr × Obj) → Prop) (xv : Value) (s₁ : Shared) : Prop :=
  ∃ xt tx news, xv = .str xt tx ∧ A.handled = none ∧ Fr h₀ L s₁.heap m ∧ News h₀ L s₁.heap news ∧ xt.length ≤ sizeLine ∧
    ∀ g, LCg.CompRest prog w A h₀ L m env elt x scope cl { s₁ with heap := g } (fun _ => True) (SignAt xt) (Fin { s₁ with heap := g }) xt.cps.size 0 [] news

theorem ListComp_T {elt iter : PySem.Expr} {x : Str} {px : Pos} {scope : Scope} {cl : List (Str × Addr)} {pos : Pos} {Q : Value → Shared → Prop} (_F₀ : Fr h₀ L s.heap m)
    (hclos : closureFor scope env = pure cl) (hcell : ∀ y ∈ scope.names, y.2 ≠ .cell) (hkind : scope.kind = .function)
    (hnames : ∀ y ∈ scope.names, y.2 = .local → scope.names.lookup y.1 = some .local) (hx : scope.names.lookup x = some .local)
    (hs : ∀ x, foldedSetIterable iter env x = pure x)
    (h : wpAny (model prog w) A (eval iter env) (SrcText prog w A h₀ L m env elt x scope cl (fun s₂ => LCg.FinE h₀ L m s₂ Q)) E s) :
    wpAny (model prog w) A (eval (.ListComp elt [⟨.Name x px, iter, [], 0⟩] scope pos) env) Q E s := by
  rw [eval_ListComp]
  refine wpAny_comprehension_free (use := none) rfl hs hclos hkind hnames (wpAny_mono h (fun xv s₁ h₁ => ?_) fun _ _ e => e)
  obtain ⟨xt, tx, news, rfl, hh, F, N, hsz, R⟩ := h₁
  refine iter_text2 fun o St hW hI hst => ?_
  have W := hW A hh
  have up : ∀ b o', s₁.heap.get? b = some o' → (s₁.heap.push o).get? b = some o' := fun b o' e => Heap.get?_push_of_some _ e
  refine LCg.block_U W hsz hI (fun i h h' o' nw st e e' _ _ _ => W.frame _ _ _ st fun b hb o'' e'' => by
      rw [List.mem_singleton.mp hb] at e'' ⊢
      rw [e] at e''; cases e''; exact e') hcell hkind hx hst (fun b hb => ?_)
    (F.keeps up) (N.grown up) (Nat.ne_of_lt F.ns.lt) (next_is_new F) (fun p hp => Nat.ne_of_lt (Heap.lt_size (N p hp).1)) trivial (R _) ?_
  · rw [List.mem_singleton.mp hb]
    show s₁.heap.objs.size < (s₁.heap.push _).objs.size
    rw [Heap.size_push]; exact Nat.lt_succ_self _
  · intro D C h tk m' ys news' F' N' o1 hn hC₀ hD₀ hCL hDL hCD offC fin
    refine ⟨m', hn, fun h'' hs'' => fin D h'' tk (F'.change hs'' hCL hC₀) (fun p hp => ?_) o1⟩
    refine ⟨hs''.extBut _ _ ?_ (N' p hp).1, (N' p hp).2⟩
    rcases List.mem_cons.mp hp with rfl | hp
    · exact Ne.symm hCD
    · exact offC p hp

/-- the turns of a comprehension whose elements leave the ledger as it was: one fact a place -/
theorem rest_gen {elt : PySem.Expr} {x : Str} {scope : Scope} {cl : List (Str × Addr)} {S' : List (Addr × Obj) → Prop} {P : Nat → Value → Prop} {Fin : List Value → List (Addr × Obj) → Prop} {news : List (Addr × Obj)} {n : Nat} (G : Nat → Value → Prop)
    (turn : ∀ i v I oI C oC D m₂ ys h tk (E' : Value → Shared → Prop), i < n → P i v → LCg.NsObj oC m₂ → m₂ x = some v → Fr h₀ L h m → News h₀ L h ((I, oI) :: (C, oC) :: (D, LCg.lst ys) :: news) → LCg.Off3 I C D news → ((@Ne Nat I C) ∧ (@Ne Nat I D) ∧ (@Ne Nat C D)) →
      wpAny (model prog w) A (eval elt (compEnvC scope cl C env)) (LCg.CompEnd h₀ L m { s with heap := h, toks := tk } I oI C oC D (LCg.lst ys) S' (fun y news' => news' = news ∧ G i y)) E' { s with heap := h, toks := tk })
    (fin : ∀ ys : List Value, ys.length = n → (∀ i y, ys[i]? = some y → G i y) → Fin ys news) :
    LCg.CompRest prog w A h₀ L m env elt x scope cl s S' P Fin n 0 [] news := by
  have key : ∀ (j i : Nat) (ys : List Value), i + j = n → ys.length = i → (∀ k y, ys[k]? = some y → G k y) → LCg.CompRest prog w A h₀ L m env elt x scope cl s S' P Fin j i ys news := by
    intro j
    induction j with
    | zero => intro i ys hi hl hy; exact LCg.CompRest.zero (fin ys (by omega) hy)
    | succ j ih =>
      intro i ys hi hl hy
      refine LCg.CompRest.succ ?_
      intro v I oI C oC D m₂ h tk E' hv hC hx F N off ne
      refine wpAny_mono (turn i v I oI C oC D m₂ ys h tk E' (by omega) hv hC hx F N off ne) (fun y s₂ hq => ?_) fun _ _ e => e
      obtain ⟨h', tk', nw, e, F', N', off', hS, hn, hg⟩ := hq
      subst hn
      refine ⟨h', tk', _, e, F', N', off', hS, ih (i + 1) _ (by omega) (by rw [List.length_append, hl]; rfl) ?_⟩
      intro k y' hk
      by_cases hki : k < ys.length
      · rw [List.getElem?_append_left hki] at hk; exact hy k y' hk
      · rw [List.getElem?_append_right (by omega)] at hk
        have hk0 : k - ys.length = 0 := by
          rcases Nat.eq_zero_or_pos (k - ys.length) with h | h
          · exact h
          · rw [List.getElem?_eq_none (by simp; omega)] at hk; cases hk
        rw [hk0] at hk
        cases hk
        have : k = i := by omega
        exact this ▸ hg
  exact key n 0 [] (by omega) rfl (fun k y h => by simp at h)
end
theorem strsAre_of {ys : List Value} {ss : List Str} (hl : ys.length = ss.length) (h : ∀ (i : Nat) (y : Value) (z : Str), ys[i]? = some y → ss[i]? = some z → ∃ t, y = Value.str z t) : StrsAre ys ss := by
  induction ss generalizing ys with
  | nil => cases ys with
    | nil => exact .nil
    | cons _ _ => simp at hl
  | cons z r ih => cases ys with
    | nil => simp at hl
    | cons y ys =>
      obtain ⟨t, e⟩ := h 0 y z rfl rfl
      subst e
      exact .cons z t (ih (by simpa using hl) fun i y' z' hy hz => h (i + 1) y' z' hy hz)
theorem intsAre_of {ys : List Value} {ss : List Int} (hl : ys.length = ss.length) (h : ∀ (i : Nat) (y : Value) (z : Int), ys[i]? = some y → ss[i]? = some z → ∃ t, y = Value.int z t) : IntsAre ys ss := by
  induction ss generalizing ys with
  | nil => cases ys with
    | nil => exact .nil
    | cons _ _ => simp at hl
  | cons z r ih => cases ys with
    | nil => simp at hl
    | cons y ys =>
      obtain ⟨t, e⟩ := h 0 y z rfl rfl
      subst e
      exact .cons z t (ih (by simpa using hl) fun i y' z' hy hz => h (i + 1) y' z' hy hz)
/-- texts glued by the empty text -/
theorem join_empty (ls : List (List Nat)) : Txt.join ⟨#[]⟩ (ls.map S) = S ls.flatten := by
  show Builtin.Str.glued _ _ = _
  rw [StrLaws.glued_eq_join]
  induction ls with
  | nil => rfl
  | cons a r ih =>
    cases r with
    | nil => simp [Str.join]
    | cons b r =>
      show S a ++ ⟨#[]⟩ ++ Str.join ⟨#[]⟩ ((b :: r).map S) = _
      rw [ih]
      have e : S a ++ (⟨#[]⟩ : Str) = S (a ++ []) := S_app a []
      rw [e, S_app, List.append_nil]
      simp
theorem join_rule {prog : Program} {w : World} {A : Around} {E : Value → Shared → Prop} {s : Shared} {t : Tok} {Q : Value → Shared → Prop} {D : Addr} {ys : List Value} (ls : List (List Nat)) (hl : s.heap.IsList D ys.toArray) (hs : StrsAre ys (ls.map S)) (hw : ls.flatten.length + ls.length ≤ 1048576)
    (h : ∀ (z : Str) t' k, z.cps.toList = ls.flatten → z.length = ls.flatten.length → Q (.str z t') { s with toks := k }) : wpAny (model prog w) A (call (.builtin "str.join") [.str (Str.ofString "") t, .ref D]) Q E s := by
  refine join_listW hl (by simpa using hs) (by decide) ?_ (fun t' k => ?_)
  · have : ((ls.map S).map (·.length)).sum = ls.flatten.length := by
      rw [List.length_flatten, List.map_map]
      congr 1
    rw [this, List.length_map]
    exact hw
  · have e : Txt.join (Str.ofString "") (ls.map S) = S ls.flatten := join_empty ls
    rw [e]
    exact h _ t' k rfl (S_len _)
end Mine

end
section
open PySem PySem.W PySem.Calls PyProof.Rows PyProof.V PySem.Spec
namespace Mine
section
variable {prog : Program} {w : World} {A : Around} {E : Value → Shared → Prop} {s : Shared} {env : Env} {h₀ : Heap} {target : PySem.Expr} {body : List Stmt} {Q : Flow → Shared → Prop}

/-- how a turn may end: what holds (J) at the next head, of a ledger that is apart from the loop's own objects -/
def TurnEnd (h₀ : Heap) (L : Addr) (J : (Str → Option Value) → List (Addr × Obj) → Prop) (own : List (Addr × Obj)) (s₁ : Shared) (Q : Flow → Shared → Prop) (f : Flow) (s₂ : Shared) : Prop :=
  match f with
  | .ret v => Q (.ret v) s₂
  | .brk => Q .next s₂
  | _ => ∃ h' tk m' nx, s₂ = { s₁ with heap := h', toks := tk } ∧ Fr h₀ L h' m' ∧ News h₀ L h' (nx ++ own) ∧ (∀ p ∈ nx, ∀ q ∈ own, p.1 ≠ q.1) ∧ J m' nx

theorem TurnEnd.next {L : Addr} {J : (Str → Option Value) → List (Addr × Obj) → Prop} {own all : List (Addr × Obj)} {s₁ : Shared} {h' : Heap} {tk : Nat} {m' : Str → Option Value} (nx : List (Addr × Obj)) (F : Fr h₀ L h' m') (N : News h₀ L h' all) (sub : ∀ p ∈ nx ++ own, p ∈ all) (off : ∀ p ∈ nx, ∀ q ∈ own, p.1 ≠ q.1) (j : J m' nx) :
    TurnEnd h₀ L J own s₁ Q .next { s₁ with heap := h', toks := tk } := ⟨h', tk, m', nx, rfl, F, fun p hp => N p (sub p hp), off, j⟩

def LoopFree (prog : Program) (w : World) (A : Around) (h₀ : Heap) (env : Env) (target : PySem.Expr) (body : List Stmt) (Q : Flow → Shared → Prop) (E : Value → Shared → Prop) (it : Value) (s₂ : Shared) : Prop :=
  ∃ (I : Addr) (fp wr : List Addr) (n : Nat) (P : Nat → Value → Prop) (St : Nat → Heap → Prop) (m : Str → Option Value) (news : List (Addr × Obj)) (J : Nat → (Str → Option Value) → List (Addr × Obj) → Prop),
    it = .ref I ∧ Walks prog w A I fp wr n P St ∧ env.locals ∉ fp ∧ (∀ b ∈ wr, h₀.get? b = none) ∧ (∀ p ∈ news, p.1 ∉ wr) ∧ (∀ i h, St i h → ∀ b ∈ wr, ∃ o, h.get? b = some o) ∧ St 0 s₂.heap ∧ Fr h₀ env.locals s₂.heap m ∧ News h₀ env.locals s₂.heap news ∧ J 0 m news ∧
    (∀ i v m₁ news₁ h tk own, i < n → P i v → (∀ p ∈ own, p.1 ∈ fp) → (∀ p ∈ news₁, p.1 ∉ wr) → J i m₁ news₁ → Fr h₀ env.locals h m₁ → News h₀ env.locals h (news₁ ++ own) → (∀ b ∈ fp, h₀.get? b = none → ∀ o, h.get? b = some o → (b, o) ∈ own) → St (i + 1) h →
      wpAny (model prog w) A (assign target env v) (fun _ s' => wpAny (model prog w) A (execs body env) (TurnEnd h₀ env.locals (J (i + 1)) own { s₂ with heap := h, toks := tk } Q) E s') E { s₂ with heap := h, toks := tk }) ∧
    ∀ h' tk m' news', Fr h₀ env.locals h' m' → News h₀ env.locals h' news' → J n m' news' → (∃ h'', St n h'' ∧ ∀ b o, b ∉ wr → h''.get? b = some o → h'.get? b = some o) → Q .next { s₂ with heap := h', toks := tk }

theorem for_free {iter : PySem.Expr} {pos : Pos}
    (h : wpAny (model prog w) A (eval iter env) (fun xv s₁ => wpAny (model prog w) A (pyIter xv) (fun it s₂ => LoopFree prog w A h₀ env target body Q E it s₂) E s₁) E s)
    (hs : ∀ x, foldedSetIterable iter env x = pure x) (ht : ∀ it v, letOwnedTupleGo target it v = pure ())
    (hE : PassesOwn (model prog w) A env E) :
    wpAny (model prog w) A (exec (.For target iter body [] pos) env) Q E s := by
  refine wpAny_For (wpAny_mono h (fun xv s₁ h₁ => wpAny_mono h₁ (fun it s₂ h₂ => ?_) fun _ _ e => e) fun _ _ e => e) hs
  obtain ⟨I, fp, wr, n, P, St, m, news, J, rfl, W, hLf, hwr, hnw, hex, hst, F, N, h0, turn, hQ⟩ := h₂
  have hLw : env.locals ∉ wr := fun h => hLf (W.sub _ h)
  have old : ∀ b o, h₀.get? b = some o → b ∉ wr := fun b o e hb => by rw [hwr b hb] at e; cases e
  refine codeAny_forLoop
    (fun k s' => ∃ h' tk m' news' i, s' = { s₂ with heap := h', toks := tk } ∧ St i h' ∧ Fr h₀ env.locals h' m' ∧ News h₀ env.locals h' news' ∧ (∀ p ∈ news', p.1 ∉ wr) ∧ J i m' news' ∧ i ≤ n ∧ k = n + 1 - i) ?_ (n + 1)
    ⟨s₂.heap, s₂.toks, m, news, 0, rfl, hst, F, N, hnw, h0, Nat.zero_le _, rfl⟩ (fun v => ht _ v)
  rintro k s' ⟨h', tk, m', news', i, rfl, hst', F', N', hnw', hJ, hi, rfl⟩
  have next : ∀ h₁ : Heap, (∀ b o, b ∉ wr → h'.get? b = some o → h₁.get? b = some o) → Fr h₀ env.locals h₁ m' ∧ News h₀ env.locals h₁ news' := fun h₁ hk₁ =>
    ⟨⟨F'.ns.at' fun o e => hk₁ _ o hLw e, fun b o e => hk₁ b o (old b o e) (F'.keep b o e), F'.above⟩, fun p hp => ⟨hk₁ _ _ (hnw' p hp) (N' p hp).1, (N' p hp).2⟩⟩
  by_cases hlt : i < n
  · refine W.item i _ _ _ hlt hst' fun v h₁ tk₁ hP hst₁ hk₁ => ?_
    obtain ⟨F₁, N₁⟩ := next h₁ hk₁
    have Nown : News h₀ env.locals h₁ (ownOf h₀ fp h₁) := news_ownOf hLf
    have Nall : News h₀ env.locals h₁ (news' ++ ownOf h₀ fp h₁) := fun p hp => (List.mem_append.mp hp).elim (N₁ p) (Nown p)
    have T := turn i v m' news' h₁ tk₁ (ownOf h₀ fp h₁) hlt hP ownOf_sub hnw' hJ F₁ Nall (fun b hb hn o e => mem_ownOf hb hn e) hst₁
    refine wpAny_passesOwn hE (wpAny_mono T (fun _ s₃ T₃ => wpAny_passesOwn hE (wpAny_mono T₃ (fun f s₄ h₄ => ?_) fun _ _ e => e)) fun _ _ e => e)
    have fin : (∃ h' tk m' nx, s₄ = { { s₂ with heap := h₁, toks := tk₁ } with heap := h', toks := tk } ∧ Fr h₀ env.locals h' m' ∧ News h₀ env.locals h' (nx ++ ownOf h₀ fp h₁) ∧ (∀ p ∈ nx, ∀ q ∈ ownOf h₀ fp h₁, p.1 ≠ q.1) ∧ J (i + 1) m' nx) →
        ∃ m, m < n + 1 - i ∧ ∃ h' tk m' news' i, s₄ = { s₂ with heap := h', toks := tk } ∧ St i h' ∧ Fr h₀ env.locals h' m' ∧ News h₀ env.locals h' news' ∧ (∀ p ∈ news', p.1 ∉ wr) ∧ J i m' news' ∧ i ≤ n ∧ m = n + 1 - i := by
      rintro ⟨h₃, tk₃, m₃, nx, rfl, F₃, N₃, hoff, hj⟩
      refine ⟨n + 1 - (i + 1), by omega, h₃, tk₃, m₃, nx, i + 1, rfl, ?_, F₃, fun p hp => N₃ p (List.mem_append_left _ hp), fun p hp hw => ?_, hj, hlt, rfl⟩
      · refine W.frame _ _ _ hst₁ fun b hb o e => ?_
        cases hq : h₀.get? b with
        | some o₀ =>
          have : o₀ = o := by have := F₁.keep b o₀ hq; rw [e] at this; exact (Option.some.inj this).symm
          exact this ▸ F₃.keep b o₀ hq
        | none => exact (N₃ _ (List.mem_append_right _ (mem_ownOf hb hq e))).1
      · obtain ⟨o, e⟩ := hex _ _ hst₁ _ hw
        exact hoff p hp _ (mem_ownOf (W.sub _ hw) (hwr _ hw) e) rfl
    cases f with
    | ret v => exact h₄
    | brk => exact h₄
    | next => exact fin h₄
    | cont => exact fin h₄
  · have hin : i = n := by omega
    subst hin
    refine W.done _ _ _ hst' fun h₁ tk₁ hk₁ => wpAny_execs_nil ?_
    obtain ⟨F₁, N₁⟩ := next h₁ hk₁
    exact hQ h₁ tk₁ m' news' F₁ N₁ hJ ⟨h', hst', hk₁⟩

/-- over a text's signs -/
theorem free_text {xt : Str} {tx : Tok} {m₀ : Str → Option Value} {news : List (Addr × Obj)} (J : List Nat → (Str → Option Value) → List (Addr × Obj) → Prop)
    (hh : A.handled = none) (F : Fr h₀ env.locals s.heap m₀) (N : News h₀ env.locals s.heap news) (hj : J [] m₀ news)
    (turn : ∀ Q' : Flow → Shared → Prop, (∀ v s', Q (.ret v) s' → Q' (.ret v) s') → ∀ pre n post m₁ news₁ h tk t own, xt.cps.toList = pre ++ n :: post → (∀ p ∈ news₁, ∀ q ∈ own, p.1 ≠ q.1) → J pre m₁ news₁ → Fr h₀ env.locals h m₁ → News h₀ env.locals h (news₁ ++ own) →
      wpAny (model prog w) A (assign target env (.str ⟨#[n]⟩ t)) (fun _ s' => wpAny (model prog w) A (execs body env) (TurnEnd h₀ env.locals (J (pre ++ [n])) own { s with heap := h, toks := tk } Q') E s') E { s with heap := h, toks := tk })
    (done : ∀ m₁ news₁ h tk, J xt.cps.toList m₁ news₁ → Fr h₀ env.locals h m₁ → News h₀ env.locals h news₁ → Q .next { s with heap := h, toks := tk }) :
    wpAny (model prog w) A (pyIter (.str xt tx)) (fun it s₂ => LoopFree prog w A h₀ env target body Q E it s₂) E s := by
  refine iter_text2 fun o St hW hI hst => ?_
  have W := hW A hh
  refine ⟨_, _, _, _, _, _, m₀, news, fun i m nx => J (xt.cps.toList.take i) m nx, rfl, W, ?_, ?_, ?_, (fun i h st b hb => by rw [List.mem_singleton.mp hb]; exact hI i h st), hst, F.push _, (fun p hp => ⟨Heap.get?_push_of_some _ (N p hp).1, (N p hp).2⟩), hj, ?_, ?_⟩
  · intro hm
    exact absurd F.ns.lt ((List.mem_singleton.mp hm) ▸ Nat.lt_irrefl _)
  · intro b' hb
    rw [List.mem_singleton.mp hb]
    exact next_is_new F
  · intro p hp hI'
    exact absurd (Heap.lt_size (N p hp).1) ((List.mem_singleton.mp hI') ▸ Nat.lt_irrefl _)
  · rintro i v m₁ nx h tk own hi ⟨n, u, hn, rfl⟩ hown hnw hJ F₁ N₁ _ _
    have hn' : xt.cps.toList[i]? = some n := by simpa using hn
    have hs : xt.cps.toList.take (i + 1) = xt.cps.toList.take i ++ [n] := by simp [List.take_add_one, hn']
    have e : xt.cps.toList = xt.cps.toList.take i ++ n :: xt.cps.toList.drop (i + 1) := by
      have ht := List.take_append_drop (i + 1) xt.cps.toList
      rw [hs, List.append_assoc] at ht
      exact ht.symm
    dsimp only
    rw [hs]
    refine turn Q (fun _ _ h => h) _ n _ m₁ nx h tk u own e (fun p hp q hq e => ?_) hJ F₁ N₁
    exact hnw p hp (by rw [e]; exact hown q hq)
  · rintro h tk m₁ nx F₁ N₁ hJ hlast
    have hl : xt.cps.toList.take xt.cps.size = xt.cps.toList := List.take_of_length_le (by simp)
    rw [hl] at hJ
    exact done m₁ nx h tk hJ F₁ N₁

/-- over a range by ones -/
theorem free_range {r : Addr} {a₀ b₀ : Int} {t₀ u₀ v₀ : Tok} {n : Nat} {m₀ : Str → Option Value} {news : List (Addr × Obj)} (J : Nat → (Str → Option Value) → List (Addr × Obj) → Prop)
    (hh : A.handled = none) (hr : IsRange s.heap r a₀ b₀ 1 t₀ u₀ v₀) (hsmall : Builtin.Range.small a₀ b₀ 1 = true) (hn : Builtin.Range.rangeSize a₀ b₀ 1 = (n : Int)) (F : Fr h₀ env.locals s.heap m₀) (N : News h₀ env.locals s.heap news) (hj : J 0 m₀ news)
    (turn : ∀ Q' : Flow → Shared → Prop, (∀ v s', Q (.ret v) s' → Q' (.ret v) s') → ∀ i m₁ news₁ h tk t own, i < n → (∀ p ∈ news₁, ∀ q ∈ own, p.1 ≠ q.1) → J i m₁ news₁ → Fr h₀ env.locals h m₁ → News h₀ env.locals h (news₁ ++ own) →
      wpAny (model prog w) A (assign target env (.int (a₀ + (i : Int)) t)) (fun _ s' => wpAny (model prog w) A (execs body env) (TurnEnd h₀ env.locals (J (i + 1)) own { s with heap := h, toks := tk } Q') E s') E { s with heap := h, toks := tk })
    (done : ∀ m₁ news₁ h tk, J n m₁ news₁ → Fr h₀ env.locals h m₁ → News h₀ env.locals h news₁ → Q .next { s with heap := h, toks := tk }) :
    wpAny (model prog w) A (pyIter (.ref r)) (fun it s₂ => LoopFree prog w A h₀ env target body Q E it s₂) E s := by
  refine wpAny_pyIter_range hr hsmall ?_
  have W : Walks prog w A s.heap.objs.size [s.heap.objs.size] [s.heap.objs.size] n (fun i v => i < n ∧ ∃ t, v = .int (a₀ + i * 1) t)
      (fun i h => IsRangeIter h s.heap.objs.size (a₀ + (i : Nat) * 1) ((n : Int) - (i : Nat)) 1) := (Walks.range hh _ a₀ 1 n).bound
  refine ⟨_, _, _, n, _, _, m₀, news, J, rfl, W, ?_, ?_, ?_, (fun i h st b hb => by rw [List.mem_singleton.mp hb]; exact ⟨_, st⟩), (by show IsRangeIter _ _ _ _ _; rw [hn]; simpa using Heap.get?_push_size _ rfl), F.push _, (fun p hp => ⟨Heap.get?_push_of_some _ (N p hp).1, (N p hp).2⟩), hj, ?_, ?_⟩
  · intro hm
    exact absurd F.ns.lt ((List.mem_singleton.mp hm) ▸ Nat.lt_irrefl _)
  · intro b' hb
    rw [List.mem_singleton.mp hb]
    exact next_is_new F
  · intro p hp hI'
    exact absurd (Heap.lt_size (N p hp).1) ((List.mem_singleton.mp hI') ▸ Nat.lt_irrefl _)
  · rintro i v m₁ nx h tk own hi ⟨_, t, rfl⟩ hown hnw hJ F₁ N₁ _ _
    have e1 : a₀ + (i : Int) * 1 = a₀ + (i : Int) := by omega
    rw [e1]
    refine turn Q (fun _ _ h => h) i m₁ nx h tk t own hi (fun p hp q hq e => ?_) hJ F₁ N₁
    exact hnw p hp (by rw [e]; exact hown q hq)
  · rintro h tk m₁ nx F₁ N₁ hJ hlast
    exact done m₁ nx h tk hJ F₁ N₁

/-- over a list of the ledger's, by any values; the list itself is not in what the turns are told of (it stands in own) -/
theorem free_list {l : Addr} {vs : List Value} {o : Obj} {m₀ : Str → Option Value} {news : List (Addr × Obj)} (J : Nat → (Str → Option Value) → List (Addr × Obj) → Prop)
    (hh : A.handled = none) (hl : s.heap.get? l = some o) (hl₀ : h₀.get? l = none) (hlo : ∃ nn, o = listOf vs.toArray nn) (hL : l ≠ env.locals) (F : Fr h₀ env.locals s.heap m₀) (N : News h₀ env.locals s.heap news) (hj : J 0 m₀ news)
    (turn : ∀ Q' : Flow → Shared → Prop, (∀ v s', Q (.ret v) s' → Q' (.ret v) s') → ∀ i v m₁ news₁ h tk own, i < vs.length → vs[i]? = some v → (∀ p ∈ news₁, ∀ q ∈ own, q.1 ≠ l → p.1 ≠ q.1) → (l, o) ∈ own → J i m₁ news₁ → Fr h₀ env.locals h m₁ → News h₀ env.locals h (news₁ ++ own) →
      wpAny (model prog w) A (assign target env v) (fun _ s' => wpAny (model prog w) A (execs body env) (TurnEnd h₀ env.locals (J (i + 1)) own { s with heap := h, toks := tk } Q') E s') E { s with heap := h, toks := tk })
    (done : ∀ m₁ news₁ h tk, J vs.length m₁ news₁ → Fr h₀ env.locals h m₁ → News h₀ env.locals h news₁ → h.get? l = some o → Q .next { s with heap := h, toks := tk }) :
    wpAny (model prog w) A (pyIter (.ref l)) (fun it s₂ => LoopFree prog w A h₀ env target body Q E it s₂) E s := by
  obtain ⟨nn, rfl⟩ := hlo
  have hls : s.heap.IsList l vs.toArray := ⟨_, hl, rfl, nn, rfl⟩
  have hne : l ≠ s.heap.objs.size := Nat.ne_of_lt (Heap.lt_size hl)
  refine wpAny_pyIter_list hls ?_
  have W₀ := Walks.list (prog := prog) (w := w) hh s.heap.objs.size l hne vs.toArray
  have hlen : vs.toArray.size = vs.length := by simp
  rw [hlen] at W₀
  have W : Walks prog w A s.heap.objs.size [s.heap.objs.size, l] [s.heap.objs.size] vs.length (fun i v => vs.toArray[i]? = some v) (fun i h => (h.IsListIter s.heap.objs.size l i ∧ h.IsList l vs.toArray) ∧ h.get? l = some (listOf vs.toArray nn)) :=
    { sub := W₀.sub
      frame := fun i h h' st hk => ⟨W₀.frame i h h' st.1 hk, hk l (.tail _ (.head _)) _ st.2⟩
      item := fun i s Q E hi st hQ => W₀.item i s Q E hi st.1 fun v h' tk hp st' hk => hQ v h' tk hp ⟨st', hk l _ (fun hb => hne (List.mem_singleton.mp hb)) st.2⟩ hk
      done := fun s Q E st hQ => W₀.done s Q E st.1 hQ
      self := fun i s Q E st hQ => W₀.self i s Q E st.1 hQ }
  refine ⟨_, _, _, _, _, _, m₀, news, J, rfl, W, ?_, ?_, ?_, (fun i h st b hb => by rw [List.mem_singleton.mp hb]; obtain ⟨o, e, _⟩ := st.1.1; exact ⟨o, e⟩), ⟨⟨⟨_, Heap.get?_push_size _ rfl, rfl, rfl⟩, hls.at fun o e => Heap.get?_push_of_some _ e⟩, Heap.get?_push_of_some _ hl⟩, F.push _, (fun p hp => ⟨Heap.get?_push_of_some _ (N p hp).1, (N p hp).2⟩), hj, ?_, ?_⟩
  · intro hm
    rcases List.mem_cons.mp hm with e | hm
    · exact absurd F.ns.lt (e ▸ Nat.lt_irrefl _)
    · exact hL (List.mem_singleton.mp hm).symm
  · intro b hb
    rw [List.mem_singleton.mp hb]
    exact next_is_new F
  · intro p hp hI
    exact absurd (Heap.lt_size (N p hp).1) ((List.mem_singleton.mp hI) ▸ Nat.lt_irrefl _)
  · rintro i v m₁ nx h tk own hi hv hown hnw hJ F₁ N₁ hall st₁
    refine turn Q (fun _ _ h => h) i v m₁ nx h tk own hi (by simpa using hv) (fun p hp q hq hql e => ?_) (hall l (.tail _ (.head _)) hl₀ _ st₁.2) hJ F₁ N₁
    rcases List.mem_cons.mp (hown q hq) with h1 | h1
    · exact hnw p hp (by rw [e, h1]; exact .head _)
    · exact hql (List.mem_singleton.mp h1)
  · rintro h tk m₁ nx F₁ N₁ hJ hlast
    obtain ⟨h'', st'', hk''⟩ := hlast
    exact done m₁ nx h tk hJ F₁ N₁ (hk'' l _ (fun hb => hne (List.mem_singleton.mp hb)) st''.2)
/-- over a list of numbers -/
theorem free_ints {l : Addr} {vs : List Value} {ps : List Int} {o : Obj} {m₀ : Str → Option Value} {news : List (Addr × Obj)} (J : Nat → (Str → Option Value) → List (Addr × Obj) → Prop) (hI : IntsAre vs ps)
    (hh : A.handled = none) (hl : s.heap.get? l = some o) (hl₀ : h₀.get? l = none) (hlo : ∃ nn, o = listOf vs.toArray nn) (hL : l ≠ env.locals) (F : Fr h₀ env.locals s.heap m₀) (N : News h₀ env.locals s.heap news) (hj : J 0 m₀ news)
    (turn : ∀ Q' : Flow → Shared → Prop, (∀ v s', Q (.ret v) s' → Q' (.ret v) s') → ∀ i p t m₁ news₁ h tk own, i < vs.length → ps.drop i = p :: ps.drop (i + 1) → (∀ p ∈ news₁, ∀ q ∈ own, q.1 ≠ l → p.1 ≠ q.1) → (l, o) ∈ own → J i m₁ news₁ → Fr h₀ env.locals h m₁ → News h₀ env.locals h (news₁ ++ own) →
      wpAny (model prog w) A (assign target env (.int p t)) (fun _ s' => wpAny (model prog w) A (execs body env) (TurnEnd h₀ env.locals (J (i + 1)) own { s with heap := h, toks := tk } Q') E s') E { s with heap := h, toks := tk })
    (done : ∀ m₁ news₁ h tk, J vs.length m₁ news₁ → Fr h₀ env.locals h m₁ → News h₀ env.locals h news₁ → h.get? l = some o → Q .next { s with heap := h, toks := tk }) :
    wpAny (model prog w) A (pyIter (.ref l)) (fun it s₂ => LoopFree prog w A h₀ env target body Q E it s₂) E s := by
  refine free_list J hh hl hl₀ hlo hL F N hj (fun Q' hQ i v m₁ nx h tk own hi hv => ?_) done
  obtain ⟨p, t, rfl, hp⟩ := IntsAre.at hI i v hv
  obtain ⟨hlt, rfl⟩ := List.getElem?_eq_some_iff.mp hp
  exact turn Q' hQ i _ t m₁ nx h tk own hi (List.drop_eq_getElem_cons hlt)
end
theorem off1_mem {D : Addr} : ∀ {l : List (Addr × Obj)}, LCg.Off1 D l → ∀ p ∈ l, p.1 ≠ D
  | [], _, _, h => nomatch h
  | _ :: _, x, p, h => by
    rcases List.mem_cons.mp h with rfl | h
    · exact x.1
    · exact off1_mem x.2 p h
theorem allLt_mem {D : Addr} : ∀ {l : List (Addr × Obj)}, AllLt D l → ∀ p ∈ l, p.1 < D
  | [], _, _, h => nomatch h
  | _ :: _, x, p, h => by
    rcases List.mem_cons.mp h with rfl | h
    · exact x.1
    · exact allLt_mem x.2 p h
end Mine

end
section
open PySem PySem.W PySem.Calls PyProof.Rows
open Mine
local macro_rules | `(tactic| k_all) => `(tactic| assumption)
local macro_rules | `(tactic| k_room) => `(tactic| ktr_room)
local macro_rules
  | `(tactic| walk_at "call builtin:str.split") => `(tactic| (k_here; refine' KSpl.split1 ?k1 ?k2 ?hy ?_ ?hz; (case k1 => k_asm); (case k2 => k_asm); (case hy => rfl); (case hz => size_fits); (intro D' l' h' k' e' a' F' N' l1); (k_lt l1)))
  | `(tactic| walk_at "call ref") => `(tactic| ((rename OnRef => hm); refine Stop.mk ?_))
  | `(tactic| walk_at "CompSrc") => `(tactic| ((rename OnComp => hm); refine Stop.mk ?_))
  | `(tactic| walk_at "CompSrcT") => `(tactic| ((rename OnComp => hm); refine Stop.mk ?_))
  | `(tactic| walk_at "eval ListComp") => `(tactic| ((rename OnList => hm); refine Stop.mk ?_))
  | `(tactic| walk_at "exec For Name Call cons nil") => `(tactic| refine Stop.mk ?_)
  | `(tactic| walk_at "exec For Name Name cons nil") => `(tactic| refine Stop.mk ?_)
  | `(tactic| walk_at "exec For Name Subscript cons nil") => `(tactic| refine Stop.mk ?_)
  | `(tactic| walk_at "exec For Name Attribute cons nil") => `(tactic| refine Stop.mk ?_)
  | `(tactic| walk_at "exec While") => `(tactic| refine Stop.mk ?_)
  | `(tactic| walk_at "exec While Compare cons nil") => `(tactic| refine Stop.mk ?_)
  | `(tactic| walk_at "call type:tuple") => `(tactic| refine Stop.mk ?_)
  | `(tactic| walk_at "subscriptTail Name Slice str ref") => `(tactic| ((with_reducible show wpAny _ _ (subscriptTail _ (Expr.Slice none none (some _) _) _ _) _ _ _); (with_reducible rename Fr _ _ _ _ => F'); (with_reducible rename News _ _ _ _ => N'); (refine slice_rev (s := ⟨_, _, _, _, _⟩) F' N' ?hsz (by with_unfolding_all rfl) (by intro _; with_unfolding_all rfl) ?_); (case hsz => size_fits); intro _ _ _ _ _ _ _ _))
  | `(tactic| walk_at "eval IfExp") => `(tactic| ((rename _ < 0 + ((Int.toNat (3 - 0) : Nat) : Int) => hz); (have hz3 : _ < (3 : Int) := hz); clear hz; walk_at "eval IfExp"))
section
open PySem PySem.W PySem.Calls PyProof.Rows
namespace Mine
theorem wov_len (n : Nat) (l : List Nat) : ((l.map fun c => if c = n then [c] else [n, c]).flatten).length ≤ 2 * l.length := by
  induction l with
  | nil => simp
  | cons a r ih =>
    simp only [List.map_cons, List.flatten_cons, List.length_append, List.length_cons]
    have : (if a = n then [a] else [n, a]).length ≤ 2 := by split <;> simp
    omega
theorem wov_step {pre : List Nat} {n : Nat} {txt z : Str} (ht : txt = S (woven pre)) (hz : z.cps.toList = ((txt.cps.toList.map fun c => if c = n then [c] else [n, c]).flatten)) : z ++ ⟨#[n]⟩ = S (woven (pre ++ [n])) := by
  unfold woven
  rw [List.foldl_append]
  show _ = S (wovStep (woven pre) n)
  unfold wovStep
  apply Str.ext'
  apply Array.toList_inj.mp
  rw [Str.cps_append, Array.toList_append, hz, ht]
  rfl
inductive WovJ (news : List (Addr × Obj)) (L1 : Nat) (pre : List Nat) (m : Str → Option Value) : List (Addr × Obj) → Prop
  | mk (o : Obj) (v0 : Option Value) (txt : Str) (tt : Tok) (ho : o.data = .cell v0) (hm : m (Str.ofString "text") = some (.str txt tt)) (ht : txt = S (woven pre)) (hl : txt.length + 2 ≤ 2 ^ (pre.length + 1)) : WovJ news L1 pre m ((L1 + 1, o) :: news)
theorem wov_off {news own : List (Addr × Obj)} {a : Addr} {o o' : Obj} (h : ∀ p ∈ (a, o) :: news, ∀ q ∈ own, p.1 ≠ q.1) : ∀ p ∈ (a, o') :: news, ∀ q ∈ own, p.1 ≠ q.1 := fun p hp q hq =>
  (List.mem_cons.mp hp).elim (fun e => by rw [e]; exact h (a, o) (.head _) q hq) fun hp => h p (.tail _ hp) q hq
theorem wov_fit {txt z : Str} {n k : Nat} (hl : txt.length + 2 ≤ 2 ^ (k + 1)) (hlen : ((txt.cps.toList.map fun c => if c = n then [c] else [n, c]).flatten).length ≤ 2 * txt.length) (hzl : z.length = ((txt.cps.toList.map fun c => if c = n then [c] else [n, c]).flatten).length) {pre : List Nat} (hk : pre.length = k) : (z ++ (⟨#[n]⟩ : Str)).length + 2 ≤ 2 ^ ((pre ++ [n]).length + 1) := by
  rw [Str.length_append, hzl, List.length_append]
  show _ + 1 + 2 ≤ 2 ^ (pre.length + 1 + 1)
  rw [hk, Nat.pow_succ]
  omega
set_option maxRecDepth 100000 in
set_option maxHeartbeats 8000000 in
theorem wov {w : World} {mean : ExcName → Option Value} {mg mb : Str → Option Value} (x : Str) (t : Tok) (hxl : x.length ≤ 6) : Challenge.rw_sn0046_01 = Challenge.rw_sn0046_01 → Ctr 5 w mean mg mb 127 [.str x t] (fun t => .str (S (woven x.cps.toList.reverse)) t) := by
  unfold Ctr
  w_top off
  k_fill
  intro _
  intro dp un gd cn cs a ccd cl outer A₀ base h₀ L m news s Q E B F X N T hk hdp hun hret
  have on1 : OnList := trivial
  refine wpAny_call ?_
  k_dflt (refine' code_defC ?k1 ?k2 ?k3 ?k4 ?k5 ?kA ?kF ?kK ?k6 ?k7 ?k8 ?k9 ?kB ?kD ?_ ?c2 ?c3 ?c4; (case kA => exact rfl); (case kF => exact rfl); (case kK => first | exact rfl | assumption); (case k1 => k_asm); (case k2 => k_asm); (case k3 => k_asm); (case k4 => k_asm); (case k5 => k_asm); (case k6 => k_is); (case k7 => k_is); (case k8 => ktr_room); (case k9 => exact BindsTo.of_eq rfl); (case kB => exact rfl); (case kD => decide +kernel); (case c2 => exact rfl); (case c3 => exact rfl); (case c4 => exact rfl); k_whole; intro g1 L1 h1 tk1 cells1 FG1 F1 N1 Y1 B1 X1 T1 l1; (try k_lt l1); k_cells Y1; (try simp only [List.cons_append, List.nil_append] at N1); (try dsimp only); (try k_lift B1); (try k_fold))
  have hn1 : ∀ p ∈ news, p.1 ≠ L1 + 1 := fun p hp => Nat.ne_of_lt (Nat.lt_of_lt_of_le (l1 p hp) (Nat.le_succ _))
  k_steps
  refine Stop.out ?_
  (with_unfolding_all refine for_free (h₀ := g1) ?ha (by intro _; rfl) (by intro _ _; rfl) (by passes_own))
  k_steps
  (rename Fr _ _ _ _ => lF')
  (rename News _ _ _ _ => lN')
  refine free_text (WovJ news L1) ?hh lF' lN' ?hj ?turn ?done
  case hh => exact rfl
  case hj => exact ⟨_, _, _, _, by assumption, rfl, rfl, by decide⟩
  case done =>
    rintro m₁ nx h tk ⟨o, v0, txt, tt, ho, hm, ht, hl⟩ F₁ N₁
    dsimp only
    have F₂ := fr_known F₁ (.cons hm .nil)
    k_steps
    refine' endS (by with_reducible assumption) (by with_reducible assumption) (by with_reducible assumption) (by kcj_all) ?_
    rw [ht]
    congr 2
  case turn =>
    rintro QQ hQQ pre n post m₁ nx h tk t own e hoff ⟨o, v0, txt, tt, ho, hm, ht, hl⟩ F₁ N₁
    dsimp only
    have F₂ := fr_known F₁ (.cons hm .nil)
    have hpl : pre.length < 6 := by
      have := congrArg List.length e
      rw [len_toList] at this
      simp at this; omega
    have htl : txt.length ≤ 62 := by
      have : 2 ^ (pre.length + 1) ≤ 2 ^ 6 := Nat.pow_le_pow_right (by decide) (by omega)
      omega
    have hne : ∀ p ∈ news ++ own, p.1 ≠ L1 + 1 := fun p hp => (List.mem_append.mp hp).elim (hn1 p) fun hq e => hoff _ (.head _) p hq e.symm
    simp only [List.cons_append] at N₁
    refine wpAny_assign_Name ?_
    k_steps
    refine Stop.out ?_
    (rename Fr _ _ _ _ => lF')
    k_dflt (refine ListComp_T (_F₀ := lF') (by with_unfolding_all rfl) (by decide) (by rfl) (by decide) (by rfl) (by intro _; rfl) ?_)
    k_steps
    (rename News _ _ _ _ => lN')
    refine ⟨_, _, _, rfl, rfl, lF', lN', by rw [sizeLine_eq]; omega, fun gg => ?_⟩
    refine rest_gen (fun i y => ∃ c t, txt.cps.toList[i]? = some c ∧ y = .str (S (if c = n then [c] else [n, c])) t) ?turn2 ?fin
    case turn2 =>
      intro i v I' oI' C' oC' D' m2 ys' hh tkk E' hi hv hC' hx' F' N' off' ne'
      obtain ⟨c, u, hc, rfl⟩ := hv
      k_steps
      · (rename (({ cps := #[c] } : Str) == { cps := #[n] }) = true => hcn)
        have hcn' : c = n := by have := beq_iff_eq.mp hcn; injection this with this; simpa using this
        exact LCg.CompEnd.intro F' N' _ (fun p hp => hp) off' trivial ⟨rfl, c, _, by simpa using hc, by rw [if_pos hcn']; rfl⟩
      · (rename (({ cps := #[c] } : Str) == { cps := #[n] }) = false => hcn)
        have hcn' : c ≠ n := fun h => by subst h; simp at hcn
        exact LCg.CompEnd.intro F' N' _ (fun p hp => hp) off' trivial ⟨rfl, c, _, by simpa using hc, by rw [if_neg hcn']; rfl⟩
    case fin =>
      intro ys hyl hys
      k_steps
      (rename News _ _ _ _ => lN2)
      have hstr : StrsAre ys ((txt.cps.toList.map fun c => if c = n then [c] else [n, c]).map S) := by
        refine strsAre_of (by simp [hyl]) fun i y z hy hz => ?_
        obtain ⟨c, t', hc, e'⟩ := hys i y hy
        refine ⟨t', ?_⟩
        rw [List.getElem?_map, List.getElem?_map, hc] at hz
        cases hz
        exact e'
      have hlen := wov_len n txt.cps.toList
      rw [len_toList] at hlen
      refine join_rule _ (News.isList lN2 (.head _)) hstr (by rw [List.length_map, len_toList]; omega) ?_
      intro z tz kz hz hzl
      k_steps
      (rename Fr _ _ _ _ => F9)
      (rename News _ _ _ _ => N9)
      (rename Obj.data _ = Data.cell (some _) => hd9)
      exact TurnEnd.next ((L1 + 1, _) :: news) F9 N9 (fun p hp => .tail _ hp) (wov_off hoff) ⟨_, _, z ++ ⟨#[n]⟩, _, hd9, rfl, wov_step ht hz, wov_fit hl hlen hzl rfl⟩
end Mine

end
section
open PySem PySem.W PySem.Calls PyProof.Rows
namespace Mine
theorem intsAre3 {ys : List Value} {a b c : Int} (h : IntsAre ys [a, b, c]) : ∃ ta tb tc, ys = [.int a ta, .int b tb, .int c tc] := by
  cases h with
  | cons _ ta h => cases h with
    | cons _ tb h => cases h with
      | cons _ tc h => cases h; exact ⟨ta, tb, tc, rfl⟩
theorem per_step {pre : List Nat} {n : Nat} {a b c : Int} (h : perF pre = (a, b, c)) : perF (pre ++ [n]) = perStep (a, b, c) n := by
  unfold perF; rw [List.foldl_append]; show perStep (perF pre) n = _; rw [h]
theorem per_sub {news own : List (Addr × Obj)} {p₁ p₂ p₃ p₄ p₅ : Addr × Obj} : ∀ p ∈ (p₁ :: p₂ :: p₃ :: p₄ :: news) ++ own, p ∈ p₁ :: p₅ :: p₂ :: p₃ :: p₄ :: (news ++ own) := by
  intro p hp
  simp only [List.cons_append, List.mem_cons] at hp ⊢
  grind
theorem per_done {news : List (Addr × Obj)} {p₁ p₂ p₃ p₄ : Addr × Obj} : ∀ p ∈ [p₁] ++ news, p ∈ p₁ :: p₂ :: p₃ :: p₄ :: news := by
  intro p hp
  simp only [List.cons_append, List.nil_append, List.mem_cons] at hp ⊢
  grind
theorem per_off {news own : List (Addr × Obj)} {D c1 c2 c3 : Addr} {o o1 o2 o3 : Obj} (h : ∀ p ∈ news, ∀ q ∈ own, p.1 ≠ q.1) (hD : ∀ p ∈ news ++ own, p.1 ≠ D) (h1 : ∀ p ∈ news ++ own, p.1 ≠ c1) (h2 : ∀ p ∈ news ++ own, p.1 ≠ c2) (h3 : ∀ p ∈ news ++ own, p.1 ≠ c3) :
    ∀ p ∈ (D, o) :: (c3, o3) :: (c2, o2) :: (c1, o1) :: news, ∀ q ∈ own, p.1 ≠ q.1 := by
  intro p hp q hq
  have hm : q ∈ news ++ own := List.mem_append_right _ hq
  simp only [List.mem_cons] at hp
  rcases hp with rfl | rfl | rfl | rfl | hp
  · exact fun e => hD q hm e.symm
  · exact fun e => h3 q hm e.symm
  · exact fun e => h2 q hm e.symm
  · exact fun e => h1 q hm e.symm
  · exact h p hp q hq
inductive PerJ (news : List (Addr × Obj)) (L1 : Nat) (pre : List Nat) : List (Addr × Obj) → Prop
  | mk (o1 o2 o3 : Obj) (v2 v3 : Option Value) (D : Nat) (a b c : Int) (ta tb tc : Tok) (nn : Nat) (d1 : o1.data = .cell (some (.ref D))) (d2 : o2.data = .cell v2) (d3 : o3.data = .cell v3) (hp : perF pre = (a, b, c)) (hD1 : @Ne Nat D (L1 + 1)) (hD2 : @Ne Nat D (L1 + 1 + 1)) (hD3 : @Ne Nat D (L1 + 1 + 1 + 1)) (hDn : ∀ p ∈ news, p.1 ≠ D) : PerJ news L1 pre ((D, listOf #[.int a ta, .int b tb, .int c tc] nn) :: (L1 + 1 + 1 + 1, o3) :: (L1 + 1 + 1, o2) :: (L1 + 1, o1) :: news)
inductive PerR (x : List Nat) : Value → List (Addr × Obj) → Prop
  | mk (D : Addr) (a b c : Int) (ta tb tc : Tok) (nn : Nat) (hp : perF x = (a, b, c)) : PerR x (.ref D) [(D, listOf #[.int a ta, .int b tb, .int c tc] nn)]
theorem per_end {news : List (Addr × Obj)} {L1 : Nat} {x : List Nat} {ys : List Value} {a b c : Int} {o1 o2 o3 : Obj} {v2 v3 : Option Value} {D nn : Nat} (hI : IntsAre ys [a, b, c]) (d1 : o1.data = .cell (some (.ref D))) (d2 : o2.data = .cell v2) (d3 : o3.data = .cell v3) (hp : perF x = (a, b, c)) (hD1 : @Ne Nat (L1 + 1) D) (hD2 : @Ne Nat (L1 + 1 + 1) D) (hD3 : @Ne Nat (L1 + 1 + 1 + 1) D) (hDn : ∀ p ∈ news, p.1 ≠ D) : PerJ news L1 x ((D, listOf ys.toArray nn) :: (L1 + 1 + 1 + 1, o3) :: (L1 + 1 + 1, o2) :: (L1 + 1, o1) :: news) := by
  obtain ⟨ta, tb, tc, rfl⟩ := intsAre3 hI
  exact ⟨_, _, _, _, _, _, _, _, _, _, _, _, _, d1, d2, d3, hp, Ne.symm hD1, Ne.symm hD2, Ne.symm hD3, hDn⟩
set_option maxRecDepth 100000 in
set_option maxHeartbeats 8000000 in
theorem per {w : World} {mean : ExcName → Option Value} {mg mb : Str → Option Value} (x : Str) (t : Tok) (hx : ∀ c ∈ x.cps.toList, Rgb c) : Challenge.rw_sn0046_01 = Challenge.rw_sn0046_01 → CtrO 5 w mean mg mb 132 [.str x t] (PerR x.cps.toList) := by
  unfold CtrO
  w_top off
  k_fill
  intro _
  intro dp un gd cn cs a ccd cl outer A₀ base h₀ L m news s Q E B F X N T hk hdp hun hret
  refine wpAny_call ?_
  k_dflt (refine' code_defC ?k1 ?k2 ?k3 ?k4 ?k5 ?kA ?kF ?kK ?k6 ?k7 ?k8 ?k9 ?kB ?kD ?_ ?c2 ?c3 ?c4; (case kA => exact rfl); (case kF => exact rfl); (case kK => first | exact rfl | assumption); (case k1 => k_asm); (case k2 => k_asm); (case k3 => k_asm); (case k4 => k_asm); (case k5 => k_asm); (case k6 => k_is); (case k7 => k_is); (case k8 => ktr_room); (case k9 => exact BindsTo.of_eq rfl); (case kB => exact rfl); (case kD => decide +kernel); (case c2 => exact rfl); (case c3 => exact rfl); (case c4 => exact rfl); k_whole; intro g1 L1 h1 tk1 cells1 FG1 F1 N1 Y1 B1 X1 T1 l1; (try k_lt l1); k_cells Y1; (try simp only [List.cons_append, List.nil_append] at N1); (try dsimp only); (try k_lift B1); (try k_fold))
  have hn1 : ∀ p ∈ news, p.1 ≠ L1 + 1 := fun p hp => Nat.ne_of_lt (Nat.lt_of_lt_of_le (l1 p hp) (by omega))
  have hn2 : ∀ p ∈ news, p.1 ≠ L1 + 1 + 1 := fun p hp => Nat.ne_of_lt (Nat.lt_of_lt_of_le (l1 p hp) (by omega))
  have hn3 : ∀ p ∈ news, p.1 ≠ L1 + 1 + 1 + 1 := fun p hp => Nat.ne_of_lt (Nat.lt_of_lt_of_le (l1 p hp) (by omega))
  k_steps
  refine Stop.out ?_
  (with_unfolding_all refine for_free (h₀ := g1) ?ha (by intro _; rfl) (by intro _ _; rfl) (by passes_own))
  k_steps
  (rename Fr _ _ _ _ => lF')
  (rename News _ _ _ _ => lN')
  (rename (_ ∧ _ ∧ _ ∧ AllLt _ _) => hLt)
  obtain ⟨hl3, hl2, hl1, hAll⟩ := hLt
  refine free_text (fun pre _ nx => PerJ news L1 pre nx) ?hh lF' lN' ?hj ?turn ?done
  case hh => exact rfl
  case hj => exact ⟨_, _, _, _, _, _, 1, 1, 1, _, _, _, _, by assumption, by assumption, by assumption, rfl, Nat.ne_of_gt hl1, Nat.ne_of_gt hl2, Nat.ne_of_gt hl3, fun p hp => Nat.ne_of_lt (allLt_mem hAll p hp)⟩
  case done =>
    rintro m₁ nx h tk ⟨o1, o2, o3, v2, v3, D, a', b', c', ta, tb, tc, nn, d1, d2, d3, hp, hD1, hD2, hD3, hDn⟩ F₁ N₁
    dsimp only
    k_steps
    exact hret _ [_] _ _ (by assumption) (news_sub (by assumption) per_done) (fun p hp q hq e => hDn q hq (by rw [List.mem_singleton.mp hp] at e; exact e.symm)) ⟨D, a', b', c', ta, tb, tc, nn, hp⟩
  case turn =>
    rintro QQ hQQ pre n post m₁ nx h tk t own e hoff ⟨o1, o2, o3, v2, v3, D, a', b', c', ta, tb, tc, nn, d1, d2, d3, hp, hD1, hD2, hD3, hDn⟩ F₁ N₁
    dsimp only
    simp only [List.cons_append] at N₁
    have ho1 : ∀ p ∈ news ++ own, p.1 ≠ L1 + 1 := fun p hp => (List.mem_append.mp hp).elim (hn1 p) fun hq e => hoff _ (.tail _ (.tail _ (.tail _ (.head _)))) p hq e.symm
    have ho2 : ∀ p ∈ news ++ own, p.1 ≠ L1 + 1 + 1 := fun p hp => (List.mem_append.mp hp).elim (hn2 p) fun hq e => hoff _ (.tail _ (.tail _ (.head _))) p hq e.symm
    have ho3 : ∀ p ∈ news ++ own, p.1 ≠ L1 + 1 + 1 + 1 := fun p hp => (List.mem_append.mp hp).elim (hn3 p) fun hq e => hoff _ (.tail _ (.head _)) p hq e.symm
    refine wpAny_assign_Name ?_
    have hnn : ∀ p ∈ news, ∀ q ∈ own, p.1 ≠ q.1 := fun p hp => hoff p (.tail _ (.tail _ (.tail _ (.tail _ hp))))
    have hn : n ∈ x.cps.toList := by rw [e]; simp
    rcases hx n hn with rfl | rfl | rfl
    · k_steps
      · exact absurd (by assumption) (show ¬ Txt.find (Str.ofString "rgb") ⟨#[114]⟩ = -1 by decide +kernel)
      (rename IntsAre _ _ => hI8)
      have hI9 : IntsAre _ [a', b' + a', c' + a'] := hI8
      (rename Fr _ _ _ _ => F9)
      (rename News _ _ _ _ => N9)
      (rename Obj.data _ = Data.cell (some (.ref _)) => hd9)
      (rename Obj.data _ = Data.cell (some (.int _ _)) => hd8)
      (rename Obj.data _ = Data.cell (some (.str _ _)) => hd7)
      (rename (_ ∧ _ ∧ _ ∧ _ ∧ LCg.Off1 _ _) => hO)
      have hOm := off1_mem hO.2.2.2.2
      exact TurnEnd.next (_ :: (L1 + 1 + 1 + 1, _) :: (L1 + 1 + 1, _) :: (L1 + 1, _) :: news) F9 N9 (per_sub) (per_off hnn hOm ho1 ho2 ho3) (per_end hI9 hd9 hd7 hd8 (per_step hp) hO.2.2.2.1 hO.2.2.1 hO.2.1 fun p hp => hOm p (List.mem_append_left _ hp))
    · k_steps
      · exact absurd (by assumption) (show ¬ Txt.find (Str.ofString "rgb") ⟨#[103]⟩ = -1 by decide +kernel)
      (rename IntsAre _ _ => hI8)
      have hI9 : IntsAre _ [a' + b', b', c' + b'] := hI8
      (rename Fr _ _ _ _ => F9)
      (rename News _ _ _ _ => N9)
      (rename Obj.data _ = Data.cell (some (.ref _)) => hd9)
      (rename Obj.data _ = Data.cell (some (.int _ _)) => hd8)
      (rename Obj.data _ = Data.cell (some (.str _ _)) => hd7)
      (rename (_ ∧ _ ∧ _ ∧ _ ∧ LCg.Off1 _ _) => hO)
      have hOm := off1_mem hO.2.2.2.2
      exact TurnEnd.next (_ :: (L1 + 1 + 1 + 1, _) :: (L1 + 1 + 1, _) :: (L1 + 1, _) :: news) F9 N9 (per_sub) (per_off hnn hOm ho1 ho2 ho3) (per_end hI9 hd9 hd7 hd8 (per_step hp) hO.2.2.2.1 hO.2.2.1 hO.2.1 fun p hp => hOm p (List.mem_append_left _ hp))
    · k_steps
      · exact absurd (by assumption) (show ¬ Txt.find (Str.ofString "rgb") ⟨#[98]⟩ = -1 by decide +kernel)
      (rename IntsAre _ _ => hI8)
      have hI9 : IntsAre _ [a' + c', b' + c', c'] := hI8
      (rename Fr _ _ _ _ => F9)
      (rename News _ _ _ _ => N9)
      (rename Obj.data _ = Data.cell (some (.ref _)) => hd9)
      (rename Obj.data _ = Data.cell (some (.int _ _)) => hd8)
      (rename Obj.data _ = Data.cell (some (.str _ _)) => hd7)
      (rename (_ ∧ _ ∧ _ ∧ _ ∧ LCg.Off1 _ _) => hO)
      have hOm := off1_mem hO.2.2.2.2
      exact TurnEnd.next (_ :: (L1 + 1 + 1 + 1, _) :: (L1 + 1 + 1, _) :: (L1 + 1, _) :: news) F9 N9 (per_sub) (per_off hnn hOm ho1 ho2 ho3) (per_end hI9 hd9 hd7 hd8 (per_step hp) hO.2.2.2.1 hO.2.2.1 hO.2.1 fun p hp => hOm p (List.mem_append_left _ hp))
end Mine

end
section
open PySem PySem.W PySem.Calls PyProof.Rows
namespace Mine
theorem flat_rep (k : Nat) : (List.replicate k [(0 : Int)]).flatten = List.replicate k 0 := by
  induction k with
  | zero => rfl
  | succ k ih => rw [List.replicate_succ, List.flatten_cons, ih]; rfl
theorem ws_blank {pre : List Nat} {cnt : List Int} {b nt : Int} (h : wsF pre = (cnt, b, nt)) : wsF (pre ++ [32]) = (cnt, b + 1, nt) := by
  unfold wsF; rw [List.foldl_append]; show wsStep (wsF pre) 32 = _; rw [h]; rfl
theorem ws_tab {pre : List Nat} {cnt : List Int} {b nt : Int} (h : wsF pre = (cnt, b, nt)) (hb : ¬ ((cnt.length : Int) ≤ b)) : wsF (pre ++ [9]) = (cnt.set b.toNat (cnt.getD b.toNat 0 + 1), 0, nt + 1) := by
  unfold wsF; rw [List.foldl_append]; show wsStep (wsF pre) 9 = _; rw [h]
  unfold wsStep
  rw [if_neg (by decide)]
  dsimp only
  rw [if_neg hb]
theorem ws_tab_long {pre : List Nat} {cnt : List Int} {b nt : Int} (h : wsF pre = (cnt, b, nt)) (hb : (cnt.length : Int) ≤ b) : wsF (pre ++ [9]) = ((cnt ++ (List.replicate (b - cnt.length + 1).toNat [(0 : Int)]).flatten).set b.toNat ((cnt ++ (List.replicate (b - cnt.length + 1).toNat [(0 : Int)]).flatten).getD b.toNat 0 + 1), 0, nt + 1) := by
  unfold wsF; rw [List.foldl_append]; show wsStep (wsF pre) 9 = _; rw [h]
  unfold wsStep
  rw [if_neg (by decide)]
  dsimp only
  rw [if_pos hb, flat_rep]
theorem ind_sub {news own : List (Addr × Obj)} {a b c d x dx : Addr × Obj} : ∀ p ∈ (a :: x :: dx :: news) ++ own, p ∈ a :: b :: c :: d :: x :: dx :: (news ++ own) := by
  intro p hp
  simp only [List.cons_append, List.mem_cons] at hp ⊢
  grind
theorem ind_done {news : List (Addr × Obj)} {a b d x dx : Addr × Obj} : ∀ p ∈ [a, b, x, dx] ++ news, p ∈ a :: b :: d :: x :: dx :: news := by
  intro p hp
  simp only [List.cons_append, List.nil_append, List.mem_cons] at hp ⊢
  grind
theorem ind_off {news : List (Addr × Obj)} {a b x dx : Addr} {oa ob ox od : Obj} (h1 : ∀ p ∈ news, p.1 < a) (h2 : ∀ p ∈ news, p.1 < b) (h3 : ∀ p ∈ news, p.1 < x) (h4 : ∀ p ∈ news, p.1 < dx) :
    ∀ p ∈ [(a, oa), (b, ob), (x, ox), (dx, od)], ∀ q ∈ news, p.1 ≠ q.1 := by
  intro p hp q hq
  simp only [List.mem_cons, List.not_mem_nil, or_false] at hp
  rcases hp with rfl | rfl | rfl | rfl
  · exact Nat.ne_of_gt (h1 q hq)
  · exact Nat.ne_of_gt (h2 q hq)
  · exact Nat.ne_of_gt (h3 q hq)
  · exact Nat.ne_of_gt (h4 q hq)
theorem pick_dict {g h : Heap} {L X DX : Addr} {a t c d : Addr × Obj} {i ob : Obj} {news : List (Addr × Obj)} (N : News g L h (a :: t :: (X, i) :: (DX, ob) :: c :: d :: news)) : ∃ ob', ob' = ob ∧ News g L h (a :: (X, i) :: (DX, ob') :: news) :=
  ⟨ob, rfl, news_sub N (by intro p hp; simp only [List.mem_cons] at hp ⊢; grind)⟩
inductive IndJ (X DX : Addr) (ob : Obj) (news : List (Addr × Obj)) (pre : List Nat) (m : Str → Option Value) : List (Addr × Obj) → Prop
  | mk (D : Nat) (ys : List Value) (cnt : List Int) (nn : Nat) (b n' nt : Int) (tb tn tt ts tt' : Tok) (hI : IntsAre ys cnt) (e1 : m (Str.ofString "count") = some (.ref D)) (e2 : m (Str.ofString "b") = some (.int b tb)) (e3 : m (Str.ofString "n") = some (.int n' tn)) (e4 : m (Str.ofString "nt") = some (.int nt tt)) (e5 : m (Str.ofString "S") = some (.str (Str.ofString " ") ts)) (e6 : m (Str.ofString "T") = some (.str (Str.ofString "\t") tt')) (e7 : m (Str.ofString "self") = some (.ref X)) (hw : wsF pre = (cnt, b, nt)) (hb0 : 0 ≤ b) (hb1 : b ≤ pre.length) (hcl : cnt.length ≤ pre.length) (hX : @Ne Nat X D) (hDX : @Ne Nat DX D) (hDn : ∀ p ∈ news, p.1 ≠ D) : IndJ X DX ob news pre m ((D, listOf ys.toArray nn) :: (X, instObj 111 DX) :: (DX, ob) :: news)
inductive IndR (x : Str) (n : Nat) : Value → List (Addr × Obj) → Prop
  | mk (X DX T1 T2 : Addr) (ys : List Value) (cnt : List Int) (b nt : Int) (tb tt : Tok) (es : List DictEntry) (en : Nat) (hI : IntsAre ys cnt) (hg : getL (Str.ofString "norm") es = some (some (.ref T2))) (hn : getL (Str.ofString "nt") es = some (some (.int nt tt))) (hw : wsF (x.cps.toList.map fun c => if c = n then 9 else 32) = (cnt, b, nt)) : IndR x n (.ref X) [(T2, { cls := .type "tuple", data := .seq #[.ref T1, .int b tb] }), (T1, { cls := .type "tuple", data := .seq ys.toArray }), (X, instObj 111 DX), (DX, dictOf es en)]
set_option maxRecDepth 100000 in
set_option maxHeartbeats 8000000 in
theorem ind {w : World} {mean : ExcName → Option Value} {mg mb : Str → Option Value} (x : Str) (t u : Tok) (n : Nat) (hxl : x.length ≤ 1000) : Challenge.rw_sn0046_01 = Challenge.rw_sn0046_01 → CtrO 5 w mean mg mb 137 [.str x t, .str ⟨#[n]⟩ u] (IndR x n) := by
  unfold CtrO
  w_top off
  k_fill
  intro _
  intro dp un gd cn cs a ccd cl outer A₀ base h₀ L m news s Q E B F X N T hk hdp hun hret
  have on1 : OnList := trivial
  refine wpAny_call ?_
  k_dflt (refine' code_defC ?k1 ?k2 ?k3 ?k4 ?k5 ?kA ?kF ?kK ?k6 ?k7 ?k8 ?k9 ?kB ?kD ?_ ?c2 ?c3 ?c4; (case kA => exact rfl); (case kF => exact rfl); (case kK => first | exact rfl | assumption); (case k1 => k_asm); (case k2 => k_asm); (case k3 => k_asm); (case k4 => k_asm); (case k5 => k_asm); (case k6 => k_is); (case k7 => k_is); (case k8 => ktr_room); (case k9 => exact BindsTo.of_eq rfl); (case kB => exact rfl); (case kD => decide +kernel); (case c2 => exact rfl); (case c3 => exact rfl); (case c4 => exact rfl); k_whole; intro g1 L1 h1 tk1 cells1 FG1 F1 N1 Y1 B1 X1 T1 l1; (try k_lt l1); k_cells Y1; (try simp only [List.cons_append, List.nil_append] at N1); (try dsimp only); (try k_lift B1); (try k_fold))
  have hn1 : ∀ p ∈ news, p.1 ≠ L1 + 1 := fun p hp => Nat.ne_of_lt (Nat.lt_of_lt_of_le (l1 p hp) (by omega))
  k_steps
  refine Stop.out ?_
  (rename Fr _ _ _ _ => lF')
  k_dflt (refine ListComp_T (_F₀ := lF') (by with_unfolding_all rfl) (by decide) (by rfl) (by decide) (by rfl) (by intro _; rfl) ?_)
  k_steps
  (rename News _ _ _ _ => lN')
  refine ⟨_, _, _, rfl, rfl, lF', lN', by rw [sizeLine_eq]; omega, fun gg => ?_⟩
  refine rest_gen (fun i y => ∃ c t, x.cps.toList[i]? = some c ∧ y = .str (S [if c = n then 9 else 32]) t) ?turn2 ?fin
  case turn2 =>
    intro i v I' oI' C' oC' D' m2 ys' hh tkk E' hi hv hC' hx' F' N' off' ne'
    obtain ⟨c, u, hc, rfl⟩ := hv
    k_steps
    · (rename (({ cps := #[c] } : Str) == { cps := #[n] }) = true => hcn)
      have hcn' : c = n := by have := beq_iff_eq.mp hcn; injection this with this; simpa using this
      exact LCg.CompEnd.intro F' N' _ (fun p hp => hp) off' trivial ⟨rfl, c, _, by simpa using hc, by rw [if_pos hcn']; rfl⟩
    · (rename (({ cps := #[c] } : Str) == { cps := #[n] }) = false => hcn)
      have hcn' : c ≠ n := fun h => by subst h; simp at hcn
      exact LCg.CompEnd.intro F' N' _ (fun p hp => hp) off' trivial ⟨rfl, c, _, by simpa using hc, by rw [if_neg hcn']; rfl⟩
  case fin =>
    intro ys hyl hys
    k_steps
    (rename News _ _ _ _ => lN2)
    have hstr : StrsAre ys ((x.cps.toList.map fun c => [if c = n then 9 else 32]).map S) := by
      refine strsAre_of (by simp [hyl]) fun i y z hy hz => ?_
      obtain ⟨c, t', hc, e'⟩ := hys i y hy
      refine ⟨t', ?_⟩
      rw [List.getElem?_map, List.getElem?_map, hc] at hz
      cases hz
      exact e'
    have hfl : (x.cps.toList.map fun c => [if c = n then 9 else 32]).flatten = x.cps.toList.map fun c => if c = n then 9 else 32 := by
      induction x.cps.toList with
      | nil => rfl
      | cons a r ih => simp only [List.map_cons, List.flatten_cons, ih]; rfl
    refine join_rule _ (News.isList lN2 (.head _)) hstr (by rw [hfl, List.length_map, List.length_map, len_toList]; omega) ?_
    intro z tz kz hz hzl
    rw [hfl] at hz hzl
    rw [List.length_map, len_toList] at hzl
    k_steps
    refine Stop.out ?_
    rename_i X DX ha Fa Na la1 la2 g2 L2 hb FG2 B2 X2 T2 tkA hc DT hd0 lb1 he hf hg tkB DL hh0 lc1 hi hj hk0 hl F2 N2
    obtain ⟨hcT, hcX, hcDX, _, _, hcN⟩ := lc1
    have hDn0 : ∀ p ∈ news, p.1 ≠ DL := fun p hp => Nat.ne_of_lt (allLt_mem hcN p hp)
    (with_unfolding_all refine for_free (h₀ := g2) ?ha (by intro _; rfl) (by intro _ _; rfl) (by passes_own))
    k_steps
    obtain ⟨ob, hob, N3⟩ := pick_dict N2
    refine free_text (IndJ X DX ob news) ?hh F2 N3 ?hj ?turn ?done
    case hh => exact rfl
    case hj => exact ⟨_, [], [], _, 0, 0, 0, _, _, _, _, _, .nil, rfl, rfl, rfl, rfl, rfl, rfl, rfl, rfl, Int.le_refl _, Int.le_refl _, Nat.le_refl _, Nat.ne_of_lt hcX, Nat.ne_of_lt hcDX, hDn0⟩
    case done =>
      rintro m₁ nx h tk ⟨D, ys, cnt, nn, b, n', nt, tb, tn, tt, ts, tt', hI, e1, e2, e3, e4, e5, e6, e7, hw, hb0, hb1, hcl, hX, hDX, hDn⟩ F₁ N₁
      dsimp only
      have F₂ := fr_known F₁ (.cons e1 (.cons e2 (.cons e3 (.cons e4 (.cons e7 .nil)))))
      subst hob
      have hzl2 : z.cps.toList.length ≤ 1000 := by rw [len_toList, hzl]; exact hxl
      have hil := hI.length
      k_steps
      refine Stop.out ?_
      (rename Fr _ _ _ _ => F9)
      (rename News _ _ _ _ => N9)
      refine' kde_tupleOf (items := ys.toArray) (zs := ys) F9 N9 ?k3 ?k4 rfl ?_
      case k3 => exact News.isList N9 (by k_mem)
      case k4 => rw [List.size_toArray]; omega
      intro DT1 hT1 FT1 NT1 lT1
      k_lt lT1
      k_steps
      (rename Fr _ _ _ _ => F8)
      (rename News _ _ _ _ => N8)
      rename_i DT2 hq1 l9 hq2 tkq hq3 Fq Nq kFq kNq Tcq kXq Tc2 kX2
      obtain ⟨_, _, hA0⟩ := la1
      exact hret _ [(DT2, _), (DT1, _), (X, _), (DX, _)] _ _ F8 (news_sub N8 ind_done) (ind_off (allLt_mem l9.2.2.2.2) (allLt_mem lT1.2.2.2) (fun p hp => Nat.lt_trans (allLt_mem hA0 p hp) la2) (allLt_mem hA0)) ⟨X, DX, _, _, ys, cnt, b, nt, tb, tt, _, _, hI, by k_get, by k_get, by rw [← hz]; exact hw⟩
    case turn =>
      rintro QQ hQQ pre ch post m₁ nx h tk t own e hoff ⟨D, ys, cnt, nn, b, n', nt, tb, tn, tt, ts, tt', hI, e1, e2, e3, e4, e5, e6, e7, hw, hb0, hb1, hcl, hX, hDX, hDn⟩ F₁ N₁
      dsimp only
      have F₂ := fr_known F₁ (.cons e1 (.cons e2 (.cons e3 (.cons e4 (.cons e5 (.cons e6 (.cons e7 .nil)))))))
      simp only [List.cons_append] at N₁
      have hoD : ∀ p ∈ news ++ own, p.1 ≠ D := fun p hp => (List.mem_append.mp hp).elim (hDn p) fun hq e => hoff _ (.head _) p hq e.symm
      have hpl : pre.length ≤ 1000 := by
        have := congrArg List.length e
        rw [len_toList, hzl] at this
        simp at this; omega
      have hil := hI.length
      refine wpAny_assign_Name ?_
      have hn : ch ∈ z.cps.toList := by rw [e]; simp
      rw [hz] at hn
      obtain ⟨c0, _, hc0⟩ := List.mem_map.mp hn
      have hch : ch = 32 ∨ ch = 9 := by rw [← hc0]; split <;> simp
      have hsub := fun p hp => hoff p (List.mem_cons_of_mem _ hp)
      rcases hch with rfl | rfl
      · k_steps
        (rename Fr _ _ _ _ => F9)
        (rename News _ _ _ _ => N9)
        exact TurnEnd.next ((D, _) :: (X, instObj 111 DX) :: (DX, ob) :: news) F9 N9 (fun p hp => hp) hoff ⟨_, _, _, _, _, _, _, _, _, _, _, _, hI, rfl, rfl, rfl, rfl, rfl, rfl, rfl, ws_blank hw, by omega, by ((try simp only [List.length_set, List.length_append, flat_rep, List.length_replicate, List.length_cons, List.length_nil]); omega), by ((try simp only [List.length_set, List.length_append, flat_rep, List.length_replicate, List.length_cons, List.length_nil]); omega), hX, hDX, hDn⟩
      · k_steps
        · (rename Fr _ _ _ _ => F9)
          (rename News _ _ _ _ => N9)
          (rename (_ ∧ _ ∧ _ ∧ _ ∧ _ ∧ AllLt _ _) => hlt9)
          obtain ⟨_, _, _, hX9, hDX9, hA9⟩ := hlt9
          (rename IntsAre (List.set _ _ _) _ => hI9)
          exact TurnEnd.next (_ :: (X, instObj 111 DX) :: (DX, ob) :: news) F9 N9 ind_sub (fun p hp q hq => by
            rcases List.mem_cons.mp hp with rfl | hp
            · exact fun e => absurd (allLt_mem hA9 q (List.mem_append_right _ hq)) (by rw [← e]; exact Nat.lt_irrefl _)
            · exact hsub p hp q hq) ⟨_, _, _, _, _, _, _, _, _, _, _, _, hI9, rfl, rfl, rfl, rfl, rfl, rfl, rfl, ws_tab_long hw (by assumption), by omega, by ((try simp only [List.length_set, List.length_append, flat_rep, List.length_replicate, List.length_cons, List.length_nil]); omega), by ((try simp only [List.length_set, List.length_append, flat_rep, List.length_replicate, List.length_cons, List.length_nil]); omega), Nat.ne_of_lt hX9, Nat.ne_of_lt hDX9, fun p hp => Nat.ne_of_lt (allLt_mem hA9 p (List.mem_append_left _ hp))⟩
        · (rename Fr _ _ _ _ => F9)
          (rename News _ _ _ _ => N9)
          (rename IntsAre (List.set _ _ _) _ => hI9)
          exact TurnEnd.next ((D, _) :: (X, instObj 111 DX) :: (DX, ob) :: news) F9 N9 (fun p hp => hp) (fun p hp q hq => by
            rcases List.mem_cons.mp hp with rfl | hp
            · exact hoff (D, _) (.head _) q hq
            · exact hsub p hp q hq) ⟨_, _, _, _, _, _, _, _, _, _, _, _, hI9, rfl, rfl, rfl, rfl, rfl, rfl, rfl, ws_tab hw (by assumption), by omega, by ((try simp only [List.length_set, List.length_append, flat_rep, List.length_replicate, List.length_cons, List.length_nil]); omega), by ((try simp only [List.length_set, List.length_append, flat_rep, List.length_replicate, List.length_cons, List.length_nil]); omega), hX, hDX, hDn⟩
end Mine

end
section
open PySem PySem.W PySem.Calls PyProof.Rows
namespace Mine
theorem fold_max {l : List Int} {M : Int} (h0 : 0 ≤ M) (h1 : M ∈ l) (h2 : ∀ v ∈ l, v ≤ M) : l.foldl max 0 = M := by
  have up : ∀ (l : List Int) (a : Int), a ≤ M → (∀ v ∈ l, v ≤ M) → l.foldl max a ≤ M := by
    intro l
    induction l with
    | nil => intro a ha _; exact ha
    | cons b r ih => intro a ha h; exact ih _ (by have := h b (.head _); omega) fun v hv => h v (.tail _ hv)
  have ge : ∀ (l : List Int) (a : Int), a ≤ l.foldl max a := by
    intro l
    induction l with
    | nil => intro a; exact Int.le_refl _
    | cons b r ih => intro a; exact Int.le_trans (by omega) (ih (max a b))
  have at_ : ∀ (l : List Int) (a : Int), M ∈ l → M ≤ l.foldl max a := by
    intro l
    induction l with
    | nil => intro a h; cases h
    | cons b r ih =>
      intro a h
      rcases List.mem_cons.mp h with rfl | h
      · exact Int.le_trans (by omega) (ge r (max a M))
      · exact ih _ h
  exact Int.le_antisymm (up l 0 h0 h2) (at_ l 0 h1)
theorem nrm_done {news : List (Addr × Obj)} {a b c d e f g : Addr × Obj} : ∀ p ∈ [a, b] ++ news, p ∈ a :: b :: c :: d :: e :: f :: g :: news := by
  intro p hp
  simp only [List.cons_append, List.nil_append, List.mem_cons] at hp ⊢
  grind
theorem nrm_off {news : List (Addr × Obj)} {a b : Addr} {oa ob : Obj} (h1 : ∀ p ∈ news, p.1 < a) (h2 : ∀ p ∈ news, p.1 < b) :
    ∀ p ∈ [(a, oa), (b, ob)], ∀ q ∈ news, p.1 ≠ q.1 := by
  intro p hp q hq
  simp only [List.mem_cons, List.not_mem_nil, or_false] at hp
  rcases hp with rfl | rfl
  · exact Nat.ne_of_gt (h1 q hq)
  · exact Nat.ne_of_gt (h2 q hq)
theorem split_item {l : List (Str × Tok)} {ps : List Str} (e : l.map (·.1) = ps) {i : Nat} {v : Value} (h : (strValues l).toArray[i]? = some v) : ∃ p t, ps[i]? = some p ∧ v = .str p t := by
  have h' : (l.map fun p => Value.str p.1 p.2)[i]? = some v := by simpa [strValues] using h
  rw [List.getElem?_map] at h'
  cases hq : l[i]? with
  | none => rw [hq] at h'; cases h'
  | some q =>
    rw [hq] at h'
    exact ⟨q.1, q.2, by rw [← e, List.getElem?_map, hq]; rfl, (Option.some.inj h').symm⟩
inductive NrmR (x : Str) (n : Nat) : Value → List (Addr × Obj) → Prop
  | mk (T1 T2 : Addr) (ys : List Value) (cnt : List Int) (b : Int) (tb : Tok) (hI : IntsAre ys cnt) (h : normL ((Txt.split x ⟨#[n]⟩).map fun p => (p.length : Int)) = (cnt, b)) : NrmR x n (.ref T2) [(T2, { cls := .type "tuple", data := .seq #[.ref T1, .int b tb] }), (T1, { cls := .type "tuple", data := .seq ys.toArray })]
set_option maxRecDepth 100000 in
set_option maxHeartbeats 8000000 in
theorem nrm {w : World} {mean : ExcName → Option Value} {mg mb : Str → Option Value} (x : Str) (t u : Tok) (n : Nat) (hxl : x.length ≤ 1000) (hsp : 2 ≤ (Txt.split x ⟨#[n]⟩).length) : Challenge.rw_sn0046_01 = Challenge.rw_sn0046_01 → CtrO 5 w mean mg mb 142 [.str x t, .str ⟨#[n]⟩ u] (NrmR x n) := by
  unfold CtrO
  w_top off
  k_fill
  intro _
  intro dp un gd cn cs a ccd cl outer A₀ base h₀ L m news s Q E B F X N T hk hdp hun hret
  have on1 : OnComp := trivial
  refine wpAny_call ?_
  k_dflt (refine' code_defC ?k1 ?k2 ?k3 ?k4 ?k5 ?kA ?kF ?kK ?k6 ?k7 ?k8 ?k9 ?kB ?kD ?_ ?c2 ?c3 ?c4; (case kA => exact rfl); (case kF => exact rfl); (case kK => first | exact rfl | assumption); (case k1 => k_asm); (case k2 => k_asm); (case k3 => k_asm); (case k4 => k_asm); (case k5 => k_asm); (case k6 => k_is); (case k7 => k_is); (case k8 => ktr_room); (case k9 => exact BindsTo.of_eq rfl); (case kB => exact rfl); (case kD => decide +kernel); (case c2 => exact rfl); (case c3 => exact rfl); (case c4 => exact rfl); k_whole; intro g1 L1 h1 tk1 cells1 FG1 F1 N1 Y1 B1 X1 T1 l1; (try k_lt l1); k_cells Y1; (try simp only [List.cons_append, List.nil_append] at N1); (try dsimp only); (try k_lift B1); (try k_fold))
  have hn1 : ∀ p ∈ news, p.1 ≠ L1 + 1 := fun p hp => Nat.ne_of_lt (Nat.lt_of_lt_of_le (l1 p hp) (by omega))
  have hq1 : L1 + 1 < h1.objs.size := Heap.lt_size (N1 _ (.head _)).1
  k_steps
  refine Stop.out ?_
  (rename Fr _ _ _ _ => F9)
  (rename News _ _ _ _ => N9)
  (rename List.map _ _ = Txt.split _ _ => hsplit)
  rename_i l9 _ _ _ _
  have hw := split_weight x ⟨#[n]⟩ (Nat.le_refl _)
  have hll : l9.length = (Txt.split x ⟨#[n]⟩).length := by rw [← hsplit, List.length_map]
  refine LCg.CompSrc.ledger (its := (strValues l9).toArray) (by rfl) F9 N9 (.head _) (by rw [List.size_toArray]; show (List.map _ _).length ≤ _; rw [List.length_map, sizeLine_eq]; omega) (fun gg => ?_)
  refine rest_gen (fun i y => ∃ (p : Str) (t : Tok), (Txt.split x ⟨#[n]⟩)[i]? = some p ∧ y = .int p.length t) ?turn2 ?fin
  case turn2 =>
    intro i v I' oI' C' oC' D' m2 ys' hh tkk E' hi hv hC' hx' F' N' off' ne'
    obtain ⟨p, tp, hp, rfl⟩ := split_item hsplit hv
    have hpl : p.length ≤ 1000 := Nat.le_trans (part_short (List.mem_of_getElem? hp)) hxl
    k_steps
    exact LCg.CompEnd.intro F' N' _ (fun p hp => hp) off' (Or.inr ⟨_, .head _, rfl, _, rfl⟩) ⟨rfl, p, _, hp, rfl⟩
  case fin =>
    intro ys hyl hys
    have hI : IntsAre ys ((Txt.split x ⟨#[n]⟩).map fun p => (p.length : Int)) := by
      have hyl' : ys.length = (Txt.split x ⟨#[n]⟩).length := by rw [hyl, List.size_toArray]; show (List.map _ _).length = _; rw [List.length_map, hll]
      refine intsAre_of (by rw [List.length_map]; exact hyl') fun i y z hy hz => ?_
      obtain ⟨p, tp, hp, e'⟩ := hys i y hy
      refine ⟨tp, ?_⟩
      rw [List.getElem?_map, hp] at hz
      cases hz
      exact e'
    have hpl9 : ((Txt.split x ⟨#[n]⟩).map fun p => (p.length : Int)).length = (Txt.split x ⟨#[n]⟩).length := List.length_map _
    have hge9 : ∀ v ∈ ((Txt.split x ⟨#[n]⟩).map fun p => (p.length : Int)), 0 ≤ v ∧ v ≤ 1000 := by
      intro v hv
      obtain ⟨p, hp, rfl⟩ := List.mem_map.mp hv
      have := part_short hp
      omega
    generalize hpcs : ((Txt.split x ⟨#[n]⟩).map fun p => (p.length : Int)) = pcs at hI hpl9 hge9
    have hil := hI.length
    have hp2 : 2 ≤ pcs.length := by omega
    have hp3 : pcs.length ≤ 1001 := by omega
    k_steps
    refine Stop.out ?_
    (rename IsRange _ _ _ _ _ _ _ _ => hR)
    (rename _ ∈ List.take _ _ => hM1)
    (rename (∀ a ∈ List.take _ _, a ≤ _) => hM2)
    have hM0 := hge9 _ (List.mem_of_mem_take hM1)
    (rename Fr _ _ _ _ => F8)
    (rename News _ _ _ _ => N8)
    refine LCg.CompSrc.range (by rfl) F8 N8 hR (small_one (by decide) (by decide) (by omega) (by omega)) (rangeSize_nat _ _) (by rw [sizeLine_eq]; omega) (fun gg2 => ?_)
    refine rest_gen (fun i y => ∃ (t : Tok), y = .int ((pcs.take (pcs.length - 1)).count (i : Int)) t) ?turn3 ?fin3
    case turn3 =>
      intro i v I' oI' C' oC' D' m2 ys' hh tkk E' hi hv hC' hx' F' N' off' ne'
      obtain ⟨tv, rfl⟩ := hv
      rw [Int.zero_add] at hx'
      k_steps
      exact LCg.CompEnd.intro F' N' _ (fun p hp => hp) off' trivial ⟨rfl, _, rfl⟩
    case fin3 =>
      intro ys2 hyl2 hys2
      k_steps
      refine Stop.out ?_
      have hI2 : IntsAre ys2 ((List.range (((pcs.take (pcs.length - 1)).foldl max 0).toNat + 1)).map fun (k : Nat) => ((pcs.take (pcs.length - 1)).count (k : Int) : Int)) := by
        rw [fold_max (by omega) hM1 hM2]
        refine intsAre_of (by rw [List.length_map, List.length_range, hyl2]; omega) fun i y z hy hz => ?_
        obtain ⟨t, rfl⟩ := hys2 i y hy
        refine ⟨t, ?_⟩
        rw [List.getElem?_map] at hz
        cases hq : (List.range (_ + 1))[i]? with
        | none => rw [hq] at hz; cases hz
        | some k =>
          rw [hq] at hz
          cases hz
          have := (List.getElem?_eq_some_iff.mp hq).2
          rw [List.getElem_range] at this
          rw [this]
      have hL2 : ys2.length ≤ 1001 := by rw [hyl2]; omega
      (rename Fr _ _ _ _ => F7)
      (rename News _ _ _ _ => N7)
      refine' kde_tupleOf (items := ys2.toArray) (zs := ys2) F7 N7 ?k3 ?k4 rfl ?_
      case k3 => exact News.isList N7 (by k_mem)
      case k4 => rw [List.size_toArray]; omega
      intro DT1 hT1 FT1 NT1 lT1
      k_lt lT1
      k_steps
      (rename Fr _ _ _ _ => F8)
      (rename News _ _ _ _ => N8)
      rename_i tB DT2 hq Fq Nq l9' Tcq kXq
      have hidx : (-1 + (pcs.length : Int)).toNat = pcs.length - 1 := by omega
      exact hret _ [(DT2, _), (DT1, _)] _ _ F8 (news_sub N8 nrm_done) (nrm_off (allLt_mem l9'.2.2.2.2.2.2) (allLt_mem lT1.2.2.2.2.2)) ⟨DT1, DT2, ys2, _, _, tB, hI2, by rw [hpcs, hidx]; rfl⟩
end Mine

end
section
open PySem PySem.W PySem.Calls PyProof.Rows
namespace Mine
theorem kin_done {news : List (Addr × Obj)} {a b : Addr × Obj} : ∀ p ∈ [a] ++ news, p ∈ a :: b :: news := by
  intro p hp
  simp only [List.cons_append, List.nil_append, List.mem_cons] at hp ⊢
  grind
theorem kin_filter0 {news own : List (Addr × Obj)} {DP : Addr} : ∀ p ∈ news.filter (fun p => decide (p.1 ≠ DP)) ++ own, p ∈ news ++ own := fun p hp =>
  (List.mem_append.mp hp).elim (fun h => List.mem_append_left _ (List.mem_filter.mp h).1) fun h => List.mem_append_right _ h
theorem kin_filter {news own : List (Addr × Obj)} {DP : Addr} {a b : Addr × Obj} : ∀ p ∈ a :: b :: (news.filter (fun p => decide (p.1 ≠ DP)) ++ own), p ∈ a :: b :: (news ++ own) := fun p hp => by
  simp only [List.mem_cons] at hp ⊢
  exact hp.imp id fun h => h.imp id (kin_filter0 p)
theorem ints_snoc {vs : List Value} {ns : List Int} {n : Int} {t : Tok} (h : IntsAre vs ns) : IntsAre (vs ++ [.int n t]) (ns ++ [n]) := by
  induction h with
  | nil => exact .cons _ _ .nil
  | cons a b _ ih => exact .cons a b ih
theorem kin_sub {news own rest : List (Addr × Obj)} {a b d : Addr × Obj} (h : ∀ p ∈ news ++ own, p ∈ rest ++ [d]) : ∀ p ∈ (a :: b :: news) ++ own, p ∈ a :: b :: (rest ++ [d]) := by
  intro p hp
  simp only [List.cons_append, List.mem_cons] at hp ⊢
  exact hp.imp id fun x => x.imp id (h p)
theorem kin_off {news own : List (Addr × Obj)} {a b : Addr} {o1 o2 o3 o4 : Obj} (h : ∀ p ∈ (a, o1) :: (b, o2) :: news, ∀ q ∈ own, p.1 ≠ q.1) : ∀ p ∈ (a, o3) :: (b, o4) :: news, ∀ q ∈ own, p.1 ≠ q.1 := by
  intro p hp q hq
  simp only [List.mem_cons] at hp
  rcases hp with rfl | rfl | hp
  · exact h (a, o1) (.head _) q hq
  · exact h (b, o2) (.tail _ (.head _)) q hq
  · exact h p (.tail _ (.tail _ hp)) q hq
theorem ksw_keep1 {x : Str} {v w w' : Value} {u m₀ : Str → Option Value} : ∀ z, (∀ p ∈ [(x, w')], z ≠ p.1) → ([] : List Str).contains z = false → (fun y => if y = x then some v else kstB (fun z => if ([] : List Str).contains z then u z else m₀ z) [(x, w)] y) z = m₀ z := by
  intro z h _
  have hz : z ≠ x := h _ (.head _)
  show (if z = x then some v else if z = x then some w else if ([] : List Str).contains z = true then u z else m₀ z) = m₀ z
  rw [if_neg hz, if_neg hz, if_neg (by simp)]
theorem kin_joins {ps H : List Int} {i p fr : Int} {R : List Int × Int} (h : joins i (p :: ps) H fr = some R) (hle : p ≤ i) : ∃ r1 r2, root H 64 i = some r1 ∧ root H 64 (i - p) = some r2 ∧ ((r1 = r2 ∧ joins i ps H fr = some R) ∨ (r1 ≠ r2 ∧ joins i ps (H.set r1.toNat r2) (fr - 1) = some R)) := by
  unfold joins at h
  rw [if_pos hle] at h
  split at h
  · cases h
  · next one h1 =>
    split at h
    · cases h
    · next two h2 =>
      split at h
      · next e => exact ⟨one, two, h1, h2, .inl ⟨e, h⟩⟩
      · next e => exact ⟨one, two, h1, h2, .inr ⟨e, h⟩⟩
theorem root_open {H : List Int} {f : Nat} {i r : Int} (h : root H (f + 1) i = some r) : 0 ≤ i ∧ i < (H.length : Int) ∧ ((H.getD i.toNat 0 = i ∧ i = r) ∨ (H.getD i.toNat 0 ≠ i ∧ root H f (H.getD i.toNat 0) = some r)) := by
  unfold root at h
  split at h
  · next hb =>
    split at h
    · next e => exact ⟨hb.1, hb.2, .inl ⟨e, Option.some.inj h⟩⟩
    · next e => exact ⟨hb.1, hb.2, .inr ⟨e, h⟩⟩
  · cases h
theorem kin_open {ps : List Int} {n : Nat} {i : Int} {H Kc K : List Int} (h : kindsF ps (n + 1) i H Kc = some K) : ∃ Hf frf, joins i ps (H ++ [i]) 1 = some (Hf, frf) ∧ kindsF ps n (i + 1) Hf (Kc ++ [(if Kc = [] then 0 else Kc.getD (Kc.length - 1) 0) + frf]) = some K := by
  unfold kindsF at h
  split at h
  · cases h
  · exact ⟨_, _, by assumption, h⟩
theorem ints_at {vs : List Value} {ns : List Int} (h : IntsAre vs ns) {i : Nat} {v : Value} (hv : vs[i]? = some v) : ∃ n t, ns[i]? = some n ∧ v = .int n t := by
  obtain ⟨n, t, e, hn⟩ := IntsAre.at h i v hv
  exact ⟨n, t, hn, e⟩
theorem drop_cons {ps : List Int} {j : Nat} {p : Int} (h : ps[j]? = some p) : ps.drop j = p :: ps.drop (j + 1) := by
  obtain ⟨hlt, rfl⟩ := List.getElem?_eq_some_iff.mp h
  exact List.drop_eq_getElem_cons hlt
theorem kin_fit {x size : Int} {H : List Int} {i : Nat} (h : x < (H.length : Int)) (hl : H.length = i + 1) (hi : i < (size - 0).toNat) (h1 : size ≤ 200) : x < 2 ^ 63 := by omega
theorem kin_open2 {ps : List Int} {n : Nat} {i : Int} {H Kc K : List Int} (h : kindsF ps (n + 1) i H Kc = some K) : joins i ps (H ++ [i]) 1 = some ((joins i ps (H ++ [i]) 1).getD ([], 0)) ∧ kindsF ps n (i + 1) ((joins i ps (H ++ [i]) 1).getD ([], 0)).1 (Kc ++ [(if Kc = [] then 0 else Kc.getD (Kc.length - 1) 0) + ((joins i ps (H ++ [i]) 1).getD ([], 0)).2]) = some K := by
  obtain ⟨Hf, frf, h1, h2⟩ := kin_open h
  rw [h1]
  exact ⟨rfl, h2⟩
theorem kin_joins2 {ps H : List Int} {i p fr : Int} {R : List Int × Int} (h : joins i (p :: ps) H fr = some R) (hle : p ≤ i) : root H 64 i = some ((root H 64 i).getD 0) ∧ root H 64 (i - p) = some ((root H 64 (i - p)).getD 0) ∧ Hide (((root H 64 i).getD 0 = (root H 64 (i - p)).getD 0 ∧ joins i ps H fr = some R) ∨ ((root H 64 i).getD 0 ≠ (root H 64 (i - p)).getD 0 ∧ joins i ps (H.set ((root H 64 i).getD 0).toNat ((root H 64 (i - p)).getD 0)) (fr - 1) = some R)) := by
  obtain ⟨r1, r2, h1, h2, h3⟩ := kin_joins h hle
  rw [h1, h2]
  exact ⟨rfl, rfl, h3⟩
theorem root_open2 {H : List Int} {f : Nat} {i r : Int} (h : root H f i = some r) : 0 ≤ i ∧ i < (H.length : Int) ∧ Hide ((H.getD i.toNat 0 = i ∧ i = r) ∨ (H.getD i.toNat 0 ≠ i ∧ root H (f - 1) (H.getD i.toNat 0) = some r)) ∧ f - 1 < f := by
  cases f with
  | zero => cases h
  | succ f =>
    obtain ⟨h0, h1, h2⟩ := root_open h
    exact ⟨h0, h1, h2, Nat.lt_succ_self f⟩
inductive KinJ (ps K : List Int) (DK DH DP : Addr) (news : List (Addr × Obj)) (size i : Nat) (m : Str → Option Value) : List (Addr × Obj) → Prop
  | mk (hs : List Value) (H : List Int) (nh : Nat) (ks : List Value) (Kc : List Int) (nk : Nat) (hH : IntsAre hs H) (hKs : IntsAre ks Kc) (e1 : m (Str.ofString "heads") = some (.ref DH)) (e2 : m (Str.ofString "kinds") = some (.ref DK)) (e3 : m (Str.ofString "periods") = some (.ref DP)) (hl1 : H.length = i) (hl2 : Kc.length = i) (hrest : kindsF ps (size - i) i H Kc = some K) : KinJ ps K DK DH DP news size i m ((DK, listOf ks.toArray nk) :: (DH, listOf hs.toArray nh) :: news)
inductive KinL (ps : List Int) (R : List Int × Int) (i : Nat) (DK DH DP : Addr) (oK : Obj) (rest : List (Addr × Obj)) (j : Nat) (m : Str → Option Value) : List (Addr × Obj) → Prop
  | mk (hs : List Value) (H : List Int) (nh : Nat) (fr : Int) (tf tp : Tok) (hH : IntsAre hs H) (e1 : m (Str.ofString "heads") = some (.ref DH)) (e2 : m (Str.ofString "kinds") = some (.ref DK)) (e3 : m (Str.ofString "periods") = some (.ref DP)) (e4 : m (Str.ofString "place") = some (.int (i : Int) tp)) (e5 : m (Str.ofString "fresh") = some (.int fr tf)) (hl : H.length = i + 1) (hj : joins (i : Int) (ps.drop j) H fr = some R) : KinL ps R i DK DH DP oK rest j m ((DK, oK) :: (DH, listOf hs.toArray nh) :: rest)
inductive KinR (K : List Int) : Value → List (Addr × Obj) → Prop
  | mk (DK : Addr) (ks : List Value) (nn : Nat) (hKs : IntsAre ks K) : KinR K (.ref DK) [(DK, listOf ks.toArray nn)]
set_option maxRecDepth 100000 in
set_option maxHeartbeats 8000000 in
theorem kin {w : World} {mean : ExcName → Option Value} {mg mb : Str → Option Value} (size : Int) (ts : Tok) (DP : Addr) (pv : List Value) (ps K : List Int) (np : Nat) (hI : IntsAre pv ps) (h0 : 0 ≤ size) (hs2 : size ≤ 200) (hK : kindsF ps size.toNat 0 [] [] = some K) : Challenge.rw_sn0046_01 = Challenge.rw_sn0046_01 → CtrP 5 w mean mg mb 166 [.int size ts, .ref DP] (fun news => (DP, listOf pv.toArray np) ∈ news) (KinR K) := by
  unfold CtrP
  w_top off
  k_fill
  intro _
  intro dp un gd cn cs a ccd cl outer A₀ base h₀ L m news s Q E B F X N T hk hdp hun hDP hret
  refine wpAny_call ?_
  k_dflt (refine' code_def ?k1 ?k2 ?k3 ?k4 ?k5 ?kA ?kF ?kK ?k6 ?k7 ?k8 ?k9 ?kB ?_ ?c2 ?c3 ?c4 ?c5; (case kA => exact rfl); (case kF => exact rfl); (case kK => assumption); (case k1 => k_asm); (case k2 => k_asm); (case k3 => k_asm); (case k4 => k_asm); (case k5 => k_asm); (case k6 => k_is); (case k7 => k_is); (case k8 => ktr_room); (case k9 => exact BindsTo.of_eq rfl); (case c5 => decide); (case kB => exact locs rfl); (case c2 => exact rfl); (case c3 => exact rfl); (case c4 => exact rfl); k_whole; intro g1 L1 h1 FG1 F1 N1 B1 X1 T1; (try dsimp only); (try k_lift B1); (try k_fold))
  k_steps
  refine Stop.out ?_
  (with_unfolding_all refine for_free (h₀ := g1) ?ha (by intro _; rfl) (by intro _ _; rfl) (by passes_own))
  k_steps
  rename_i tkA DH hA lH hB tkB DK hC lK hD0 FA NA hE tkC t1 u1 v1 hR F2 N2 hkeep
  refine free_range (n := (size - 0).toNat) (KinJ ps K DK DH DP news size.toNat) ?hh hR ?hsmall (rangeSize_nat _ _) F2 N2 ?hj ?turn ?done
  case hh => exact rfl
  case hsmall => exact small_one (by decide) (by decide) (by omega) (by omega)
  case hj => exact ⟨[], [], _, [], [], _, .nil, .nil, rfl, rfl, rfl, rfl, rfl, hK⟩
  case done =>
    rintro m₁ nx h tk ⟨hs, H, nh, ks, Kc, nk, hH, hKs, e1, e2, e3, hl1, hl2, hrest⟩ F₁ N₁
    dsimp only
    have F₂ := fr_known F₁ (.cons e2 .nil)
    k_steps
    have hlast : size.toNat - (size - 0).toNat = 0 := by omega
    rw [hlast] at hrest
    have hKK : Kc = K := Option.some.inj hrest
    subst hKK
    exact hret _ [(DK, _)] _ _ (by assumption) (news_sub (by assumption) kin_done) (fun p hp q hq e => by
      rw [List.mem_singleton.mp hp] at e
      exact absurd (allLt_mem lK.2 q hq) (by rw [← e]; exact Nat.lt_irrefl _)) ⟨DK, ks, nk, hKs⟩
  case turn =>
    rintro QQ hQQ i m₁ nx h tk t own hi hoff ⟨hs, H, nh, ks, Kc, nk, hH, hKs, e1, e2, e3, hl1, hl2, hrest⟩ F₁ N₁
    dsimp only
    have F₂ := fr_known F₁ (.cons e1 (.cons e2 (.cons e3 .nil)))
    rw [Int.zero_add]
    simp only [List.cons_append] at N₁
    have hoH : ∀ p ∈ news ++ own, p.1 ≠ DH := fun p hp => (List.mem_append.mp hp).elim (fun h => Nat.ne_of_lt (lH p h)) fun hq e => hoff _ (.tail _ (.head _)) p hq e.symm
    have hoK : ∀ p ∈ news ++ own, p.1 ≠ DK := fun p hp => (List.mem_append.mp hp).elim (fun h => Nat.ne_of_lt (allLt_mem lK.2 p h)) fun hq e => hoff _ (.head _) p hq e.symm
    have hlH := hH.length
    have hlK := hKs.length
    have hKH : Hide (@Ne Nat DK DH) := Nat.ne_of_gt lK.1
    refine wpAny_assign_Name ?_
    k_steps
    refine Stop.out ?_
    (rename Fr _ _ _ _ => F3)
    (rename News _ _ _ _ => N3)
    rw [List.push_toArray] at N3
    have hsz : size.toNat - i = (size.toNat - (i + 1)) + 1 := by omega
    rw [hsz] at hrest
    have hjoin := (kin_open2 hrest).1
    have hrest := (kin_open2 hrest).2
    generalize (joins (i : Int) ps (H ++ [(i : Int)]) 1).getD ([], 0) = R at hjoin hrest
    have hDPN := N3 (DP, listOf pv.toArray np) (.tail _ (.tail _ (List.mem_append_left _ hDP)))
    have N4 : News g1 L1 _ ((DK, listOf ks.toArray nk) :: (DH, listOf (hs ++ [Value.int i t]).toArray (nh + 1)) :: (news.filter (fun p => decide (p.1 ≠ DP)) ++ own)) := news_sub N3 kin_filter
    have hoH2 : ∀ p ∈ news.filter (fun p => decide (p.1 ≠ DP)) ++ own, p.1 ≠ DH := fun p hp => hoH p (kin_filter0 p hp)
    have hoK2 : ∀ p ∈ news.filter (fun p => decide (p.1 ≠ DP)) ++ own, p.1 ≠ DK := fun p hp => hoK p (kin_filter0 p hp)
    have hoP2 : ∀ p ∈ news.filter (fun p => decide (p.1 ≠ DP)) ++ own, p.1 ≠ DP := fun p hp => (List.mem_append.mp hp).elim (fun h => by simpa using (List.mem_filter.mp h).2) fun hq e => hoff _ (.tail _ (.tail _ hDP)) p hq e.symm
    have hPH : Hide (@Ne Nat DP DH) := Nat.ne_of_lt (lH _ hDP)
    have hPK : Hide (@Ne Nat DP DK) := Nat.ne_of_lt (allLt_mem lK.2 _ hDP)
    have hcov : ∀ p ∈ news ++ own, p ∈ (news.filter (fun p => decide (p.1 ≠ DP)) ++ own) ++ [(DP, listOf pv.toArray np)] := fun p hp => by
      by_cases hq : p.1 = DP
      · have h1 := (N3 p (.tail _ (.tail _ hp))).1
        have h2 := hDPN.1
        rw [hq] at h1
        have h3 : p = (DP, listOf pv.toArray np) := Prod.ext hq (Option.some.inj (h1.symm.trans h2))
        exact List.mem_append_right _ (h3 ▸ .head _)
      · refine List.mem_append_left _ ((List.mem_append.mp hp).elim (fun h => List.mem_append_left _ (List.mem_filter.mpr ⟨h, by simpa using hq⟩)) fun h => List.mem_append_right _ h)
    (with_unfolding_all refine for_free (h₀ := g1) ?hb (by intro _; rfl) (by intro _ _; rfl) (by passes_own))
    k_steps
    generalize hrest0 : news.filter (fun p => decide (p.1 ≠ DP)) ++ own = rest at N4 hoH2 hoK2 hoP2 hcov
    refine free_ints (l := DP) (vs := pv) (ps := ps) (o := listOf pv.toArray np) (news := (DK, listOf ks.toArray nk) :: (DH, listOf (hs ++ [Value.int i t]).toArray (nh + 1)) :: rest) (KinL ps R i DK DH DP (listOf ks.toArray nk) rest) hI ?hh hDPN.1 hDPN.2.2 ⟨np, rfl⟩ hDPN.2.1 F3 N4 ?hj ?turn2 ?done2
    case hh => exact rfl
    case hj => exact ⟨_, _, _, _, _, _, ints_snoc hH, rfl, rfl, rfl, rfl, rfl, by rw [List.length_append, hl1]; rfl, hjoin⟩
    case done2 =>
      rintro m₁ nx h tk ⟨hs, H, nh, fr, tf, tp, hH, e1, e2, e3, e4, e5, hl, hj⟩ F₁ N₁ hlast
      dsimp only
      have F₂ := fr_known F₁ (.cons e1 (.cons e2 (.cons e3 (.cons e4 (.cons e5 .nil)))))
      have N₂ : News g1 _ h ((DK, listOf ks.toArray nk) :: (DH, listOf hs.toArray nh) :: (rest ++ [(DP, listOf pv.toArray np)])) := fun p hp => by
        simp only [List.mem_cons, List.mem_append, List.not_mem_nil, or_false] at hp
        rcases hp with rfl | rfl | hp | rfl
        · exact N₁ _ (.head _)
        · exact N₁ _ (.tail _ (.head _))
        · exact N₁ _ (.tail _ (.tail _ hp))
        · exact ⟨hlast, hDPN.2⟩
      have hoK3 : ∀ p ∈ rest ++ [(DP, listOf pv.toArray np)], p.1 ≠ DK := fun p hp => (List.mem_append.mp hp).elim (hoK2 p) fun h => by rw [List.mem_singleton.mp h]; exact hPK
      have hlen : ps.drop pv.length = [] := List.drop_eq_nil_of_le (by rw [hI.length]; exact Nat.le_refl _)
      rw [hlen] at hj
      have hj2 : R = (H, fr) := (Option.some.inj hj).symm
      rw [hj2] at hrest
      clear N₁ N4
      k_steps
      · (rename Fr _ _ _ _ => F9)
        (rename News _ _ _ _ => N9)
        rw [List.push_toArray] at N9
        refine TurnEnd.next ((DK, _) :: (DH, _) :: news) F9 N9 (kin_sub hcov) (kin_off hoff) ⟨_, _, _, _, _, _, hH, ints_snoc hKs, rfl, rfl, rfl, hl, by rw [List.length_append, hl2]; rfl, ?_⟩
        have hidx : (-1 + (Kc.length : Int)).toNat = Kc.length - 1 := by omega
        have hne : Kc ≠ [] := fun e => by rw [e] at hl2; rename 0 < Kc.length => h9; rw [e] at h9; exact absurd h9 (by decide)
        rw [if_neg hne] at hrest
        rw [hidx]
        exact hrest
      · (rename Fr _ _ _ _ => F9)
        (rename News _ _ _ _ => N9)
        rw [List.push_toArray] at N9
        refine TurnEnd.next ((DK, _) :: (DH, _) :: news) F9 N9 (kin_sub hcov) (kin_off hoff) ⟨_, _, _, _, _, _, hH, ints_snoc hKs, rfl, rfl, rfl, hl, by rw [List.length_append, hl2]; rfl, ?_⟩
        have hne : Kc = [] := List.eq_nil_of_length_eq_zero (by omega)
        rw [if_pos hne] at hrest
        exact hrest
    case turn2 =>
      rintro Q2 hQ2 j pp tpp m₁ nx h tk own2 hj2 hpp hoff2 hlo ⟨hs, H, nh, fr, tf, tp, hH, e1, e2, e3, e4, e5, hl, hj⟩ F₁ N₁
      dsimp only
      have F₂ := fr_known F₁ (.cons e1 (.cons e2 (.cons e3 (.cons e4 (.cons e5 .nil)))))
      simp only [List.cons_append] at N₁
      have hlH := hH.length
      rw [hpp] at hj
      refine wpAny_assign_Name ?_
      have hoH4 : ∀ p ∈ rest ++ own2, p.1 ≠ DH := fun p hp => (List.mem_append.mp hp).elim (hoH2 p) fun hq e => by
        by_cases hd9 : p.1 = DP
        · exact hPH (hd9 ▸ e)
        · exact hoff2 _ (.tail _ (.head _)) p hq hd9 e.symm
      have hoff3 : ∀ p ∈ (DK, listOf ks.toArray nk) :: (DH, listOf hs.toArray nh) :: rest, ∀ q ∈ own2, p.1 ≠ q.1 := fun p hp q hq e => by
        by_cases hd9 : q.1 = DP
        · simp only [List.mem_cons] at hp
          rcases hp with rfl | rfl | hp
          · exact hPK (hd9.symm.trans e.symm)
          · exact hPH (hd9.symm.trans e.symm)
          · exact hoP2 p hp (e.trans hd9)
        · exact hoff2 p hp q hq hd9 e
      k_steps
      · refine Stop.out ?_
        (rename _ ≤ (i : Int) => hle)
        have hr1 := (kin_joins2 hj hle).1
        have hr2 := (kin_joins2 hj hle).2.1
        have hjj := (kin_joins2 hj hle).2.2
        generalize (root H 64 (i : Int)).getD 0 = r1 at hr1 hjj
        generalize (root H 64 ((i : Int) - pp)).getD 0 = r2 at hr2 hjj
        (rename Fr _ _ _ _ => F6)
        (rename News _ _ _ _ => N6)
        refine ksw_while (σ := Int × Tok × Nat) (fun _ => (DK, listOf ks.toArray nk) :: (DH, listOf hs.toArray nh) :: (rest ++ own2)) (fun c => [(Str.ofString "one", .int c.1 c.2.1)]) (fun _ => True) [] (fun c => root H c.2.2 c.1 = some r1) (fun c => c.2.2) ((i : Int), tp, 64) F6 N6 trivial (fun p hp => by rw [List.mem_singleton.mp hp]; rfl) hr1 ?turnW (by passes_own)
        intro c u9 h9 tk9 _ hP F7 N7
        dsimp only at hP F7 ⊢
        have hO := root_open2 hP
        have ho0one := hO.1
        have ho1one := hO.2.1
        have horone := hO.2.2.1
        have hflone := hO.2.2.2
        clear hO
        have ho63 := kin_fit ho1one hl hi hs2
        generalize c.1 = one at *
        generalize c.2.1 = to1 at *
        generalize hcf : c.2.2 = f at *
        k_steps
        · (rename List.getD H _ _ ≠ _ => hne9)
          (rename Fr _ _ _ _ => F8)
          (rename News _ _ _ _ => N8)
          have hP' := (Or.resolve_left horone fun h => hne9 h.1).2
          exact ksw_end (_, _, f - 1) F8 N8 (fun p hp => hp) trivial (fun p hp => by rw [List.mem_singleton.mp hp]; rfl) (fun z h2 h3 => ksw_keep1 z h2 h3) hP' (by rw [hcf]; exact hflone)
        · refine Stop.out ?_
          (rename List.getD H _ _ = _ => heq9)
          have he1 : one = r1 := (Or.resolve_right horone fun h => h.1 heq9).2
          rw [← he1] at hjj
          (rename Fr _ _ _ _ => F8)
          (rename News _ _ _ _ => N8)
          refine ksw_while (σ := Int × Tok × Nat) (fun _ => (DK, listOf ks.toArray nk) :: (DH, listOf hs.toArray nh) :: (rest ++ own2)) (fun c => [(Str.ofString "two", .int c.1 c.2.1)]) (fun _ => True) [] (fun c => root H c.2.2 c.1 = some r2) (fun c => c.2.2) ((i : Int) - pp, _, 64) F8 N8 trivial (fun p hp => by rw [List.mem_singleton.mp hp]; rfl) hr2 ?turnV (by passes_own)
          intro c2 u10 h10 tk10 _ hP2 F10 N10
          dsimp only at hP2 F10 ⊢
          have hO2 := root_open2 hP2
          have ho0two := hO2.1
          have ho1two := hO2.2.1
          have hortwo := hO2.2.2.1
          have hfltwo := hO2.2.2.2
          clear hO2
          have ht63 := kin_fit ho1two hl hi hs2
          generalize c2.1 = two at *
          generalize c2.2.1 = to2 at *
          generalize hcf2 : c2.2.2 = f2 at *
          k_steps
          · (rename List.getD H _ _ ≠ _ => hne9)
            (rename Fr _ _ _ _ => F8)
            (rename News _ _ _ _ => N8)
            have hP' := (Or.resolve_left hortwo fun h => hne9 h.1).2
            exact ksw_end (_, _, f2 - 1) F8 N8 (fun p hp => hp) trivial (fun p hp => by rw [List.mem_singleton.mp hp]; rfl) (fun z h2 h3 => ksw_keep1 z h2 h3) hP' (by rw [hcf2]; exact hfltwo)
          · (rename List.getD H _ _ = _ => heq8)
            have he2 : two = r2 := (Or.resolve_right hortwo fun h => h.1 heq8).2
            rw [← he2] at hjj
            (rename one ≠ _ => hne9)
            have hj9 := (Or.resolve_left hjj fun h => hne9 h.1).2
            (rename Fr _ _ _ _ => F9)
            (rename News _ _ _ _ => N9)
            (rename IntsAre (List.set _ _ _) _ => hI9)
            exact TurnEnd.next ((DK, _) :: (DH, _) :: rest) F9 N9 (fun p hp => hp) (kin_off hoff3) ⟨_, _, _, _, _, _, hI9, rfl, rfl, rfl, rfl, rfl, by rw [List.length_set]; exact hl, hj9⟩
          · (rename List.getD H _ _ = two => heq8)
            have he2 : two = r2 := (Or.resolve_right hortwo fun h => h.1 heq8).2
            rw [← he2] at hjj
            (rename one = _ => hne9)
            have hj9 := (Or.resolve_right hjj fun h => h.1 hne9).2
            exact TurnEnd.next ((DK, _) :: (DH, _) :: rest) F10 N10 (fun p hp => hp) (kin_off hoff3) ⟨_, _, _, _, _, _, hH, rfl, rfl, rfl, rfl, rfl, hl, hj9⟩
      · (rename Fr _ _ _ _ => F9)
        (rename News _ _ _ _ => N9)
        (rename ¬ (_ ≤ (i : Int)) => hle)
        refine TurnEnd.next ((DK, _) :: (DH, _) :: rest) F9 N9 (fun p hp => hp) hoff3 ⟨_, _, _, _, _, _, hH, rfl, rfl, rfl, rfl, rfl, hl, ?_⟩
        unfold joins at hj
        rw [if_neg hle] at hj
        exact hj
end Mine

end
section
open PySem PySem.W PySem.Calls PyProof.Rows PySem.Flt
namespace Mine
def fLt (a b : UInt64) : Bool := Float64.cmp a b == some .lt
def max2F (a b : UInt64) : UInt64 := if fLt a b then b else a
def min2F (a b : UInt64) : UInt64 := if fLt b a then b else a
section
variable {prog : Program} {w : World} {A : Around} {E : Value → Shared → Prop} {s : Shared} {Q : Value → Shared → Prop} {x y z : UInt64} {t u v : Tok} {h₀ : Heap} {L : Addr} {m : Str → Option Value} {news : List (Addr × Obj)}
theorem three_at {x y z : UInt64} {t u v : Tok} {bt : Nat → Nat → Bool} {k : Value} {e1 e2 : Bool} {r : UInt64}
    (hP : (#[Value.float x t, Value.float y u, Value.float z v])[argBest bt 2]? = some k)
    (h1 : bt 1 0 = e1) (h2 : bt 2 (if e1 then 1 else 0) = e2) (hr : r = if e2 then z else (if e1 then y else x)) : ∃ t', k = .float r t' := by
  have e : argBest bt 2 = if e2 then 2 else (if e1 then 1 else 0) := by
    have a1 : argBest bt 1 = if e1 then 1 else 0 := by
      show (if bt 1 0 then 1 else 0) = _
      rw [h1]
    show (if bt 2 (argBest bt 1) then 2 else argBest bt 1) = _
    rw [a1, h2]
  rw [e] at hP
  subst hr
  cases e1 <;> cases e2 <;> simp at hP <;> subst hP <;> exact ⟨_, rfl⟩

theorem max3_f (hh : A.handled = none) (F : Fr h₀ L s.heap m) (N : News h₀ L s.heap news)
    (h : ∀ h' tk t', Fr h₀ L h' m → News h₀ L h' news → Q (.float (max2F (max2F x y) z) t') { s with heap := h', toks := tk }) :
    wpAny (model prog w) A (call (.builtin "max") [.float x t, .float y u, .float z v]) Q E s := by
  have hT : (s.heap.push { cls := .type "tuple", data := .seq #[.float x t, .float y u, .float z v] }).IsTuple s.heap.objs.size #[.float x t, .float y u, .float z v] := ⟨_, Heap.get?_push_size _ rfl, rfl, 0, rfl⟩
  refine call_max_three (wpAny_pyIter_tuple hT ?_)
  have hsz : (s.heap.push { cls := .type "tuple", data := .seq #[.float x t, .float y u, .float z v] }).objs.size = s.heap.objs.size + 1 := Heap.size_push ..
  refine ⟨_, [_, s.heap.objs.size], [_], _, _, _, _, rfl, Walks.tuple (A := A.in1) hh _ s.heap.objs.size (by rw [hsz]; exact Nat.ne_of_lt (Nat.lt_succ_self _)) #[.float x t, .float y u, .float z v],
    ⟨⟨_, Heap.get?_push_size _ rfl, rfl, rfl⟩, hT.push _⟩, fun c hc => ?_, by simp, cmpOf_gt #[.float x t, .float y u, .float z v] (by simp [NumV.float]), fun k h' tk hP hk => ?_⟩
  · show c < ((s.heap.push _).push _).objs.size
    rw [Heap.size_push, hsz]
    rcases List.mem_cons.mp hc with rfl | hc
    · rw [hsz]; exact Nat.lt_succ_self _
    · rcases List.mem_cons.mp hc with rfl | hc
      · exact Nat.lt_succ_of_lt (Nat.lt_succ_self _)
      · cases hc
  · have hold : ∀ c o, s.heap.get? c = some o → h'.get? c = some o := fun c o e => by
      refine hk c o (fun hm => ?_) (Heap.get?_push_of_some _ (Heap.get?_push_of_some _ e))
      rcases List.mem_cons.mp hm with e1 | hm
      · have := Heap.lt_size e; rw [e1, hsz] at this; exact Nat.lt_irrefl _ (Nat.lt_of_succ_lt this)
      · cases hm
    obtain ⟨t', rfl⟩ := three_at (e1 := fLt x y) (e2 := fLt (max2F x y) z) (r := max2F (max2F x y) z) hP rfl (by unfold max2F; cases fLt x y <;> rfl) rfl
    exact h h' tk t' (F.grownK hold) (N.grown hold)
theorem min3_f (hh : A.handled = none) (F : Fr h₀ L s.heap m) (N : News h₀ L s.heap news)
    (h : ∀ h' tk t', Fr h₀ L h' m → News h₀ L h' news → Q (.float (min2F (min2F x y) z) t') { s with heap := h', toks := tk }) :
    wpAny (model prog w) A (call (.builtin "min") [.float x t, .float y u, .float z v]) Q E s := by
  have hT : (s.heap.push { cls := .type "tuple", data := .seq #[.float x t, .float y u, .float z v] }).IsTuple s.heap.objs.size #[.float x t, .float y u, .float z v] := ⟨_, Heap.get?_push_size _ rfl, rfl, 0, rfl⟩
  refine call_min_three (wpAny_pyIter_tuple hT ?_)
  have hsz : (s.heap.push { cls := .type "tuple", data := .seq #[.float x t, .float y u, .float z v] }).objs.size = s.heap.objs.size + 1 := Heap.size_push ..
  refine ⟨_, [_, s.heap.objs.size], [_], _, _, _, _, rfl, Walks.tuple (A := A.in1) hh _ s.heap.objs.size (by rw [hsz]; exact Nat.ne_of_lt (Nat.lt_succ_self _)) #[.float x t, .float y u, .float z v],
    ⟨⟨_, Heap.get?_push_size _ rfl, rfl, rfl⟩, hT.push _⟩, fun c hc => ?_, by simp, cmpOf_lt #[.float x t, .float y u, .float z v] (by simp [NumV.float]), fun k h' tk hP hk => ?_⟩
  · show c < ((s.heap.push _).push _).objs.size
    rw [Heap.size_push, hsz]
    rcases List.mem_cons.mp hc with rfl | hc
    · rw [hsz]; exact Nat.lt_succ_self _
    · rcases List.mem_cons.mp hc with rfl | hc
      · exact Nat.lt_succ_of_lt (Nat.lt_succ_self _)
      · cases hc
  · have hold : ∀ c o, s.heap.get? c = some o → h'.get? c = some o := fun c o e => by
      refine hk c o (fun hm => ?_) (Heap.get?_push_of_some _ (Heap.get?_push_of_some _ e))
      rcases List.mem_cons.mp hm with e1 | hm
      · have := Heap.lt_size e; rw [e1, hsz] at this; exact Nat.lt_irrefl _ (Nat.lt_of_succ_lt this)
      · cases hm
    obtain ⟨t', rfl⟩ := three_at (e1 := fLt y x) (e2 := fLt z (min2F x y)) (r := min2F (min2F x y) z) hP rfl (by unfold min2F; cases fLt y x <;> rfl) rfl
    exact h h' tk t' (F.grownK hold) (N.grown hold)
end

def maxF (r g b : UInt64) : UInt64 := max2F (max2F r g) b
def minF (r g b : UInt64) : UInt64 := min2F (min2F r g) b
def isEq (a b : UInt64) : Bool := Float64.cmp a b == some .eq
/-- what rgb_to_hls asks on its way: the light is not grey, not bright, and nothing is divided by nought -/
def okF (r g b : UInt64) : Bool :=
  let l := Float64.div (Float64.add (maxF r g b) (minF r g b)) 4611686018427387904
  !(Float64.cmp (minF r g b) (maxF r g b) == some .eq) && (Float64.cmp l 4602678819172646912 == some .lt || Float64.cmp l 4602678819172646912 == some .eq) &&
  !(Float64.isZero (Float64.add (maxF r g b) (minF r g b))) && !(Float64.isZero (Float64.sub (maxF r g b) (minF r g b)))
def hueF (r g b : UInt64) : UInt64 :=
  let mx := maxF r g b
  let rg := Float64.sub mx (minF r g b)
  let rc := Float64.div (Float64.sub mx r) rg
  let gc := Float64.div (Float64.sub mx g) rg
  let bc := Float64.div (Float64.sub mx b) rg
  let h := if isEq r mx then Float64.sub bc gc else if isEq g mx then Float64.sub (Float64.add 4611686018427387904 rc) bc else Float64.sub (Float64.add 4616189618054758400 gc) rc
  (Float64.divmod (Float64.div h 4618441417868443648) 4607182418800017408).2
def div256 (a : Int) : UInt64 := Float64.ofFrac (decide (a < 0) != decide ((256 : Int) < 0)) a.natAbs (Int.natAbs 256)
def hueI (a b c : Int) : UInt64 := hueF (div256 a) (div256 b) (div256 c)
def okI (a b c : Int) : Bool := okF (div256 a) (div256 b) (div256 c) && !(Float64.isInf (div256 a)) && !(Float64.isInf (div256 b)) && !(Float64.isInf (div256 c))
end Mine
namespace Mine
def scaleE (h : UInt64) : UInt64 := Float64.add (Float64.mul (Float64.add h 4602678819172646912) (Float64.ofInt 3)) 4602678819172646912
def scaleF (h : UInt64) : UInt64 := Float64.add (Float64.mul h (Float64.ofInt 3)) 4602678819172646912
def placeOf (x : UInt64) : Int := Int.fmod (Flt.toInt Float64.truncOf x) 3
def okP (x : UInt64) : Bool := !(Float64.isNaN x) && !(Float64.isInf x)
theorem placeOf_cases (x : UInt64) : placeOf x = 0 ∨ placeOf x = 1 ∨ placeOf x = 2 := by
  have h1 := Int.fmod_nonneg_of_pos (Flt.toInt Float64.truncOf x) (show (0 : Int) < 3 by decide)
  have h2 := Int.fmod_lt_of_pos (Flt.toInt Float64.truncOf x) (show (0 : Int) < 3 by decide)
  unfold placeOf
  omega
theorem okP_open {x : UInt64} (h : okP x = true) : Float64.isNaN x = false ∧ Float64.isInf x = false := by
  unfold okP at h
  simpa only [Bool.and_eq_true, Bool.not_eq_true'] using h
/-- a light is taken down from the end: half a turn on, the hue names the letter -/
def lastF : Nat → Int → Int → Int → List Nat → Option (List Nat)
  | 0, _, _, _, _ => none
  | f + 1, a, b, c, w =>
    if [a, b, c] = [1, 1, 1] then some w
    else if okI a b c = true then
      if okP (scaleE (hueI a b c)) = true then
        if placeOf (scaleE (hueI a b c)) = 0 then lastF f a (b - a) (c - a) (114 :: w)
        else if placeOf (scaleE (hueI a b c)) = 1 then lastF f (a - b) b (c - b) (103 :: w)
        else lastF f (a - c) (b - c) c (98 :: w)
      else none
    else none
theorem lastF_open {f : Nat} {a b c : Int} {w r : List Nat} (h : lastF (f + 1) a b c w = some r) : ([a, b, c] = [1, 1, 1] ∧ w = r) ∨ ([a, b, c] ≠ [1, 1, 1] ∧ okI a b c = true ∧ okP (scaleE (hueI a b c)) = true ∧
    ((placeOf (scaleE (hueI a b c)) = 0 ∧ lastF f a (b - a) (c - a) (114 :: w) = some r) ∨ (placeOf (scaleE (hueI a b c)) = 1 ∧ lastF f (a - b) b (c - b) (103 :: w) = some r) ∨ (placeOf (scaleE (hueI a b c)) = 2 ∧ lastF f (a - c) (b - c) c (98 :: w) = some r))) := by
  unfold lastF at h
  split at h
  · next e => exact .inl ⟨e, Option.some.inj h⟩
  · next e =>
    refine .inr ⟨e, ?_⟩
    split at h
    · next e1 =>
      split at h
      · next e2 =>
        refine ⟨e1, e2, ?_⟩
        rcases placeOf_cases (scaleE (hueI a b c)) with hp | hp | hp
        · rw [hp] at h ⊢; exact .inl ⟨rfl, h⟩
        · rw [hp] at h ⊢; exact .inr (.inl ⟨rfl, h⟩)
        · rw [hp] at h ⊢; exact .inr (.inr ⟨rfl, h⟩)
      · cases h
    · cases h
end Mine
namespace Mine
def rgbAt (p : Int) : Nat := if p = 0 then 114 else if p = 1 then 103 else 98
def okL (a b c : Int) : Bool := decide (0 < a) && decide (a < 1000) && decide (0 < b) && decide (b < 1000) && decide (0 < c) && decide (c < 1000)
def bitsOk (g o : Int) : Bool := decide ((Builtin.Int.intBits g : Int) - (Builtin.Int.intBits o : Int) ≤ 4000) && decide (g.fdiv o ≤ 100)
def part (p a b c : Int) : Int := [a, b, c].getD p.toNat 0
/-- a light is taken down from the front: the letter that the hue names, as often as the others' sum goes into its part -/
def frontF : Nat → Int → Int → Int → List Nat → Option (List Nat)
  | 0, _, _, _, _ => none
  | f + 1, a, b, c, w =>
    if [a, b, c] = [1, 1, 1] then some w
    else if okI a b c = true then
      if okP (scaleF (hueI a b c)) = true then
        if okL a b c = true then
          let p := placeOf (scaleF (hueI a b c))
          let g := part p a b c
          let o := a + b + c - g
          if bitsOk g o = true then frontF f (if p = 0 then g.fmod o else a) (if p = 1 then g.fmod o else b) (if p = 2 then g.fmod o else c) (w ++ List.replicate (g.fdiv o).toNat (rgbAt p))
          else none
        else none
      else none
    else none
theorem frontF_open {f : Nat} {a b c : Int} {w r : List Nat} (h : frontF (f + 1) a b c w = some r) : ([a, b, c] = [1, 1, 1] ∧ w = r) ∨ ([a, b, c] ≠ [1, 1, 1] ∧ okI a b c = true ∧ okP (scaleF (hueI a b c)) = true ∧ okL a b c = true ∧
    ∃ p, placeOf (scaleF (hueI a b c)) = p ∧ (p = 0 ∨ p = 1 ∨ p = 2) ∧ bitsOk (part p a b c) (a + b + c - part p a b c) = true ∧
      frontF f (if p = 0 then (part p a b c).fmod (a + b + c - part p a b c) else a) (if p = 1 then (part p a b c).fmod (a + b + c - part p a b c) else b) (if p = 2 then (part p a b c).fmod (a + b + c - part p a b c) else c) (w ++ List.replicate ((part p a b c).fdiv (a + b + c - part p a b c)).toNat (rgbAt p)) = some r) := by
  unfold frontF at h
  split at h
  · next e => exact .inl ⟨e, Option.some.inj h⟩
  · next e =>
    refine .inr ⟨e, ?_⟩
    split at h
    · next e1 =>
      split at h
      · next e2 =>
        split at h
        · next e3 =>
          dsimp only at h
          split at h
          · next e4 => exact ⟨e1, e2, e3, _, rfl, placeOf_cases _, e4, h⟩
          · cases h
        · cases h
      · cases h
    · cases h
theorem okL_open {a b c : Int} (h : okL a b c = true) : 0 < a ∧ a < 1000 ∧ 0 < b ∧ b < 1000 ∧ 0 < c ∧ c < 1000 := by
  unfold okL at h
  simpa only [Bool.and_eq_true, decide_eq_true_eq, and_assoc] using h
theorem bitsOk_open {g o : Int} (h : bitsOk g o = true) : (Builtin.Int.intBits g : Int) - (Builtin.Int.intBits o : Int) ≤ 4000 ∧ g.fdiv o ≤ 100 := by
  unfold bitsOk at h
  simpa only [Bool.and_eq_true, decide_eq_true_eq] using h
theorem part_pos {p a b c : Int} (hp : p = 0 ∨ p = 1 ∨ p = 2) (h : 0 < a ∧ a < 1000 ∧ 0 < b ∧ b < 1000 ∧ 0 < c ∧ c < 1000) : 0 < part p a b c ∧ part p a b c < 1000 ∧ 0 < a + b + c - part p a b c ∧ a + b + c - part p a b c < 3000 := by
  rcases hp with rfl | rfl | rfl
  · show 0 < a ∧ a < 1000 ∧ 0 < a + b + c - a ∧ a + b + c - a < 3000; omega
  · show 0 < b ∧ b < 1000 ∧ 0 < a + b + c - b ∧ a + b + c - b < 3000; omega
  · show 0 < c ∧ c < 1000 ∧ 0 < a + b + c - c ∧ a + b + c - c < 3000; omega
end Mine

end
section
open PySem PySem.W PySem.Calls PyProof.Rows
open Mine
local macro_rules
  | `(tactic| walk_at "call builtin:max") => `(tactic| (k_here; (with_reducible rename Fr _ _ _ _ => F'); (with_reducible rename News _ _ _ _ => N'); (refine' max3_f (by rfl) F' N' ?_); intro _ _ _ _ _))
  | `(tactic| walk_at "call builtin:min") => `(tactic| (k_here; (with_reducible rename Fr _ _ _ _ => F'); (with_reducible rename News _ _ _ _ => N'); (refine' min3_f (by rfl) F' N' ?_); intro _ _ _ _ _))
section
open PySem PySem.W PySem.Calls PyProof.Rows
namespace Mine
theorem hue1 {r g b : UInt64} (h : (Float64.cmp r (max2F (max2F r g) b) == some .eq) = true) : hueF r g b = (Float64.divmod (Float64.div (Float64.sub (Float64.div (Float64.sub (max2F (max2F r g) b) b) (Float64.sub (max2F (max2F r g) b) (min2F (min2F r g) b))) (Float64.div (Float64.sub (max2F (max2F r g) b) g) (Float64.sub (max2F (max2F r g) b) (min2F (min2F r g) b)))) 4618441417868443648) 4607182418800017408).2 := by
  unfold hueF
  dsimp only
  rw [if_pos (show isEq r (maxF r g b) = true from h)]
  rfl
theorem hue2 {r g b : UInt64} (h : (Float64.cmp r (max2F (max2F r g) b) == some .eq) = false) (h2 : (Float64.cmp g (max2F (max2F r g) b) == some .eq) = true) : hueF r g b = (Float64.divmod (Float64.div (Float64.sub (Float64.add 4611686018427387904 (Float64.div (Float64.sub (max2F (max2F r g) b) r) (Float64.sub (max2F (max2F r g) b) (min2F (min2F r g) b)))) (Float64.div (Float64.sub (max2F (max2F r g) b) b) (Float64.sub (max2F (max2F r g) b) (min2F (min2F r g) b)))) 4618441417868443648) 4607182418800017408).2 := by
  unfold hueF
  dsimp only
  rw [if_neg (show ¬ isEq r (maxF r g b) = true from fun e => by rw [show isEq r (maxF r g b) = false from h] at e; cases e), if_pos (show isEq g (maxF r g b) = true from h2)]
  rfl
theorem hue3 {r g b : UInt64} (h : (Float64.cmp r (max2F (max2F r g) b) == some .eq) = false) (h2 : (Float64.cmp g (max2F (max2F r g) b) == some .eq) = false) : hueF r g b = (Float64.divmod (Float64.div (Float64.sub (Float64.add 4616189618054758400 (Float64.div (Float64.sub (max2F (max2F r g) b) g) (Float64.sub (max2F (max2F r g) b) (min2F (min2F r g) b)))) (Float64.div (Float64.sub (max2F (max2F r g) b) r) (Float64.sub (max2F (max2F r g) b) (min2F (min2F r g) b)))) 4618441417868443648) 4607182418800017408).2 := by
  unfold hueF
  dsimp only
  rw [if_neg (show ¬ isEq r (maxF r g b) = true from fun e => by rw [show isEq r (maxF r g b) = false from h] at e; cases e), if_neg (show ¬ isEq g (maxF r g b) = true from fun e => by rw [show isEq g (maxF r g b) = false from h2] at e; cases e)]
  rfl
theorem ok_open {r g b : UInt64} (h : okF r g b = true) : (Float64.cmp (min2F (min2F r g) b) (max2F (max2F r g) b) == some .eq) = false ∧ (Float64.cmp (Float64.div (Float64.add (max2F (max2F r g) b) (min2F (min2F r g) b)) 4611686018427387904) 4602678819172646912 == some .lt || Float64.cmp (Float64.div (Float64.add (max2F (max2F r g) b) (min2F (min2F r g) b)) 4611686018427387904) 4602678819172646912 == some .eq) = true ∧
    Float64.isZero (Float64.add (max2F (max2F r g) b) (min2F (min2F r g) b)) = false ∧ Float64.isZero (Float64.sub (max2F (max2F r g) b) (min2F (min2F r g) b)) = false := by
  unfold okF at h
  simp only [Bool.and_eq_true, Bool.not_eq_true'] at h
  exact ⟨h.1.1.1, h.1.1.2, h.1.2, h.2⟩
inductive RgbR (x : UInt64) : Value → List (Addr × Obj) → Prop
  | mk (D : Addr) (l s : UInt64) (t1 t2 t3 : Tok) : RgbR x (.ref D) [(D, { cls := .type "tuple", data := .seq #[.float x t1, .float l t2, .float s t3] })]
theorem RgbR.of {x y : UInt64} (h : x = y) {D : Addr} {l s : UInt64} {t1 t2 t3 : Tok} : RgbR x (.ref D) [(D, { cls := .type "tuple", data := .seq #[.float y t1, .float l t2, .float s t3] })] := by subst h; exact ⟨D, l, s, t1, t2, t3⟩
set_option maxRecDepth 100000 in
set_option maxHeartbeats 8000000 in
theorem rgb {w : World} {mean : ExcName → Option Value} {mg mb : Str → Option Value} (r g b : UInt64) (tr tg tb : Tok) (hok : okF r g b = true) : Challenge.rw_sn0046_01 = Challenge.rw_sn0046_01 → CtrO 5 w mean mg mb 42 [.float r tr, .float g tg, .float b tb] (RgbR (hueF r g b)) := by
  unfold CtrO
  w_top off
  k_fill
  intro _
  intro dp un gd cn cs a ccd cl outer A₀ base h₀ L m news s Q E B F X N T hk hdp hun hret
  refine wpAny_call ?_
  k_dflt (refine' code_def ?k1 ?k2 ?k3 ?k4 ?k5 ?kA ?kF ?kK ?k6 ?k7 ?k8 ?k9 ?kB ?_ ?c2 ?c3 ?c4 ?c5; (case kA => exact rfl); (case kF => exact rfl); (case kK => assumption); (case k1 => k_asm); (case k2 => k_asm); (case k3 => k_asm); (case k4 => k_asm); (case k5 => k_asm); (case k6 => k_is); (case k7 => k_is); (case k8 => ktr_room); (case k9 => exact BindsTo.of_eq rfl); (case c5 => decide); (case kB => exact locs rfl); (case c2 => exact rfl); (case c3 => exact rfl); (case c4 => exact rfl); k_whole; intro g1 L1 h1 FG1 F1 N1 B1 X1 T1; (try dsimp only); (try k_lift B1); (try k_fold))
  obtain ⟨ho1, ho2, ho3, ho4⟩ := ok_open hok
  k_steps
  · (rename (Float64.cmp r _ == some .eq) = true => hc1)
    (rename Fr _ _ _ _ => F9)
    (rename News _ _ _ _ => N9)
    (rename (∀ p ∈ news, Prod.fst p < _) => hlt)
    exact hret _ [_] _ _ F9 N9 (fun p hp q hq => by rw [List.mem_singleton.mp hp]; exact Nat.ne_of_gt (hlt q hq)) (RgbR.of (hue1 hc1))
  · (rename (Float64.cmp r _ == some .eq) = false => hc1)
    (rename (Float64.cmp g _ == some .eq) = true => hc2)
    (rename Fr _ _ _ _ => F9)
    (rename News _ _ _ _ => N9)
    (rename (∀ p ∈ news, Prod.fst p < _) => hlt)
    exact hret _ [_] _ _ F9 N9 (fun p hp q hq => by rw [List.mem_singleton.mp hp]; exact Nat.ne_of_gt (hlt q hq)) (RgbR.of (hue2 hc1 hc2))
  · (rename (Float64.cmp r _ == some .eq) = false => hc1)
    (rename (Float64.cmp g _ == some .eq) = false => hc2)
    (rename Fr _ _ _ _ => F9)
    (rename News _ _ _ _ => N9)
    (rename (∀ p ∈ news, Prod.fst p < _) => hlt)
    exact hret _ [_] _ _ F9 N9 (fun p hp q hq => by rw [List.mem_singleton.mp hp]; exact Nat.ne_of_gt (hlt q hq)) (RgbR.of (hue3 hc1 hc2))
end Mine

end
end
section
open PySem PySem.W PySem.Calls PyProof.Rows
namespace Mine
theorem okI_open {a b c : Int} (h : okI a b c = true) : okF (div256 a) (div256 b) (div256 c) = true ∧ Float64.isInf (div256 a) = false ∧ Float64.isInf (div256 b) = false ∧ Float64.isInf (div256 c) = false := by
  unfold okI at h
  simp only [Bool.and_eq_true, Bool.not_eq_true'] at h
  exact ⟨h.1.1.1, h.1.1.2, h.1.2, h.2⟩
inductive FltR (x : UInt64) : Value → List (Addr × Obj) → Prop
  | mk (t : Tok) : FltR x (.float x t) []
set_option maxRecDepth 100000 in
set_option maxHeartbeats 8000000 in
theorem hue {w : World} {mean : ExcName → Option Value} {mg mb : Str → Option Value} (a b c : Int) (ta tb tc : Tok) (DL : Addr) (nn : Nat) (hok : okI a b c = true) : Challenge.rw_sn0046_01 = Challenge.rw_sn0046_01 → CtrP 8 w mean mg mb 149 [.ref DL] (fun news => (DL, listOf #[.int a ta, .int b tb, .int c tc] nn) ∈ news) (FltR (hueI a b c)) := by
  unfold CtrP
  w_top off
  k_fill
  intro _
  intro dp un gd cn cs ac ccd cl outer A₀ base h₀ L m news s Q E B F X N T hk hdp hun hDL hret
  have on1 : OnRef := trivial
  refine wpAny_call ?_
  k_dflt (refine' code_def ?k1 ?k2 ?k3 ?k4 ?k5 ?kA ?kF ?kK ?k6 ?k7 ?k8 ?k9 ?kB ?_ ?c2 ?c3 ?c4 ?c5; (case kA => exact rfl); (case kF => exact rfl); (case kK => assumption); (case k1 => k_asm); (case k2 => k_asm); (case k3 => k_asm); (case k4 => k_asm); (case k5 => k_asm); (case k6 => k_is); (case k7 => k_is); (case k8 => ktr_room); (case k9 => exact BindsTo.of_eq rfl); (case c5 => decide); (case kB => exact locs rfl); (case c2 => exact rfl); (case c3 => exact rfl); (case c4 => exact rfl); k_whole; intro g1 L1 h1 FG1 F1 N1 B1 X1 T1; (try dsimp only); (try k_lift B1); (try k_fold))
  have hDL : (DL, listOf #[.int a ta, .int b tb, .int c tc] nn) ∈ news := hDL
  have N2 : News g1 L1 h1 ((DL, listOf #[.int a ta, .int b tb, .int c tc] nn) :: news) := fun p hp => by
    rcases List.mem_cons.mp hp with rfl | hp
    · exact N1 _ hDL
    · exact N1 p hp
  obtain ⟨ho, hia, hib, hic⟩ := okI_open hok
  k_steps
  · (rename Float64.isInf _ = true => hbad)
    exact absurd (hia.symm.trans hbad) (by decide)
  · (rename Float64.isInf _ = true => hbad)
    exact absurd (hib.symm.trans hbad) (by decide)
  · (rename Float64.isInf _ = true => hbad)
    exact absurd (hic.symm.trans hbad) (by decide)
  refine Stop.out ?_
  (rename Fr _ _ _ _ => F3)
  k_dflt (refine' rgb (div256 a) (div256 b) (div256 c) _ _ _ ho rfl _ _ _ _ _ _ _ _ _ _ _ _ _ _ _ _ _ _ ?k1 ?k2 ?k3 ?k4 ?k5 ?kK ?kd ?ku ?kR)
  case k1 => k_asm
  case k2 => k_asm
  case k3 => k_asm
  case k4 => exact N2
  case k5 => k_asm
  case kK => exact rfl
  case kd => ktr_room
  case ku => ktr_units
  intro v9 tl9 h9 tk9 F9 N9 o9 r9
  obtain ⟨D9, l9, s9, ta9, tb9, tc9⟩ := r9
  simp only [List.cons_append, List.nil_append] at N9
  k_steps
  (rename Fr _ _ _ _ => F8)
  (rename News _ _ _ _ => N8)
  exact hret _ [] _ _ F8 (news_sub N8 (fun p hp => .tail _ (.tail _ hp))) (fun _ h => nomatch h) ⟨_⟩
end Mine

end
section
open PySem PySem.W PySem.Calls PyProof.Rows
namespace Mine
inductive DvR (a b : Int) : Value → List (Addr × Obj) → Prop
  | mk (D : Addr) (t1 t2 : Tok) : DvR a b (.ref D) [(D, { cls := .type "tuple", data := .seq #[.int (a.fdiv b) t1, .int (a.fmod b) t2] })]
set_option maxRecDepth 100000 in
set_option maxHeartbeats 8000000 in
theorem dv {w : World} {mean : ExcName → Option Value} {mg mb : Str → Option Value} (a b n : Int) (ta tb tn : Tok) (ha : 0 < a) (ha2 : a < 1000000) (hb : 0 < b) (hb2 : b < 1000000) (hn : (Builtin.Int.intBits a : Int) - n ≤ 4000) : Challenge.rw_sn0046_01 = Challenge.rw_sn0046_01 → CtrO 5 w mean mg mb 28 [.int a ta, .int b tb, .int n tn] (DvR a b) := by
  unfold CtrO
  w_top off
  k_fill
  intro _
  intro dp un gd cn cs ac ccd cl outer A₀ base h₀ L m news s Q E B F X N T hk hdp hun hret
  refine wpAny_call ?_
  k_dflt (refine' code_def ?k1 ?k2 ?k3 ?k4 ?k5 ?kA ?kF ?kK ?k6 ?k7 ?k8 ?k9 ?kB ?_ ?c2 ?c3 ?c4 ?c5; (case kA => exact rfl); (case kF => exact rfl); (case kK => assumption); (case k1 => k_asm); (case k2 => k_asm); (case k3 => k_asm); (case k4 => k_asm); (case k5 => k_asm); (case k6 => k_is); (case k7 => k_is); (case k8 => ktr_room); (case k9 => exact BindsTo.of_eq rfl); (case c5 => decide); (case kB => exact locs rfl); (case c2 => exact rfl); (case c3 => exact rfl); (case c4 => exact rfl); k_whole; intro g1 L1 h1 FG1 F1 N1 B1 X1 T1; (try dsimp only); (try k_lift B1); (try k_fold))
  k_steps
  (rename Fr h₀ _ _ _ => F9)
  (rename News h₀ _ _ _ => N9)
  exact hret _ [_] _ _ F9 N9 (fun p hp q hq e => by
    rw [List.mem_singleton.mp hp] at e
    exact absurd (Heap.lt_size (N1 q hq).1) (by rw [← e]; exact Nat.lt_irrefl _)) ⟨_, _, _⟩
end Mine

end
section
open PySem PySem.W PySem.Calls PyProof.Rows
namespace Mine
theorem add_S {prog : Program} {w : World} {A : Around} {E : Value → Shared → Prop} {s : Shared} {t u : Tok} {Q : Value → Shared → Prop} {l r : List Nat} (hsz : l.length + r.length ≤ sizeLine) (h : ∀ t' k, Q (.str (S (l ++ r)) t') { s with toks := k }) : wpAny (model prog w) A (binaryOp .Add (.str (S l) t) (.str (S r) u)) Q E s :=
  SBL.add (fun t' k _ => by rw [S_app]; exact h t' k) (by rw [S_len, S_len]; exact hsz)
theorem rgb_item {p : Int} (h0 : 0 ≤ p) (h1 : p < 3) : Txt.item (Str.ofString "rgb") p = S [rgbAt p] := by
  have h : p = 0 ∨ p = 1 ∨ p = 2 := by omega
  rcases h with rfl | rfl | rfl <;> decide +kernel
theorem end_pick {ys : List Value} {a b c p : Int} {f : Nat} {w r : List Nat} (hI : IntsAre ys (List.map (fun k' => if k' < 3 ∧ k' = p then List.getD [a, b, c] (Int.toNat k') 0 else if k' < 3 then List.getD [a, b, c] (Int.toNat k') 0 - List.getD [a, b, c] (Int.toNat p) 0 else k') (rangeKs 0 (Int.toNat (3 - 0)))))
    (h : (p = 0 ∧ lastF f a (b - a) (c - a) (114 :: w) = some r) ∨ (p = 1 ∧ lastF f (a - b) b (c - b) (103 :: w) = some r) ∨ (p = 2 ∧ lastF f (a - c) (b - c) c (98 :: w) = some r)) :
    ∃ a1 b1 c1, IntsAre ys [a1, b1, c1] ∧ lastF f a1 b1 c1 (rgbAt p :: w) = some r := by
  rcases h with ⟨rfl, h⟩ | ⟨rfl, h⟩ | ⟨rfl, h⟩
  · exact ⟨_, _, _, hI, h⟩
  · exact ⟨_, _, _, hI, h⟩
  · exact ⟨_, _, _, hI, h⟩
theorem end_sub {ex own : List (Addr × Obj)} {a b c d e : Addr × Obj} : ∀ p ∈ (d :: e :: a :: ex) ++ own, p ∈ a :: b :: c :: d :: e :: (ex ++ own) := by
  intro p hp
  simp only [List.cons_append, List.mem_cons] at hp ⊢
  grind
theorem end_off {ex own : List (Addr × Obj)} {D a b : Addr} {o oa ob oa' ob' : Obj} (h : ∀ p ∈ (a, oa) :: (b, ob) :: ex, ∀ q ∈ own, p.1 ≠ q.1) (hD : ∀ p ∈ ex ++ own, p.1 ≠ D) :
    ∀ p ∈ (a, oa') :: (b, ob') :: (D, o) :: ex, ∀ q ∈ own, p.1 ≠ q.1 := by
  intro p hp q hq
  simp only [List.mem_cons] at hp
  rcases hp with rfl | rfl | rfl | hp
  · exact h (a, oa) (.head _) q hq
  · exact h (b, ob) (.tail _ (.head _)) q hq
  · exact fun e => hD q (List.mem_append_right _ hq) e.symm
  · exact h p (.tail _ (.tail _ hp)) q hq
theorem end_ne {ex : List (Addr × Obj)} {D c : Addr} {o : Obj} (h : ∀ p ∈ ex, p.1 ≠ c) (hD : (@Ne Nat c D)) : ∀ p ∈ (D, o) :: ex, p.1 ≠ c := fun p hp => (List.mem_cons.mp hp).elim (fun e => by rw [e]; exact Ne.symm hD) (h p)
inductive StrR (wd : List Nat) : Value → List (Addr × Obj) → Prop
  | mk (t : Tok) : StrR wd (.str (S wd) t) []
inductive EndJ (news : List (Addr × Obj)) (wd : List Nat) (L1 i : Nat) (m : Str → Option Value) : List (Addr × Obj) → Prop
  | mk (o1 o2 : Obj) (ex : List (Addr × Obj)) (v2 : Option Value) (D : Nat) (a b c : Int) (ta tb tc : Tok) (nn : Nat) (wr : List Nat) (tw : Tok) (hsub : ∀ p ∈ news, p ∈ ex) (hD : (D, listOf #[.int a ta, .int b tb, .int c tc] nn) ∈ ex) (e1 : o1.data = .cell (some (.ref D))) (e2 : o2.data = .cell v2) (hx1 : ∀ p ∈ ex, p.1 ≠ L1 + 1) (hx2 : ∀ p ∈ ex, p.1 ≠ L1 + 1 + 1) (ew : m (Str.ofString "word") = some (.str (S wr) tw)) (hwl : wr.length ≤ i) (hE : lastF (7 - i) a b c wr = some wd) : EndJ news wd L1 i m ((L1 + 1 + 1, o2) :: (L1 + 1, o1) :: ex)
inductive EndO (f : Nat) (a b c : Int) (w r : List Nat) : Prop
  | mk (hok : okI a b c = true) (hnan : Float64.isNaN (scaleE (hueI a b c)) = false) (hinf : Float64.isInf (scaleE (hueI a b c)) = false) (hplace : Hide ((placeOf (scaleE (hueI a b c)) = 0 ∧ lastF f a (b - a) (c - a) (114 :: w) = some r) ∨ (placeOf (scaleE (hueI a b c)) = 1 ∧ lastF f (a - b) b (c - b) (103 :: w) = some r) ∨ (placeOf (scaleE (hueI a b c)) = 2 ∧ lastF f (a - c) (b - c) c (98 :: w) = some r))) (hp : Hide (0 ≤ placeOf (scaleE (hueI a b c)))) (hp2 : Hide (placeOf (scaleE (hueI a b c)) < 3)) : EndO f a b c w r
theorem endO {f : Nat} {a b c : Int} {w r : List Nat} (h : lastF (f + 1) a b c w = some r) (hn : ¬ [a, b, c] = [1, 1, 1]) : EndO f a b c w r := by
  obtain ⟨_, hok, hP, hplace⟩ := (lastF_open h).resolve_left fun h => hn h.1
  obtain ⟨hnan, hinf⟩ := okP_open hP
  have := placeOf_cases (scaleE (hueI a b c))
  exact ⟨hok, hnan, hinf, hplace, (by omega : 0 ≤ placeOf _), (by omega : placeOf _ < 3)⟩
theorem end_word {f : Nat} {a b c : Int} {w r : List Nat} (h : lastF (f + 1) a b c w = some r) (hn : [a, b, c] = [1, 1, 1]) : w = r := ((lastF_open h).resolve_right fun h => h.1 hn).2
set_option maxRecDepth 100000 in
set_option maxHeartbeats 8000000 in
theorem fend {w : World} {mean : ExcName → Option Value} {mg mb : Str → Option Value} (a b c : Int) (ta tb tc : Tok) (DL : Addr) (nn : Nat) (wd : List Nat) (hf : lastF 7 a b c [] = some wd) : Challenge.rw_sn0046_01 = Challenge.rw_sn0046_01 → CtrP 12 w mean mg mb 159 [.ref DL] (fun news => (DL, listOf #[.int a ta, .int b tb, .int c tc] nn) ∈ news) (StrR wd) := by
  unfold CtrP
  w_top off
  k_fill
  intro _
  intro dp un gd cn cs ac ccd cl outer A₀ base h₀ L m news s Q E B F X N T hk hdp hun hDL hret
  have on1 : OnRef := trivial
  refine wpAny_call ?_
  k_dflt (refine' code_defC ?k1 ?k2 ?k3 ?k4 ?k5 ?kA ?kF ?kK ?k6 ?k7 ?k8 ?k9 ?kB ?kD ?_ ?c2 ?c3 ?c4; (case kA => exact rfl); (case kF => exact rfl); (case kK => first | exact rfl | assumption); (case k1 => k_asm); (case k2 => k_asm); (case k3 => k_asm); (case k4 => k_asm); (case k5 => k_asm); (case k6 => k_is); (case k7 => k_is); (case k8 => ktr_room); (case k9 => exact BindsTo.of_eq rfl); (case kB => exact rfl); (case kD => decide +kernel); (case c2 => exact rfl); (case c3 => exact rfl); (case c4 => exact rfl); k_whole; intro g1 L1 h1 tk1 cells1 FG1 F1 N1 Y1 B1 X1 T1 l1; (try k_lt l1); k_cells Y1; (try simp only [List.cons_append, List.nil_append] at N1); (try dsimp only); (try k_lift B1); (try k_fold))
  have hn1 : ∀ p ∈ news, p.1 ≠ L1 + 1 := fun p hp => Nat.ne_of_lt (Nat.lt_of_lt_of_le (l1 p hp) (by omega))
  have hn2 : ∀ p ∈ news, p.1 ≠ L1 + 1 + 1 := fun p hp => Nat.ne_of_lt (Nat.lt_of_lt_of_le (l1 p hp) (by omega))
  k_steps
  refine Stop.out ?_
  (with_unfolding_all refine for_free (h₀ := g1) ?ha (by intro _; rfl) (by intro _ _; rfl) (by passes_own))
  k_steps
  (rename Obj.data _ = _ => d1)
  revert d1
  (rename Obj.data _ = _ => d2)
  intro d1
  (rename IsRange _ _ _ _ _ _ _ _ => hR)
  (rename Fr _ _ _ _ => lF')
  (rename News _ _ _ _ => lN')
  refine free_range (n := 7) (EndJ news wd L1) ?hh hR (by decide) rfl lF' lN' ?hj ?turn ?done
  case hh => exact rfl
  case hj => exact ⟨_, _, news, _, _, _, _, _, _, _, _, _, [], _, fun _ h => h, hDL, d1, d2, hn1, hn2, rfl, Nat.le_refl _, hf⟩
  case done =>
    rintro m₁ nx h tk ⟨o1, o2, ex, v2, D, a', b', c', ta', tb', tc', nn', wr, tw, hsub, hD, e1, e2, hx1, hx2, ew, hwl, hE⟩ F₁ N₁
    cases hE
  case turn =>
    rintro QQ hQQ i m₁ nx h tk t own hi hoff ⟨o1, o2, ex, v2, D, a', b', c', ta', tb', tc', nn', wr, tw, hsub, hD, e1, e2, hx1, hx2, ew, hwl, hE⟩ F₁ N₁
    dsimp only
    have F₂ := fr_known F₁ (.cons ew .nil)
    simp only [List.cons_append] at N₁
    rw [Int.zero_add]
    have hD1 : (@Ne Nat D (L1 + 1)) := hx1 _ hD
    have hD2 : (@Ne Nat D (L1 + 1 + 1)) := hx2 _ hD
    have ho1 : ∀ p ∈ ex ++ own, p.1 ≠ L1 + 1 := fun p hp => (List.mem_append.mp hp).elim (hx1 p) fun hq e => hoff _ (.tail _ (.head _)) p hq e.symm
    have ho2 : ∀ p ∈ ex ++ own, p.1 ≠ L1 + 1 + 1 := fun p hp => (List.mem_append.mp hp).elim (hx2 p) fun hq e => hoff _ (.head _) p hq e.symm
    have N₂ : News g1 L1 h ((D, listOf #[.int a' ta', .int b' tb', .int c' tc'] nn') :: (L1 + 1 + 1, o2) :: (L1 + 1, o1) :: (ex ++ own)) := fun p hp => by
      rcases List.mem_cons.mp hp with rfl | hp
      · exact N₁ _ (.tail _ (.tail _ (List.mem_append_left _ hD)))
      · exact N₁ p hp
    clear N₁
    have h7 : 7 - i = (7 - (i + 1)) + 1 := by omega
    rw [h7] at hE
    refine wpAny_assign_Name ?_
    k_steps
    · (rename [a', b', c'] = [1, 1, 1] => heq)
      have hw : wr = wd := end_word hE heq
      subst hw
      dsimp only [TurnEnd]
      refine hQQ _ _ ?_
      k_steps
      (rename Fr h₀ _ _ _ => F9)
      (rename News h₀ _ _ _ => N9)
      exact hret _ [] _ _ F9 (news_sub N9 (fun p hp => .tail _ (.tail _ (.tail _ (.tail _ (List.mem_append_left _ (hsub p hp))))))) (fun _ h => nomatch h) ⟨_⟩
    · refine Stop.out ?_
      (rename ¬ [a', b', c'] = [1, 1, 1] => hneq)
      obtain ⟨hok, hnan, hinf, hplace, hp0, hp1⟩ := endO hE hneq
      clear hneq hE
      (rename Fr _ _ _ _ => F3)
      (rename News _ _ _ _ => N3)
      k_dflt (refine' hue a' b' c' ta' tb' tc' D nn' hok rfl _ _ _ _ _ _ _ _ _ _ _ _ _ _ _ _ _ _ ?k1 ?k2 ?k3 ?k4 ?k5 ?kK ?kd ?ku ?kP ?kR)
      case k1 => k_asm
      case k2 => k_asm
      case k3 => k_asm
      case k4 => exact N3
      case k5 => k_asm
      case kK => exact rfl
      case kd => ktr_room
      case ku => ktr_units
      case kP => exact .tail _ (.head _)
      clear N3
      intro v9 tl9 h9 tk9 F9 N9 o9 r9
      obtain ⟨t9⟩ := r9
      simp only [List.cons_append, List.nil_append] at N9
      generalize hueI a' b' c' = hu at hplace hnan hinf hp0 hp1
      unfold scaleE at hplace hnan hinf hp0 hp1
      unfold placeOf at hplace hp0 hp1
      k_steps
      generalize Int.fmod _ 3 = p at *
      have hp2 : 0 ≤ p := hp0
      have hp3 : p < 3 := hp1
      rw [rgb_item hp0 hp1]
      refine add_S (by rw [sizeLine_eq]; simp; omega) ?_
      intro tS kS
      k_steps
      (rename Fr _ _ _ _ => F8)
      (rename News _ _ _ _ => N8)
      (rename IntsAre _ _ => hI8)
      (rename Obj.data _ = Data.cell (some (.ref _)) => hd8)
      (rename Obj.data _ = Data.cell (some (.int _ _)) => hd7)
      (rename (_ ∧ _ ∧ _ ∧ _ ∧ LCg.Off1 _ _) => hO)
      obtain ⟨_, _, hO2, hO1, hOn⟩ := hO
      have hOm := off1_mem hOn
      obtain ⟨a1, b1, c1, hI9, hn9⟩ := end_pick hI8 hplace
      obtain ⟨ta1, tb1, tc1, hys⟩ := intsAre3 hI9
      subst hys
      exact TurnEnd.next ((L1 + 1 + 1, _) :: (L1 + 1, _) :: (_, _) :: ex) F8 N8 end_sub (end_off hoff hOm) ⟨_, _, _ :: ex, _, _, _, _, _, _, _, _, _, _, _, fun q hq => .tail _ (hsub q hq), .head _, hd8, hd7, end_ne hx1 hO1, end_ne hx2 hO2, rfl, by simp; omega, hn9⟩
end Mine

end
section
open PySem PySem.W PySem.Calls PyProof.Rows
namespace Mine
theorem rgb_mul {c : Nat} {n : Int} : Txt.mul (S [c]) n = S (List.replicate n.toNat c) := by
  apply Str.ext'
  apply Array.toList_inj.mp
  exact mul_one_list c n
theorem iadd_S {prog : Program} {w : World} {A : Around} {E : Value → Shared → Prop} {s : Shared} {t u : Tok} {Q : Value → Shared → Prop} {l r : List Nat} (hsz : l.length + r.length ≤ sizeLine) (h : ∀ t' k, Q (.str (S (l ++ r)) t') { s with toks := k }) : wpAny (model prog w) A (inplaceOp .Add (.str (S l) t) (.str (S r) u)) Q E s :=
  SBL.iadd (fun t' k _ => by rw [S_app]; exact h t' k) (by rw [S_len, S_len]; exact hsz)
theorem frt_pick {ys : List Value} {a b c q rest : Int} {f : Nat} {w r : List Nat} (hI : IntsAre ys (List.map (fun k' => if k' < 3 ∧ k' = q then rest else if k' < 3 then List.getD [a, b, c] (Int.toNat k') 0 else k') (rangeKs 0 (Int.toNat (3 - 0)))))
    (hq : Hide (q = 0 ∨ q = 1 ∨ q = 2)) (h : Hide (frontF f (if q = 0 then rest else a) (if q = 1 then rest else b) (if q = 2 then rest else c) w = some r)) :
    ∃ a1 b1 c1, IntsAre ys [a1, b1, c1] ∧ frontF f a1 b1 c1 w = some r := by
  have hq : q = 0 ∨ q = 1 ∨ q = 2 := hq
  rcases hq with rfl | rfl | rfl
  · exact ⟨_, _, _, hI, h⟩
  · exact ⟨_, _, _, hI, h⟩
  · exact ⟨_, _, _, hI, h⟩
theorem frt_sub {ex own : List (Addr × Obj)} {a b d e f : Addr × Obj} : ∀ p ∈ (d :: e :: f :: a :: ex) ++ own, p ∈ a :: b :: d :: e :: f :: (ex ++ own) := by
  intro p hp
  simp only [List.cons_append, List.mem_cons] at hp ⊢
  grind
theorem frt_off {ex own : List (Addr × Obj)} {D a b c : Addr} {o oa ob oc oa' ob' oc' : Obj} (h : ∀ p ∈ (a, oa) :: (b, ob) :: (c, oc) :: ex, ∀ q ∈ own, p.1 ≠ q.1) (hD : ∀ p ∈ ex ++ own, p.1 ≠ D) :
    ∀ p ∈ (a, oa') :: (b, ob') :: (c, oc') :: (D, o) :: ex, ∀ q ∈ own, p.1 ≠ q.1 := by
  intro p hp q hq
  simp only [List.mem_cons] at hp
  rcases hp with rfl | rfl | rfl | rfl | hp
  · exact h (a, oa) (.head _) q hq
  · exact h (b, ob) (.tail _ (.head _)) q hq
  · exact h (c, oc) (.tail _ (.tail _ (.head _))) q hq
  · exact fun e => hD q (List.mem_append_right _ hq) e.symm
  · exact h p (.tail _ (.tail _ (.tail _ hp))) q hq
inductive FrtJ (news : List (Addr × Obj)) (wd : List Nat) (L1 i : Nat) (m : Str → Option Value) : List (Addr × Obj) → Prop
  | mk (o1 o2 o3 : Obj) (ex : List (Addr × Obj)) (v2 v3 : Option Value) (D : Nat) (a b c : Int) (ta tb tc : Tok) (nn : Nat) (wr : List Nat) (tw : Tok) (hsub : ∀ p ∈ news, p ∈ ex) (hD : (D, listOf #[.int a ta, .int b tb, .int c tc] nn) ∈ ex) (e1 : o1.data = .cell (some (.ref D))) (e2 : o2.data = .cell v2) (e3 : o3.data = .cell v3) (hx1 : ∀ p ∈ ex, p.1 ≠ L1 + 1) (hx2 : ∀ p ∈ ex, p.1 ≠ L1 + 1 + 1) (hx3 : ∀ p ∈ ex, p.1 ≠ L1 + 1 + 1 + 1) (ew : m (Str.ofString "word") = some (.str (S wr) tw)) (hwl : wr.length ≤ 100 * i) (hE : frontF (7 - i) a b c wr = some wd) : FrtJ news wd L1 i m ((L1 + 1 + 1 + 1, o3) :: (L1 + 1 + 1, o2) :: (L1 + 1, o1) :: ex)
inductive FrtO (f : Nat) (a b c : Int) (w r : List Nat) : Prop
  | mk (p : Int) (hok : okI a b c = true) (hnan : Float64.isNaN (scaleF (hueI a b c)) = false) (hinf : Float64.isInf (scaleF (hueI a b c)) = false) (hplace : placeOf (scaleF (hueI a b c)) = p) (hp0 : Hide (0 ≤ p)) (hp1 : Hide (p < 3)) (hp : Hide (p = 0 ∨ p = 1 ∨ p = 2)) (hg0 : 0 < part p a b c) (hg1 : part p a b c < 1000) (hs0 : 0 < a + b + c - part p a b c) (hs1 : a + b + c - part p a b c < 3000) (hb0 : (Builtin.Int.intBits (part p a b c) : Int) - (Builtin.Int.intBits (a + b + c - part p a b c) : Int) ≤ 4000) (hb1 : (part p a b c).fdiv (a + b + c - part p a b c) ≤ 100)
      (hnext : Hide (frontF f (if p = 0 then (part p a b c).fmod (a + b + c - part p a b c) else a) (if p = 1 then (part p a b c).fmod (a + b + c - part p a b c) else b) (if p = 2 then (part p a b c).fmod (a + b + c - part p a b c) else c) (w ++ List.replicate ((part p a b c).fdiv (a + b + c - part p a b c)).toNat (rgbAt p)) = some r)) : FrtO f a b c w r
theorem frtO {f : Nat} {a b c : Int} {w r : List Nat} (h : frontF (f + 1) a b c w = some r) (hn : ¬ [a, b, c] = [1, 1, 1]) : FrtO f a b c w r := by
  obtain ⟨_, hok, hP, hL, p, hplace, hp, hbits, hnext⟩ := (frontF_open h).resolve_left fun h => hn h.1
  obtain ⟨hnan, hinf⟩ := okP_open hP
  obtain ⟨hg0, hg1, hs0, hs1⟩ := part_pos hp (okL_open hL)
  obtain ⟨hb0, hb1⟩ := bitsOk_open hbits
  exact ⟨p, hok, hnan, hinf, hplace, (by omega : 0 ≤ p), (by omega : p < 3), hp, hg0, hg1, hs0, hs1, hb0, hb1, hnext⟩
theorem front_word {f : Nat} {a b c : Int} {w r : List Nat} (h : frontF (f + 1) a b c w = some r) (hn : [a, b, c] = [1, 1, 1]) : w = r := ((frontF_open h).resolve_right fun h => h.1 hn).2
set_option maxRecDepth 100000 in
set_option maxHeartbeats 8000000 in
theorem front {w : World} {mean : ExcName → Option Value} {mg mb : Str → Option Value} (a b c : Int) (ta tb tc : Tok) (DL : Addr) (nn : Nat) (wd : List Nat) (hf : frontF 7 a b c [] = some wd) : Challenge.rw_sn0046_01 = Challenge.rw_sn0046_01 → CtrP 12 w mean mg mb 154 [.ref DL] (fun news => (DL, listOf #[.int a ta, .int b tb, .int c tc] nn) ∈ news) (StrR wd) := by
  unfold CtrP
  w_top off
  k_fill
  intro _
  intro dp un gd cn cs ac ccd cl outer A₀ base h₀ L m news s Q E B F X N T hk hdp hun hDL hret
  have on1 : OnRef := trivial
  refine wpAny_call ?_
  k_dflt (refine' code_defC ?k1 ?k2 ?k3 ?k4 ?k5 ?kA ?kF ?kK ?k6 ?k7 ?k8 ?k9 ?kB ?kD ?_ ?c2 ?c3 ?c4; (case kA => exact rfl); (case kF => exact rfl); (case kK => first | exact rfl | assumption); (case k1 => k_asm); (case k2 => k_asm); (case k3 => k_asm); (case k4 => k_asm); (case k5 => k_asm); (case k6 => k_is); (case k7 => k_is); (case k8 => ktr_room); (case k9 => exact BindsTo.of_eq rfl); (case kB => exact rfl); (case kD => decide +kernel); (case c2 => exact rfl); (case c3 => exact rfl); (case c4 => exact rfl); k_whole; intro g1 L1 h1 tk1 cells1 FG1 F1 N1 Y1 B1 X1 T1 l1; (try k_lt l1); k_cells Y1; (try simp only [List.cons_append, List.nil_append] at N1); (try dsimp only); (try k_lift B1); (try k_fold))
  have hn1 : ∀ p ∈ news, p.1 ≠ L1 + 1 := fun p hp => Nat.ne_of_lt (Nat.lt_of_lt_of_le (l1 p hp) (by omega))
  have hn2 : ∀ p ∈ news, p.1 ≠ L1 + 1 + 1 := fun p hp => Nat.ne_of_lt (Nat.lt_of_lt_of_le (l1 p hp) (by omega))
  have hn3 : ∀ p ∈ news, p.1 ≠ L1 + 1 + 1 + 1 := fun p hp => Nat.ne_of_lt (Nat.lt_of_lt_of_le (l1 p hp) (by omega))
  k_steps
  refine Stop.out ?_
  (with_unfolding_all refine for_free (h₀ := g1) ?ha (by intro _; rfl) (by intro _ _; rfl) (by passes_own))
  k_steps
  (rename Obj.data _ = _ => d1)
  revert d1
  (rename Obj.data _ = _ => d2)
  revert d2
  (rename Obj.data _ = _ => d3)
  intro d2 d1
  (rename IsRange _ _ _ _ _ _ _ _ => hR)
  (rename Fr _ _ _ _ => lF')
  (rename News _ _ _ _ => lN')
  refine free_range (n := 7) (FrtJ news wd L1) ?hh hR (by decide) rfl lF' lN' ?hj ?turn ?done
  case hh => exact rfl
  case hj => exact ⟨_, _, _, news, _, _, _, _, _, _, _, _, _, _, [], _, fun _ h => h, hDL, d1, d2, d3, hn1, hn2, hn3, rfl, Nat.zero_le _, hf⟩
  case done =>
    rintro m₁ nx h tk ⟨o1, o2, o3, ex, v2, v3, D, a', b', c', ta', tb', tc', nn', wr, tw, hsub, hD, e1, e2, e3, hx1, hx2, hx3, ew, hwl, hE⟩ F₁ N₁
    cases hE
  case turn =>
    rintro QQ hQQ i m₁ nx h tk t own hi hoff ⟨o1, o2, o3, ex, v2, v3, D, a', b', c', ta', tb', tc', nn', wr, tw, hsub, hD, e1, e2, e3, hx1, hx2, hx3, ew, hwl, hE⟩ F₁ N₁
    dsimp only
    have F₂ := fr_known F₁ (.cons ew .nil)
    simp only [List.cons_append] at N₁
    rw [Int.zero_add]
    have hD1 : (@Ne Nat D (L1 + 1)) := hx1 _ hD
    have hD2 : (@Ne Nat D (L1 + 1 + 1)) := hx2 _ hD
    have hD3 : (@Ne Nat D (L1 + 1 + 1 + 1)) := hx3 _ hD
    have ho1 : ∀ p ∈ ex ++ own, p.1 ≠ L1 + 1 := fun p hp => (List.mem_append.mp hp).elim (hx1 p) fun hq e => hoff _ (.tail _ (.tail _ (.head _))) p hq e.symm
    have ho2 : ∀ p ∈ ex ++ own, p.1 ≠ L1 + 1 + 1 := fun p hp => (List.mem_append.mp hp).elim (hx2 p) fun hq e => hoff _ (.tail _ (.head _)) p hq e.symm
    have ho3 : ∀ p ∈ ex ++ own, p.1 ≠ L1 + 1 + 1 + 1 := fun p hp => (List.mem_append.mp hp).elim (hx3 p) fun hq e => hoff _ (.head _) p hq e.symm
    have N₂ : News g1 L1 h ((D, listOf #[.int a' ta', .int b' tb', .int c' tc'] nn') :: (L1 + 1 + 1 + 1, o3) :: (L1 + 1 + 1, o2) :: (L1 + 1, o1) :: (ex ++ own)) := fun p hp => by
      rcases List.mem_cons.mp hp with rfl | hp
      · exact N₁ _ (.tail _ (.tail _ (.tail _ (List.mem_append_left _ hD))))
      · exact N₁ p hp
    clear N₁
    have h7 : 7 - i = (7 - (i + 1)) + 1 := by omega
    rw [h7] at hE
    refine wpAny_assign_Name ?_
    k_steps
    · (rename [a', b', c'] = [1, 1, 1] => heq)
      have hw : wr = wd := front_word hE heq
      subst hw
      dsimp only [TurnEnd]
      refine hQQ _ _ ?_
      k_steps
      (rename Fr h₀ _ _ _ => F9)
      (rename News h₀ _ _ _ => N9)
      exact hret _ [] _ _ F9 (news_sub N9 (fun p hp => .tail _ (.tail _ (.tail _ (.tail _ (.tail _ (List.mem_append_left _ (hsub p hp)))))))) (fun _ h => nomatch h) ⟨_⟩
    · refine Stop.out ?_
      (rename ¬ [a', b', c'] = [1, 1, 1] => hneq)
      obtain ⟨p, hok, hnan, hinf, hplace, hp0, hp1, hp, hg0, hg1, hs0, hs1, hb0, hb1, hnext⟩ := frtO hE hneq
      clear hneq hE
      (rename Fr _ _ _ _ => F3)
      (rename News _ _ _ _ => N3)
      k_dflt (refine' hue a' b' c' ta' tb' tc' D nn' hok rfl _ _ _ _ _ _ _ _ _ _ _ _ _ _ _ _ _ _ ?k1 ?k2 ?k3 ?k4 ?k5 ?kK ?kd ?ku ?kP ?kR)
      case k1 => k_asm
      case k2 => k_asm
      case k3 => k_asm
      case k4 => exact N3
      case k5 => k_asm
      case kK => exact rfl
      case kd => ktr_room
      case ku => ktr_units
      case kP => exact .tail _ (.head _)
      clear N3
      intro v9 tl9 h9 tk9 F9 N9 o9 r9
      obtain ⟨t9⟩ := r9
      simp only [List.nil_append] at N9
      generalize hueI a' b' c' = hu at hplace hnan hinf
      unfold scaleF at hplace hnan hinf
      unfold placeOf at hplace
      have hp2 : 0 ≤ p := hp0
      have hp3 : p < 3 := hp1
      k_steps
      refine Stop.out ?_
      generalize Int.fmod _ 3 = q at *
      subst hplace
      unfold part at hg0 hg1 hs0 hs1 hb0 hb1 hnext
      rw [show a' + (b' + (c' + 0)) = a' + b' + c' by omega]
      generalize hgg : List.getD [a', b', c'] (Int.toNat q) 0 = g at *
      generalize hss : a' + b' + c' - g = o at *
      (rename Fr _ _ _ _ => F4)
      (rename News _ _ _ _ => N4)
      k_dflt (refine' dv g o (Builtin.Int.intBits o) _ _ _ hg0 (by omega) hs0 (by omega) hb0 rfl _ _ _ _ _ _ _ _ _ _ _ _ _ _ _ _ _ _ ?j1 ?j2 ?j3 ?j4 ?j5 ?jK ?jd ?ju ?jR)
      case j1 => k_asm
      case j2 => k_asm
      case j3 => k_asm
      case j4 => exact N4
      case j5 => k_asm
      case jK => exact rfl
      case jd => ktr_room
      case ju => ktr_units
      intro v7 tl7 h7 tk7 F7 N7 o7 r7
      obtain ⟨D7, t71, t72⟩ := r7
      simp only [List.cons_append, List.nil_append] at N7
      have n3 : (@Ne Nat D7 (L1 + 1 + 1 + 1)) := o7 _ (.head _) _ (.tail _ (.tail _ (.head _)))
      have n2 : (@Ne Nat D7 (L1 + 1 + 1)) := o7 _ (.head _) _ (.tail _ (.tail _ (.tail _ (.head _))))
      have n1 : (@Ne Nat D7 (L1 + 1)) := o7 _ (.head _) _ (.tail _ (.tail _ (.tail _ (.tail _ (.head _)))))
      clear o7
      have hrun0 : 0 ≤ g.fdiv o := Int.fdiv_nonneg (by omega) (by omega)
      generalize hrr : Int.fmod g o = rest at *
      generalize hru : Int.fdiv g o = run at *
      have hnw : Hide (frontF (7 - (i + 1)) (if q = 0 then rest else a') (if q = 1 then rest else b') (if q = 2 then rest else c') (wr ++ List.replicate run.toNat (rgbAt q)) = some wd) := hnext
      clear hnext hok hb0 hnan hinf hgg hss hrr hru hg0 hg1 hs0 hs1
      k_steps
      (rename News _ _ _ _ => N6)
      have N5 := news_sub (news := (D, _) :: (L1 + 1 + 1 + 1, _) :: (L1 + 1 + 1, _) :: (L1 + 1, _) :: (ex ++ own)) N6 (fun p hp => .tail _ (.tail _ hp))
      clear N6 n1 n2 n3
      rw [rgb_item hp0 hp1, rgb_mul]
      refine iadd_S (by rw [sizeLine_eq, List.length_replicate]; omega) ?_
      intro tS kS
      have hwl2 : Hide ((wr ++ List.replicate run.toNat (rgbAt q)).length ≤ 100 * (i + 1)) := by
        show (wr ++ List.replicate run.toNat (rgbAt q)).length ≤ _
        rw [List.length_append, List.length_replicate]; omega
      clear hb1 hrun0 hwl
      k_steps
      (rename Fr _ _ _ _ => F8)
      (rename News _ _ _ _ => N8)
      (rename IntsAre _ _ => hI8)
      (rename Obj.data _ = Data.cell (some (.ref _)) => hd8)
      (rename Obj.data _ = Data.cell (some (.int rest _)) => hd6)
      (rename Obj.data _ = Data.cell (some (.int q _)) => hd7)
      (rename (_ ∧ _ ∧ _ ∧ _ ∧ LCg.Off1 _ _) => hO)
      have hOm := off1_mem hO.2.2.2.2
      obtain ⟨a1, b1, c1, hI9, hn9⟩ := frt_pick hI8 hp hnw
      obtain ⟨ta1, tb1, tc1, hys⟩ := intsAre3 hI9
      subst hys
      exact TurnEnd.next ((L1 + 1 + 1 + 1, _) :: (L1 + 1 + 1, _) :: (L1 + 1, _) :: (_, _) :: ex) F8 N8 frt_sub (frt_off hoff hOm) ⟨_, _, _, _ :: ex, _, _, _, _, _, _, _, _, _, _, _, _, fun q hq => .tail _ (hsub q hq), .head _, hd8, hd7, hd6, end_ne hx1 hO.2.2.2.1, end_ne hx2 hO.2.2.1, end_ne hx3 hO.2.1, rfl, hwl2, hn9⟩
end Mine

end
section
open PySem PySem.W PySem.Calls PyProof.Rows
namespace Mine
def letters : List Nat := [114, 103, 98]
def orders : List (List Nat) := [[114, 103, 98], [114, 98, 103], [103, 114, 98], [103, 98, 114], [98, 114, 103], [98, 103, 114]]
def heads : List (List Nat) := [[]] ++ letters.map (fun a => [a]) ++ letters.flatMap (fun a => letters.map fun b => [a, b]) ++ letters.flatMap (fun a => letters.flatMap fun b => letters.map fun c => [a, b, c])
def chkN (tx : List Nat) (n : Nat) : Bool :=
  let ps := Txt.split (S tx) ⟨#[n]⟩
  let q := wsF (tx.map fun c => if c = n then 9 else 32)
  decide (2 ≤ ps.length) && decide (normL (ps.map fun p => (p.length : Int)) = (q.1, q.2.1))
def lights (tx : List Nat) (n : Nat) : Int := 2 * (wsF (tx.map fun c => if c = n then 9 else 32)).2.2 + 1
def told (tx : List Nat) (p : Int) : Bool := decide (0 ≤ p) && decide (p ≤ tx.length) && Txt.startswith (S tx) (S (tx.drop p.toNat))
end Mine

end
section
open PySem PySem.W PySem.Calls PyProof.Rows
namespace Mine
/-- how long the list of the counts is -/
def mlen (cl : List Nat) : Nat := cl.foldl (fun m x => max m (x + 1)) 0
theorem mlen_snoc (cl : List Nat) (b : Nat) : mlen (cl ++ [b]) = max (mlen cl) (b + 1) := by unfold mlen; rw [List.foldl_append]; rfl
theorem mlen_gen : ∀ (l : List Nat) (m : Nat), m ≤ l.foldl (fun m x => max m (x + 1)) m ∧ ∀ k ∈ l, k < l.foldl (fun m x => max m (x + 1)) m
  | [], m => ⟨Nat.le_refl _, fun _ h => nomatch h⟩
  | a :: r, m => by
    obtain ⟨h1, h2⟩ := mlen_gen r (max m (a + 1))
    rw [List.foldl_cons]
    refine ⟨by omega, fun k hk => ?_⟩
    rcases List.mem_cons.mp hk with rfl | h
    · omega
    · exact h2 k h
theorem mlen_lt {cl : List Nat} : ∀ k ∈ cl, k < mlen cl := (mlen_gen cl 0).2
structure CntIs (cl : List Nat) (cnt : List Int) : Prop where
  len : cnt.length = mlen cl
  at_ : ∀ k : Nat, cnt.getD k 0 = (cl.count k : Int)
theorem ws_blanks (k : Nat) (q : List Int × Int × Int) : (List.replicate k 32).foldl wsStep q = (q.1, q.2.1 + k, q.2.2) := by
  induction k generalizing q with
  | zero => simp
  | succ k ih =>
    rw [List.replicate_succ, List.foldl_cons, ih]
    unfold wsStep
    rw [if_pos rfl]
    simp only [Prod.mk.injEq, true_and, and_true]
    push_cast; omega
theorem ws_sign {cl : List Nat} {cnt : List Int} (h : CntIs cl cnt) (b : Nat) (nt : Int) : ∃ cnt', wsStep (cnt, (b : Int), nt) 9 = (cnt', 0, nt + 1) ∧ CntIs (cl ++ [b]) cnt' := by
  unfold wsStep
  rw [if_neg (by decide)]
  refine ⟨_, rfl, ?_⟩
  have hl := h.len
  have key : ∀ c1 : List Int, c1.length = max (mlen cl) (b + 1) → (∀ k : Nat, c1.getD k 0 = (cl.count k : Int)) → CntIs (cl ++ [b]) (c1.set b (c1.getD b 0 + 1)) := by
    intro c1 h1 h2
    refine ⟨by rw [List.length_set, mlen_snoc, h1], fun k => ?_⟩
    rw [List.count_append]
    by_cases e : k = b
    · subst e
      have hlt : k < c1.length := by omega
      rw [List.getD_eq_getElem?_getD, List.getElem?_set_self hlt, Option.getD_some, h2]
      simp
    · rw [List.getD_eq_getElem?_getD, List.getElem?_set_ne (fun e' => e e'.symm), ← List.getD_eq_getElem?_getD, h2]
      have : List.count k [b] = 0 := List.count_eq_zero_of_not_mem (fun hm => e (List.mem_singleton.mp hm))
      rw [this]; simp
  dsimp only
  rw [Int.toNat_natCast]
  split
  · next hge =>
    refine key _ ?_ fun k => ?_
    · rw [List.length_append, List.length_replicate]; omega
    · by_cases hk : k < cnt.length
      · rw [List.getD_eq_getElem?_getD, List.getElem?_append_left hk, ← List.getD_eq_getElem?_getD, h.at_]
      · rw [List.getD_eq_getElem?_getD, List.getElem?_append_right (by omega)]
        have e0 : List.count k cl = 0 := List.count_eq_zero_of_not_mem fun hm => by have := mlen_lt k hm; omega
        rw [e0]
        cases hr : (List.replicate ((b : Int) - (cnt.length : Int) + 1).toNat (0 : Int))[k - cnt.length]? with
        | none => rfl
        | some v => have := List.mem_of_getElem? hr; rw [List.mem_replicate] at this; rw [this.2]; rfl
  · next hge => exact key _ (by omega) h.at_
def mark (n : Nat) (l : List Nat) : List Nat := l.map fun c => if c = n then 9 else 32
theorem mark_free {n : Nat} {l : List Nat} (h : n ∉ l) : mark n l = List.replicate l.length 32 := by
  induction l with
  | nil => rfl
  | cons a r ih =>
    have ha : a ≠ n := fun e => h (e ▸ .head _)
    show (if a = n then 9 else 32) :: mark n r = _
    rw [if_neg ha, ih fun hm => h (.tail _ hm)]; rfl
theorem ws_join (n : Nat) : ∀ (ps : List Str) (cl : List Nat) (cnt : List Int) (nt : Int), (∀ p ∈ ps, n ∉ p.cps.toList) → CntIs cl cnt → ∀ p : Str, n ∉ p.cps.toList → ∃ cnt' nt', (mark n (Str.join ⟨#[n]⟩ (p :: ps)).cps.toList).foldl wsStep (cnt, 0, nt) = (cnt', ((((p :: ps).map (·.length)).getLast (by simp) : Nat) : Int), nt') ∧ CntIs (cl ++ ((p :: ps).map (·.length)).dropLast) cnt' := by
  intro ps
  induction ps with
  | nil =>
    intro cl cnt nt _ hc p hp
    refine ⟨cnt, nt, ?_, by simpa using hc⟩
    show (mark n p.cps.toList).foldl wsStep _ = _
    rw [mark_free hp, ws_blanks]
    simp [Str.length]
  | cons q r ih =>
    intro cl cnt nt hps hc p hp
    have e : (Str.join ⟨#[n]⟩ (p :: q :: r)).cps.toList = p.cps.toList ++ n :: (Str.join ⟨#[n]⟩ (q :: r)).cps.toList := by
      show (p ++ ⟨#[n]⟩ ++ Str.join ⟨#[n]⟩ (q :: r)).cps.toList = _
      rw [Str.cps_append, Str.cps_append]
      simp
    obtain ⟨cnt1, h1, hc1⟩ := ws_sign hc p.length nt
    obtain ⟨cnt', nt', h2, hc2⟩ := ih (cl ++ [p.length]) cnt1 (nt + 1) (fun x hx => hps x (.tail _ hx)) hc1 q (hps q (.head _))
    refine ⟨cnt', nt', ?_, by simpa using hc2⟩
    rw [e]
    unfold mark at h2 ⊢
    rw [List.map_append, List.map_cons, List.foldl_append, if_pos rfl, List.foldl_cons]
    have hf := mark_free hp
    unfold mark at hf
    rw [hf, ws_blanks]
    have e3 : ((0 : Int) + (p.cps.toList.length : Int)) = (p.length : Int) := by simp [Str.length]
    dsimp only
    rw [e3, h1, h2]
    simp
theorem normL_of {cl : List Nat} {cnt : List Int} {b : Nat} (hne : cl ≠ []) (h : CntIs cl cnt) : normL ((cl ++ [b]).map fun (p : Nat) => (p : Int)) = (cnt, (b : Int)) := by
  have e1 : ((cl ++ [b]).map fun (p : Nat) => (p : Int)).length = cl.length + 1 := by simp
  have e2 : ((cl ++ [b]).map fun (p : Nat) => (p : Int)).take cl.length = cl.map fun (p : Nat) => (p : Int) := by
    rw [List.map_append, List.take_left' (by simp)]
  unfold normL
  rw [e1, Nat.add_sub_cancel, e2]
  have hm : ((cl.map fun (p : Nat) => (p : Int)).foldl max 0).toNat + 1 = mlen cl := by
    have gen : ∀ (l : List Nat) (m : Nat), (l.map fun (p : Nat) => (p : Int)).foldl max (m : Int) = ((l.foldl max m : Nat) : Int) := by
      intro l
      induction l with
      | nil => intro m; rfl
      | cons a r ih =>
        intro m
        rw [List.map_cons, List.foldl_cons, List.foldl_cons]
        have : max (m : Int) (a : Int) = ((max m a : Nat) : Int) := by omega
        rw [this, ih]
    have g2 : ∀ (l : List Nat) (m : Nat), l.foldl (fun m x => max m (x + 1)) (m + 1) = l.foldl max m + 1 := by
      intro l
      induction l with
      | nil => intro m; rfl
      | cons a r ih =>
        intro m
        rw [List.foldl_cons, List.foldl_cons]
        have : max (m + 1) (a + 1) = max m a + 1 := by omega
        rw [this, ih]
    have := gen cl 0
    rw [show ((0 : Int)) = ((0 : Nat) : Int) from rfl, this, Int.toNat_natCast]
    unfold mlen
    cases cl with
    | nil => exact absurd rfl hne
    | cons a r =>
      rw [List.foldl_cons, List.foldl_cons]
      have e4 : max 0 (a + 1) = (max 0 a) + 1 := by omega
      rw [e4, g2]
  dsimp only
  rw [hm]
  congr 1
  · apply List.ext_getElem?
    intro k
    rw [List.getElem?_map]
    by_cases hk : k < mlen cl
    · rw [List.getElem?_range hk, Option.map_some]
      have h1 := h.at_ k
      rw [List.getD_eq_getElem?_getD] at h1
      have h2 : k < cnt.length := by rw [h.len]; exact hk
      rw [List.getElem?_eq_getElem h2] at h1 ⊢
      rw [Option.getD_some] at h1
      rw [h1]
      congr 2
      clear h1 h2 hm e1 e2 h hk hne
      induction cl with
      | nil => rfl
      | cons a r ih =>
        rw [List.map_cons, List.count_cons, List.count_cons, ih]
        congr 1
        by_cases e : a = k
        · subst e; simp
        · have : ¬ ((a : Int) = (k : Int)) := by omega
          simp [e, this]
    · rw [List.getElem?_eq_none (by simpa using hk), List.getElem?_eq_none (by rw [h.len]; omega)]; rfl
  · rw [List.getD_eq_getElem?_getD, List.getElem?_map, List.getElem?_append_right (by omega)]
    simp
theorem chkN_of {tx : List Nat} {n : Nat} (hn : n ∈ tx) : chkN tx n = true := by
  have hfree := StrLaws.split_free (S tx) n
  have hj := StrLaws.join_split (S tx) ⟨#[n]⟩
  have h2 : 2 ≤ (Txt.split (S tx) ⟨#[n]⟩).length := by
    have h1 := split_pos (S tx) ⟨#[n]⟩
    rcases Nat.lt_or_ge (Txt.split (S tx) ⟨#[n]⟩).length 2 with h | h
    · exfalso
      generalize Txt.split (S tx) ⟨#[n]⟩ = ps at *
      match ps, h, h1 with
      | [p], _, _ =>
        have : p = S tx := hj
        subst this
        exact hfree _ (.head _) hn
    · exact h
  unfold chkN
  dsimp only
  rw [decide_eq_true h2, Bool.true_and, decide_eq_true_iff]
  generalize Txt.split (S tx) ⟨#[n]⟩ = ps at *
  match ps, h2 with
  | p :: q :: r, _ =>
    obtain ⟨cnt', nt', h3, h4⟩ := ws_join n (q :: r) [] [] 0 (fun x hx => hfree x (.tail _ hx)) ⟨rfl, fun k => by simp⟩ p (hfree p (.head _))
    rw [hj] at h3
    have h5 : wsF (tx.map fun c => if c = n then 9 else 32) = (cnt', _, nt') := h3
    rw [h5]
    dsimp only
    rw [List.nil_append] at h4
    have hd := List.dropLast_concat_getLast (l := (p :: q :: r).map (·.length)) (by simp)
    have := normL_of (cl := ((p :: q :: r).map (·.length)).dropLast) (b := ((p :: q :: r).map (·.length)).getLast (by simp)) (by simp) h4
    rw [hd, List.map_map] at this
    exact this
theorem lights_of (tx : List Nat) (n : Nat) : lights tx n = 2 * (tx.count n : Int) + 1 := by
  have key : ∀ (l : List Nat) (q : List Int × Int × Int), ((l.map fun c => if c = n then 9 else 32).foldl wsStep q).2.2 = q.2.2 + (l.count n : Int) := by
    intro l
    induction l with
    | nil => intro q; simp
    | cons a r ih =>
      intro q
      rw [List.map_cons, List.foldl_cons, ih, List.count_cons]
      by_cases e : a = n
      · rw [if_pos e]
        subst e
        unfold wsStep
        rw [if_neg (by decide)]
        simp; omega
      · rw [if_neg e]
        unfold wsStep
        rw [if_pos rfl]
        simp [e]
  unfold lights wsF
  rw [key]
  simp
end Mine

end
section
open PySem PySem.W PySem.Calls PyProof.Rows
namespace Mine
/-- the heads as the digits of one number -/
def dig (E i : Nat) : Nat := Nat.mod (Nat.shiftRight E (Nat.mul 8 i)) 256
def put (E i v : Nat) : Nat := Nat.xor E (Nat.shiftLeft (Nat.xor (dig E i) v) (Nat.mul 8 i))
theorem dig_bit (E i j : Nat) : (dig E i).testBit j = (decide (j < 8) && E.testBit (8 * i + j)) := by
  show ((E >>> (8 * i)) % 2 ^ 8).testBit j = _
  rw [Nat.testBit_mod_two_pow, Nat.testBit_shiftRight]
theorem dig_put {E i v k : Nat} (hv : v < 256) : dig (put E i v) k = if k = i then v else dig E k := by
  apply Nat.eq_of_testBit_eq
  intro j
  have hvb : ∀ j, 8 ≤ j → v.testBit j = false := fun j hj => Nat.testBit_lt_two_pow (Nat.lt_of_lt_of_le hv (Nat.pow_le_pow_right (by decide) hj (n := 2)))
  rw [dig_bit]
  show (decide (j < 8) && (E ^^^ ((dig E i ^^^ v) <<< (8 * i))).testBit (8 * k + j)) = _
  rw [Nat.testBit_xor, Nat.testBit_shiftLeft, Nat.testBit_xor, dig_bit]
  by_cases hj : j < 8
  · rw [decide_eq_true hj, Bool.true_and]
    by_cases hk : k = i
    · subst hk
      rw [if_pos rfl, Nat.add_sub_cancel_left, decide_eq_true hj, decide_eq_true (by omega : 8 * k + j ≥ 8 * k)]
      cases E.testBit (8 * k + j) <;> cases v.testBit j <;> rfl
    · rw [if_neg hk, dig_bit, decide_eq_true hj, Bool.true_and]
      rcases Nat.lt_or_ge k i with h | h
      · rw [decide_eq_false (by omega : ¬ 8 * k + j ≥ 8 * i)]; simp
      · rw [hvb _ (by omega), decide_eq_false (by omega : ¬ 8 * k + j - 8 * i < 8)]; simp
  · rw [decide_eq_false hj, Bool.false_and]
    split
    · exact (hvb j (by omega)).symm
    · rw [dig_bit, decide_eq_false hj, Bool.false_and]
/-- the numbers stand for the list -/
def Digs (H : List Int) (E : Nat) : Prop := ∀ i, i < H.length → H.getD i 0 = (dig E i : Int)
def rootG (n E : Nat) : Nat → Nat → Option Nat
  | 0, _ => none
  | f + 1, i => match Nat.ble (Nat.succ i) n with
    | false => none
    | true => match Nat.beq (dig E i) i with
      | true => some i
      | false => rootG n E f (dig E i)
theorem rootG_eq {H : List Int} {E : Nat} (h : Digs H E) : ∀ (f i : Nat) (r : Nat), rootG H.length E f i = some r → root H f (i : Int) = some (r : Int)
  | 0, _, _, h1 => nomatch h1
  | f + 1, i, r, h1 => by
    unfold rootG at h1
    split at h1
    · cases h1
    · next hb =>
      have hi : i < H.length := Nat.le_of_ble_eq_true hb
      unfold root
      rw [if_pos ⟨by omega, by omega⟩, Int.toNat_natCast, h i hi]
      split at h1
      · next hc =>
        have := Nat.eq_of_beq_eq_true hc
        rw [this, if_pos rfl, Option.some.inj h1]
      · next hc =>
        have := Nat.ne_of_beq_eq_false hc
        rw [if_neg (by omega)]
        exact rootG_eq h f _ r h1
def joinsG (place : Nat) : List Nat → Nat → Nat → Option (Nat × Nat)
  | [], E, M => some (E, M)
  | p :: ps, E, M => match Nat.ble p place with
    | false => joinsG place ps E M
    | true => match rootG (Nat.succ place) E 64 place with
      | none => none
      | some one => match rootG (Nat.succ place) E 64 (Nat.sub place p) with
        | none => none
        | some two => match Nat.beq one two with
          | true => joinsG place ps E M
          | false => joinsG place ps (put E one two) (Nat.succ M)
theorem root_lt {n E : Nat} : ∀ (f i r : Nat), rootG n E f i = some r → r < n
  | 0, _, _, h1 => nomatch h1
  | f + 1, i, r, h1 => by
    unfold rootG at h1
    split at h1
    · cases h1
    · next hb =>
      split at h1
      · rw [← Option.some.inj h1]; exact Nat.le_of_ble_eq_true hb
      · exact root_lt f _ r h1
theorem joinsG_eq {place : Nat} (hp : place < 256) : ∀ (ps : List Nat) (H : List Int) (E M E' M' : Nat) (fr : Int), H.length = place + 1 → Digs H E → joinsG place ps E M = some (E', M') → ∃ H' fr', joins (place : Int) (ps.map fun (p : Nat) => (p : Int)) H fr = some (H', fr') ∧ H'.length = place + 1 ∧ Digs H' E' ∧ fr' = fr - ((M' : Int) - M)
  | [], H, E, M, E', M', fr, hl, hd, h => by
    unfold joinsG at h
    cases h
    exact ⟨H, fr, rfl, hl, hd, by omega⟩
  | p :: ps, H, E, M, E', M', fr, hl, hd, h => by
    unfold joinsG at h
    rw [List.map_cons]
    unfold joins
    split at h
    · next hb =>
      have : ¬ p ≤ place := fun hle => by rw [Nat.ble_eq_true_of_le hle] at hb; cases hb
      rw [if_neg (by omega)]
      exact joinsG_eq hp ps H E M E' M' fr hl hd h
    · next hb =>
      have hle := Nat.le_of_ble_eq_true hb
      rw [if_pos (by omega)]
      split at h
      · cases h
      · next one h1 =>
        rw [show Nat.succ place = H.length by omega] at h1
        rw [rootG_eq hd _ _ _ h1]
        split at h
        · cases h
        · next two h2 =>
          rw [show Nat.succ place = H.length by omega] at h2
          have e2 := rootG_eq hd _ _ _ h2
          rw [show ((Nat.sub place p : Nat) : Int) = (place : Int) - (p : Int) from Int.ofNat_sub hle] at e2
          dsimp only
          rw [e2]
          dsimp only
          split at h
          · next hc =>
            have := Nat.eq_of_beq_eq_true hc
            rw [if_pos (by omega)]
            exact joinsG_eq hp ps H E M E' M' fr hl hd h
          · next hc =>
            have := Nat.ne_of_beq_eq_false hc
            have l1 := root_lt _ _ _ h1
            have l2 := root_lt _ _ _ h2
            rw [if_neg (by omega), Int.toNat_natCast]
            obtain ⟨H', fr', g1, g2, g3, g4⟩ := joinsG_eq hp ps (H.set one (two : Int)) (put E one two) (Nat.succ M) E' M' (fr - 1) (by rw [List.length_set]; exact hl) (fun i hi => by
              rw [List.length_set] at hi
              rw [dig_put (by omega)]
              by_cases e : i = one
              · subst e
                rw [if_pos rfl, List.getD_eq_getElem?_getD, List.getElem?_set_self hi]; rfl
              · rw [if_neg e, List.getD_eq_getElem?_getD, List.getElem?_set_ne (fun e' => e e'.symm), ← List.getD_eq_getElem?_getD, hd i hi]) h
            exact ⟨H', fr', g1, g2, g3, by rw [g4]; push_cast; omega⟩
def goG (ps : List Nat) : Nat → Nat → Nat → Nat → Option (Nat × Nat)
  | 0, _, E, M => some (E, M)
  | n + 1, place, E, M => match joinsG place ps (put E place place) M with
    | none => none
    | some (E', M') => goG ps n (Nat.succ place) E' M'
theorem goG_eq (ps : List Nat) : ∀ (n place E M E' M' : Nat) (H K : List Int), place + n ≤ 256 → H.length = place → Digs H E → K.length = place → (K = [] ∧ M = 0 ∨ K.getD (K.length - 1) 0 = (place : Int) - M) → goG ps n place E M = some (E', M') →
    ∃ H' K', (∀ m, kindsF (ps.map fun (p : Nat) => (p : Int)) (n + m) (place : Int) H K = kindsF (ps.map fun (p : Nat) => (p : Int)) m ((place + n : Nat) : Int) H' K') ∧ H'.length = place + n ∧ Digs H' E' ∧ K'.length = place + n ∧ (K' = [] ∧ M' = 0 ∨ K'.getD (K'.length - 1) 0 = ((place + n : Nat) : Int) - M') ∧ ∃ T, K' = K ++ T
  | 0, place, E, M, E', M', H, K, _, hl, hd, hk, hK, h => by
    unfold goG at h
    cases h
    exact ⟨H, K, fun m => by rw [Nat.zero_add, Nat.add_zero], hl, hd, hk, hK, [], by simp⟩
  | n + 1, place, E, M, E', M', H, K, hb, hl, hd, hk, hK, h => by
    unfold goG at h
    split at h
    · cases h
    · next E1 M1 h1 =>
      obtain ⟨H1, fr, g1, g2, g3, g4⟩ := joinsG_eq (by omega : place < 256) ps (H ++ [(place : Int)]) (put E place place) M E1 M1 1 (by simp [hl]) (fun i hi => by
        rw [dig_put (by omega)]
        rw [List.length_append, List.length_singleton] at hi
        by_cases e : i = place
        · subst e
          rw [if_pos rfl, List.getD_eq_getElem?_getD, List.getElem?_append_right (by omega), hl]; simp
        · rw [if_neg e, List.getD_eq_getElem?_getD, List.getElem?_append_left (by omega), ← List.getD_eq_getElem?_getD, hd i (by omega)]) h1
      have hlast : (if K = [] then 0 else K.getD (K.length - 1) 0) + fr = ((Nat.succ place : Nat) : Int) - M1 := by
        rcases hK with ⟨e, e2⟩ | e
        · subst e; subst e2
          have : place = 0 := hk.symm
          rw [if_pos rfl, g4]; push_cast; omega
        · by_cases e0 : K = []
          · subst e0
            have : place = 0 := hk.symm
            subst this
            simp at e
            rw [if_pos rfl, g4]; push_cast; omega
          · rw [if_neg e0, e, g4]; push_cast; omega
      obtain ⟨H', K', f1, f2, f3, f4, f5, T, f6⟩ := goG_eq ps n (Nat.succ place) E1 M1 E' M' H1 (K ++ [(if K = [] then 0 else K.getD (K.length - 1) 0) + fr]) (by omega) (by omega) g3 (by simp [hk]) (.inr (by
        rw [List.length_append, List.length_singleton, Nat.add_sub_cancel, List.getD_eq_getElem?_getD, List.getElem?_append_right (Nat.le_refl _)]
        simpa using hlast)) h
      refine ⟨H', K', fun m => ?_, by omega, f3, by omega, ?_, _, by rw [f6, List.append_assoc]⟩
      · rw [show n + 1 + m = (n + m) + 1 by omega]
        show kindsF (ps.map fun (p : Nat) => (p : Int)) ((n + m) + 1) (place : Int) H K = _
        rw [kindsF, g1]
        dsimp only
        have := f1 m
        rw [show ((Nat.succ place : Nat) : Int) = (place : Int) + 1 by push_cast; omega] at this
        rw [this, show Nat.succ place + n = place + (n + 1) by omega]
      · rw [show Nat.succ place + n = place + (n + 1) by omega] at f5; exact f5
def kindsOk (ps : List Nat) (len : Nat) : Bool := match goG ps len 0 0 0 with
  | none => false
  | some (E, M) => match Nat.beq (Nat.add M 3) len with
    | false => false
    | true => match goG ps 1 len E M with
      | none => false
      | some (_, M') => Nat.beq M' len
theorem kinds_of {ps : List Nat} {len : Nat} (hl : len ≤ 200) (h : kindsOk ps len = true) : ∃ K, kindsF (ps.map fun (p : Nat) => (p : Int)) (len + 1) 0 [] [] = some K ∧ K.drop (K.length - 2) = [3, 1] ∧ K.length = len + 1 := by
  unfold kindsOk at h
  split at h
  · cases h
  · next E M h1 =>
    split at h
    · cases h
    · next hm =>
      have hm := Nat.eq_of_beq_eq_true hm
      split at h
      · cases h
      · next E2 M' h2 =>
        have hM := Nat.eq_of_beq_eq_true h
        obtain ⟨H1, K1, a1, a2, a3, a4, a5, _⟩ := goG_eq ps len 0 0 0 E M [] [] (by omega) rfl (fun i hi => nomatch hi) rfl (.inl ⟨rfl, rfl⟩) h1
        rw [Nat.zero_add] at a1 a2 a4 a5
        obtain ⟨H2, K2, b1, b2, b3, b4, b5, T, b6⟩ := goG_eq ps 1 len E M E2 M' H1 K1 (by omega) a2 a3 a4 a5 h2
        refine ⟨K2, ?_, ?_, b4⟩
        · have := a1 1
          rw [show ((0 : Nat) : Int) = 0 from rfl] at this
          rw [this]
          have := b1 0
          rw [Nat.add_zero] at this
          rw [this]; rfl
        · have hm' : M + 3 = len := hm
          have hT : T.length = 1 := by
            have := congrArg List.length b6
            rw [List.length_append, a4, b4] at this; omega
          match T, hT with
          | [x], _ =>
            have e1 : K1.getD (K1.length - 1) 0 = 3 := by
              rcases a5 with ⟨e, _⟩ | e
              · subst e; simp at a4; omega
              · rw [e]; omega
            have e2 : K2.getD (K2.length - 1) 0 = 1 := by
              rcases b5 with ⟨e, _⟩ | e
              · subst e; simp at b4
              · rw [e]; push_cast; omega
            subst b6
            rw [List.length_append, List.length_singleton, Nat.add_sub_cancel, List.getD_eq_getElem?_getD, List.getElem?_append_right (Nat.le_refl _)] at e2
            have ex : x = 1 := by simpa using e2
            subst ex
            rw [List.length_append, List.length_singleton, show K1.length + 1 - 2 = K1.length - 1 by omega, List.drop_append_of_le_length (by omega)]
            have : K1.drop (K1.length - 1) = [3] := by
              have hlen : K1.length - 1 < K1.length := by omega
              rw [List.drop_eq_getElem_cons hlen, List.drop_of_length_le (by omega)]
              rw [List.getD_eq_getElem?_getD, List.getElem?_eq_getElem hlen] at e1
              simpa using e1
            rw [this]; rfl
end Mine

end
section
open PySem PySem.W PySem.Calls PyProof.Rows
namespace Mine
def idx (c : Nat) : Int := if c = 114 then 0 else if c = 103 then 1 else 2
/-- one light taken down from the end -/
def stepL (p : List Nat) (x : Nat) : Bool :=
  (fun a b c => !(a == 1 && b == 1 && c == 1) && okI a b c && (fun h => okP h && decide (placeOf h = idx x)) (scaleE (hueI a b c))) (perF (p ++ [x])).1 (perF (p ++ [x])).2.1 (perF (p ++ [x])).2.2
theorem perF_snoc (p : List Nat) (x : Nat) : perF (p ++ [x]) = perStep (perF p) x := by unfold perF; rw [List.foldl_append]; rfl
theorem not_ones {a b c : Int} (h : (!(a == 1 && b == 1 && c == 1)) = true) : [a, b, c] ≠ [1, 1, 1] := by
  intro e
  simp only [List.cons.injEq, and_true] at e
  obtain ⟨rfl, rfl, rfl⟩ := e
  simp at h
theorem stepL_eq {p : List Nat} {x : Nat} (hx : Rgb x) (h : stepL p x = true) (f : Nat) (w : List Nat) : lastF (f + 1) (perF (p ++ [x])).1 (perF (p ++ [x])).2.1 (perF (p ++ [x])).2.2 w = lastF f (perF p).1 (perF p).2.1 (perF p).2.2 (x :: w) := by
  unfold stepL at h
  dsimp only at h
  simp only [Bool.and_eq_true, decide_eq_true_eq] at h
  obtain ⟨⟨h1, h2⟩, h3, h4⟩ := h
  have h1 := not_ones h1
  rw [lastF, if_neg h1, if_pos h2, if_pos h3, h4]
  rw [perF_snoc]
  unfold perStep idx
  rcases hx with rfl | rfl | rfl
  · simp only [if_true, Int.add_sub_cancel]
  · simp only [show ((103 : Nat) = 114) = False by simp, show ((1 : Int) = 0) = False by simp, if_true, if_false, Int.add_sub_cancel]
  · simp only [show ((98 : Nat) = 114) = False by simp, show ((98 : Nat) = 103) = False by simp, show ((2 : Int) = 0) = False by simp, show ((2 : Int) = 1) = False by simp, if_false, Int.add_sub_cancel]
inductive LOK : List Nat → Prop
  | nil : LOK []
  | snoc {p : List Nat} {x : Nat} : LOK p → Rgb x → stepL p x = true → LOK (p ++ [x])
theorem LOK.last {w : List Nat} (h : LOK w) : ∀ (f : Nat) (acc : List Nat), w.length < f → lastF f (perF w).1 (perF w).2.1 (perF w).2.2 acc = some (w ++ acc) := by
  induction h with
  | nil =>
    intro f acc hf
    match f, hf with
    | f + 1, _ => rfl
  | snoc hp hx hs ih =>
    intro f acc hf
    match f, hf with
    | f + 1, hf =>
      rw [List.length_append, List.length_singleton] at hf
      rw [stepL_eq hx hs, ih f _ (by omega), List.append_assoc]; rfl
/-- the lights of a word, from its front -/
def lgt : List Nat → Int × Int × Int
  | [] => (1, 1, 1)
  | c :: w => (fun a b d => if c = 114 then (a + b + d, b, d) else if c = 103 then (a, a + b + d, d) else (a, b, a + b + d)) (lgt w).1 (lgt w).2.1 (lgt w).2.2
def rest1 (c : Nat) : List Nat → List Nat
  | [] => []
  | x :: r => if x = c then rest1 c r else x :: r
theorem rest1_eq (c : Nat) : ∀ r : List Nat, ∃ k, r = List.replicate k c ++ rest1 c r ∧ k = r.length - (rest1 c r).length ∧ (rest1 c r).length ≤ r.length
  | [] => ⟨0, rfl, rfl, Nat.le_refl _⟩
  | x :: r => by
    unfold rest1
    split
    · next e =>
      subst e
      obtain ⟨k, h1, h2, h3⟩ := rest1_eq x r
      refine ⟨k + 1, ?_, by rw [List.length_cons]; omega, by rw [List.length_cons]; omega⟩
      rw [List.replicate_succ, List.cons_append, ← h1]
    · exact ⟨0, rfl, by simp, Nat.le_refl _⟩
/-- one run of a letter taken down from the front -/
def stepF : List Nat → Bool
  | [] => true
  | c :: r => (c == 114 || c == 103 || c == 98) && (fun a b d => !(a == 1 && b == 1 && d == 1) && okI a b d && (fun h => okP h && okL a b d && decide (placeOf h = idx c)) (scaleF (hueI a b d)) &&
      (fun g o => bitsOk g o && decide ((g.fdiv o).toNat = r.length + 1 - (rest1 c r).length) && decide ((if idx c = 0 then g.fmod o else a, if idx c = 1 then g.fmod o else b, if idx c = 2 then g.fmod o else d) = lgt (rest1 c r))) (part (idx c) a b d) (a + b + d - part (idx c) a b d))
    (lgt (c :: r)).1 (lgt (c :: r)).2.1 (lgt (c :: r)).2.2
theorem stepF_eq {c : Nat} {r : List Nat} (h : stepF (c :: r) = true) (f : Nat) (w : List Nat) : frontF (f + 1) (lgt (c :: r)).1 (lgt (c :: r)).2.1 (lgt (c :: r)).2.2 w = frontF f (lgt (rest1 c r)).1 (lgt (rest1 c r)).2.1 (lgt (rest1 c r)).2.2 (w ++ List.replicate (r.length + 1 - (rest1 c r).length) c) := by
  unfold stepF at h
  obtain ⟨a, b, d, hq⟩ : ∃ a b d, lgt (c :: r) = (a, b, d) := ⟨_, _, _, rfl⟩
  dsimp only at h
  rw [hq] at h ⊢
  dsimp only at h ⊢
  simp only [Bool.and_eq_true, decide_eq_true_eq, Bool.or_eq_true, beq_iff_eq] at h
  obtain ⟨hc, ⟨⟨h1, h2⟩, ⟨h3, h4⟩, h5⟩, ⟨h6, h7⟩, h8⟩ := h
  have h1 := not_ones h1
  rw [frontF, if_neg h1, if_pos h2, if_pos h3, if_pos h4]
  dsimp only
  rw [h5, if_pos h6, h7, ← h8]
  have : rgbAt (idx c) = c := by rcases hc with (rfl | rfl) | rfl <;> rfl
  rw [this]
theorem rest1_suf (c : Nat) (r : List Nat) : rest1 c r <:+ r := by
  obtain ⟨k, h, _⟩ := rest1_eq c r
  exact ⟨_, h.symm⟩
theorem front_suf {w : List Nat} (hw : ∀ u, u <:+ w → stepF u = true) : ∀ (n : Nat) (u : List Nat), u.length ≤ n → u <:+ w → ∀ (f : Nat) (acc : List Nat), u.length < f → frontF f (lgt u).1 (lgt u).2.1 (lgt u).2.2 acc = some (acc ++ u)
  | _, [], _, _, f, acc, hf => by
    match f, hf with
    | f + 1, _ => rw [List.append_nil]; rfl
  | 0, _ :: _, h, _, _, _, _ => by simp at h
  | n + 1, c :: r, hl, hs, f, acc, hf => by
    match f, hf with
    | f + 1, hf =>
      obtain ⟨k, h1, h2, h3⟩ := rest1_eq c r
      have hs2 : rest1 c r <:+ w := (rest1_suf c r).trans ((List.suffix_cons c r).trans hs)
      rw [List.length_cons] at hl hf
      rw [stepF_eq (hw _ hs), front_suf hw n (rest1 c r) (by omega) hs2 f _ (by omega), List.append_assoc]
      congr 2
      rw [show r.length + 1 - (rest1 c r).length = k + 1 by omega, List.replicate_succ, List.cons_append, ← h1]
theorem starts_eq (x y : Str) : Txt.startswith x y = (decide (y.length ≤ x.length) && x.cps.toList.take y.length == y.cps.toList) := by
  unfold Txt.startswith
  rw [StrLaws.subAt_eq, Nat.zero_add, List.drop_zero]
theorem told_of {tx : List Nat} {p : Nat} (hp : p ≤ tx.length) (h : Fast.lEq (tx.take (Nat.sub tx.length p)) (tx.drop p) = true) : told tx (p : Int) = true := by
  have h := Fast.lEq_iff.mp h
  have hl : (S (tx.drop p)).length = tx.length - p := by rw [S_len, List.length_drop]
  unfold told
  rw [decide_eq_true (by omega : (0 : Int) ≤ (p : Int)), decide_eq_true (by omega : (p : Int) ≤ (tx.length : Int)), Int.toNat_natCast, starts_eq, hl, S_len, S_list, S_list, decide_eq_true (by omega : tx.length - p ≤ tx.length), Bool.true_and, Bool.true_and, Bool.true_and]
  exact beq_iff_eq.mpr h
/-- what is asked of a word, evaluated -/
noncomputable def chkW (wl : List Nat) : Bool :=
  (fun (tx : List Nat) (a b c : Int) (p q r : Nat) => Fast.lEq (woven wl.reverse) tx && Nat.ble tx.length 190 && tx.all (fun c => Nat.beq c 114 || Nat.beq c 103 || Nat.beq c 98) && tx.elem 114 && tx.elem 103 && tx.elem 98 &&
    decide (2 * (tx.count 114 : Int) + 1 = a) && decide (2 * (tx.count 103 : Int) + 1 = b) && decide (2 * (tx.count 98 : Int) + 1 = c) &&
    decide (perF wl = ((p : Int), (q : Int), (r : Int))) && Nat.beq (2 * tx.length + 3) (p + q + r) &&
    Nat.ble p tx.length && Nat.ble q tx.length && Nat.ble r tx.length && Fast.lEq (tx.take (Nat.sub tx.length p)) (tx.drop p) && Fast.lEq (tx.take (Nat.sub tx.length q)) (tx.drop q) && Fast.lEq (tx.take (Nat.sub tx.length r)) (tx.drop r) && kindsOk [p, q, r] tx.length)
  (mirrored wl) (lgt wl).1 (lgt wl).2.1 (lgt wl).2.2 (perF wl).1.toNat (perF wl).2.1.toNat (perF wl).2.2.toNat
structure Good (wl : List Nat) : Prop where
  rgb : ∀ c ∈ wl, Rgb c
  wov : woven wl.reverse = mirrored wl
  len : (mirrored wl).length ≤ 190
  plain : ∀ c ∈ mirrored wl, Rgb c
  spl : ∀ c, Rgb c → 2 ≤ (Txt.split (S (mirrored wl)) ⟨#[c]⟩).length
  nl : ∀ c, Rgb c → normL ((Txt.split (S (mirrored wl)) ⟨#[c]⟩).map fun p => (p.length : Int)) = ((wsF ((mirrored wl).map fun x => if x = c then 9 else 32)).1, (wsF ((mirrored wl).map fun x => if x = c then 9 else 32)).2.1)
  fro : frontF 7 (lights (mirrored wl) 114) (lights (mirrored wl) 103) (lights (mirrored wl) 98) [] = some wl
  lst : lastF 7 (perF wl).1 (perF wl).2.1 (perF wl).2.2 [] = some wl
  sum : 2 * ((mirrored wl).length : Int) + 3 = (perF wl).1 + (perF wl).2.1 + (perF wl).2.2
  tol : ∀ p, p = (perF wl).1 ∨ p = (perF wl).2.1 ∨ p = (perF wl).2.2 → told (mirrored wl) p = true
  kin : ∃ K, kindsF [(perF wl).1, (perF wl).2.1, (perF wl).2.2] ((mirrored wl).length + 1) 0 [] [] = some K ∧ K.drop (K.length - 2) = [3, 1] ∧ K.length ≤ 1000
theorem chkN_open {tx : List Nat} {n : Nat} (h : chkN tx n = true) : 2 ≤ (Txt.split (S tx) ⟨#[n]⟩).length ∧ normL ((Txt.split (S tx) ⟨#[n]⟩).map fun p => (p.length : Int)) = ((wsF (tx.map fun x => if x = n then 9 else 32)).1, (wsF (tx.map fun x => if x = n then 9 else 32)).2.1) := by
  unfold chkN at h
  dsimp only at h
  simpa only [Bool.and_eq_true, decide_eq_true_eq] using h
theorem good_of {wl : List Nat} (h : chkW wl = true) (hr : ∀ c ∈ wl, Rgb c) (hlen : wl.length ≤ 6) (hL : LOK wl) (hF : ∀ u, u <:+ wl → stepF u = true) : Good wl := by
  unfold chkW at h
  simp only [Bool.and_eq_true, decide_eq_true_eq] at h
  obtain ⟨⟨⟨⟨⟨⟨⟨⟨⟨⟨⟨⟨⟨⟨⟨⟨⟨h1, h2⟩, h3⟩, e1⟩, e2⟩, e3⟩, c1⟩, c2⟩, c3⟩, hp⟩, hs⟩, l1⟩, l2⟩, l3⟩, t1⟩, t2⟩, t3⟩, hk⟩ := h
  generalize (perF wl).1.toNat = p at *
  generalize (perF wl).2.1.toNat = q at *
  generalize (perF wl).2.2.toNat = r at *
  have hwov := Fast.lEq_iff.mp h1
  have hsm := Nat.eq_of_beq_eq_true hs
  have hle := Nat.le_of_ble_eq_true h2
  have hin : ∀ c, Rgb c → c ∈ mirrored wl := by
    rintro c (rfl | rfl | rfl)
    · exact List.elem_iff.mp e1
    · exact List.elem_iff.mp e2
    · exact List.elem_iff.mp e3
  obtain ⟨K, k1, k2, k3⟩ := kinds_of (by omega) hk
  refine ⟨hr, hwov, hle, fun c hc => ?_, fun c hc => (chkN_open (chkN_of (hin c hc))).1, fun c hc => (chkN_open (chkN_of (hin c hc))).2, ?_, ?_, ?_, ?_, K, ?_, k2, ?_⟩
  · have := List.all_eq_true.mp h3 c hc
    simp only [Bool.or_eq_true] at this
    rcases this with (h | h) | h
    · exact .inl (Nat.eq_of_beq_eq_true h)
    · exact .inr (.inl (Nat.eq_of_beq_eq_true h))
    · exact .inr (.inr (Nat.eq_of_beq_eq_true h))
  · rw [lights_of, lights_of, lights_of, c1, c2, c3]
    exact front_suf hF _ wl (Nat.le_refl _) (List.suffix_refl _) 7 [] (by omega)
  · rw [hL.last 7 [] (by omega), List.append_nil]
  · rw [hp]
    dsimp only
    omega
  · rw [hp]
    rintro p' (rfl | rfl | rfl)
    · exact told_of (Nat.le_of_ble_eq_true l1) t1
    · exact told_of (Nat.le_of_ble_eq_true l2) t2
    · exact told_of (Nat.le_of_ble_eq_true l3) t3
  · rw [hp]; exact k1
  · rw [k3]; omega
theorem head_in : ∀ a ∈ letters, ∀ b ∈ letters, ∀ c ∈ letters, [a] ∈ heads ∧ [a, b] ∈ heads ∧ [a, b, c] ∈ heads := by decide +kernel
theorem heads_are {h : List Nat} (hh : h ∈ heads) : h = [] ∨ (∃ a ∈ letters, h = [a]) ∨ (∃ a ∈ letters, ∃ b ∈ letters, h = [a, b]) ∨ (∃ a ∈ letters, ∃ b ∈ letters, ∃ c ∈ letters, h = [a, b, c]) := by
  unfold heads at hh
  simp only [List.mem_append, List.mem_singleton, List.mem_map, List.mem_flatMap] at hh
  rcases hh with ((h | ⟨a, ha, rfl⟩) | ⟨a, ha, b, hb, rfl⟩) | ⟨a, ha, b, hb, c, hc, rfl⟩
  · exact .inl h
  · exact .inr (.inl ⟨a, ha, rfl⟩)
  · exact .inr (.inr (.inl ⟨a, ha, b, hb, rfl⟩))
  · exact .inr (.inr (.inr ⟨a, ha, b, hb, c, hc, rfl⟩))
def pairs : List (Nat × Nat) := [(114, 103), (114, 98), (103, 114), (103, 98), (98, 114), (98, 103)]
theorem orders_are {o : List Nat} (ho : o ∈ orders) : ∃ x y z, o = [x, y, z] ∧ x ∈ letters ∧ y ∈ letters ∧ z ∈ letters ∧ (x, y) ∈ pairs ∧ (y, z) ∈ pairs := by
  have : ∀ o ∈ orders, o = [o.getD 0 0, o.getD 1 0, o.getD 2 0] ∧ o.getD 0 0 ∈ letters ∧ o.getD 1 0 ∈ letters ∧ o.getD 2 0 ∈ letters ∧ (o.getD 0 0, o.getD 1 0) ∈ pairs ∧ (o.getD 1 0, o.getD 2 0) ∈ pairs := by decide +kernel
  obtain ⟨h1, h2⟩ := this o ho
  exact ⟨_, _, _, h1, h2⟩
theorem rgb_of {c : Nat} (h : c ∈ letters) : Rgb c := by
  unfold letters at h
  simpa [Rgb] using h
def heads3 : List (List Nat) := letters.flatMap fun a => letters.flatMap fun b => letters.map fun c => [a, b, c]
theorem heads3_in {a b c : Nat} (ha : a ∈ letters) (hb : b ∈ letters) (hc : c ∈ letters) : [a, b, c] ∈ heads3 := by
  unfold heads3
  simp only [List.mem_flatMap, List.mem_map]
  exact ⟨a, ha, b, hb, c, hc, rfl⟩
theorem tabL4a : ((heads.take 20).all fun p => letters.all fun x => stepL p x) = true := by decide +kernel
theorem tabL4b : ((heads.drop 20).all fun p => letters.all fun x => stepL p x) = true := by decide +kernel
theorem tabL5a : ((heads3.take 14).all fun p => pairs.all fun q => stepL (p ++ [q.1]) q.2) = true := by decide +kernel
theorem tabL5b : ((heads3.drop 14).all fun p => pairs.all fun q => stepL (p ++ [q.1]) q.2) = true := by decide +kernel
theorem tabL6a : ((heads3.take 14).all fun p => orders.all fun o => stepL (p ++ o.take 2) (o.getD 2 0)) = true := by decide +kernel
theorem tabL6b : ((heads3.drop 14).all fun p => orders.all fun o => stepL (p ++ o.take 2) (o.getD 2 0)) = true := by decide +kernel
theorem tabFa : ((heads.take 20).take 10).all (fun h => orders.all fun o => stepF (h ++ o)) = true := by decide +kernel
theorem tabFb : ((heads.take 20).drop 10).all (fun h => orders.all fun o => stepF (h ++ o)) = true := by decide +kernel
theorem tabFc : ((heads.drop 20).take 10).all (fun h => orders.all fun o => stepF (h ++ o)) = true := by decide +kernel
theorem tabFd : ((heads.drop 20).drop 10).all (fun h => orders.all fun o => stepF (h ++ o)) = true := by decide +kernel
theorem tabF2 : (orders.all fun o => stepF (o.drop 1) && stepF (o.drop 2)) = true := by decide +kernel
theorem tabW1 : ((heads.take 14).all fun h => orders.all fun o => chkW (h ++ o)) = true := by decide +kernel
theorem tabW2 : (((heads.drop 14).take 9).all fun h => orders.all fun o => chkW (h ++ o)) = true := by decide +kernel
theorem tabW3 : (((heads.drop 23).take 9).all fun h => orders.all fun o => chkW (h ++ o)) = true := by decide +kernel
theorem tabW4 : ((heads.drop 32).all fun h => orders.all fun o => chkW (h ++ o)) = true := by decide +kernel
end Mine

end
section
open PySem PySem.W PySem.Calls PyProof.Rows
namespace Mine
theorem half {α : Type} {p : α → Prop} {n : Nat} {l : List α} (h1 : ∀ x ∈ l.take n, p x) (h2 : ∀ x ∈ l.drop n, p x) : ∀ x ∈ l, p x := fun x hx => by
  rw [← List.take_append_drop n l] at hx
  exact (List.mem_append.mp hx).elim (h1 x) (h2 x)
theorem all2 {α β : Type} {l : List α} {m : List β} {p : α → β → Bool} (h : (l.all fun x => m.all fun y => p x y) = true) : ∀ x ∈ l, ∀ y ∈ m, p x y = true :=
  fun x hx y hy => List.all_eq_true.mp (List.all_eq_true.mp h x hx) y hy
theorem chkW_all : ∀ h ∈ heads, ∀ o ∈ orders, chkW (h ++ o) = true := by
  refine half (n := 14) (all2 tabW1) (half (n := 9) (all2 tabW2) ?_)
  rw [List.drop_drop]
  refine half (n := 9) (all2 tabW3) ?_
  rw [List.drop_drop]
  exact all2 tabW4
theorem stepF_all : ∀ h ∈ heads, ∀ o ∈ orders, stepF (h ++ o) = true := half (n := 20) (half (n := 10) (all2 tabFa) (all2 tabFb)) (half (n := 10) (all2 tabFc) (all2 tabFd))
theorem stepL4 : ∀ p ∈ heads, ∀ x ∈ letters, stepL p x = true := half (n := 20) (all2 tabL4a) (all2 tabL4b)
theorem stepL5 : ∀ p ∈ heads3, ∀ q ∈ pairs, stepL (p ++ [q.1]) q.2 = true := half (n := 14) (all2 tabL5a) (all2 tabL5b)
theorem stepL6 : ∀ p ∈ heads3, ∀ o ∈ orders, stepL (p ++ o.take 2) (o.getD 2 0) = true := half (n := 14) (all2 tabL6a) (all2 tabL6b)
theorem head_ok {h : List Nat} (hh : h ∈ heads) : LOK h := by
  have s := stepL4
  have e0 : ([] : List Nat) ∈ heads := by decide
  have k1 : ∀ a ∈ letters, LOK [a] := fun a ha => LOK.snoc (p := []) .nil (rgb_of ha) (s [] e0 a ha)
  have k2 : ∀ a ∈ letters, ∀ b ∈ letters, LOK [a, b] := fun a ha b hb => LOK.snoc (p := [a]) (k1 a ha) (rgb_of hb) (s [a] (head_in a ha a ha a ha).1 b hb)
  rcases heads_are hh with rfl | ⟨a, ha, rfl⟩ | ⟨a, ha, b, hb, rfl⟩ | ⟨a, ha, b, hb, c, hc, rfl⟩
  · exact .nil
  · exact k1 a ha
  · exact k2 a ha b hb
  · exact LOK.snoc (p := [a, b]) (k2 a ha b hb) (rgb_of hc) (s [a, b] (head_in a ha b hb b hb).2.1 c hc)
theorem word_ok {h o : List Nat} (hh : h ∈ heads) (ho : o ∈ orders) : LOK (h ++ o) := by
  obtain ⟨x, y, z, rfl, hx, hy, hz, hp1, hp2⟩ := orders_are ho
  have s := stepL4
  have s5p : ∀ p ∈ heads3, ∀ x y, (x, y) ∈ pairs → stepL (p ++ [x]) y = true := fun p hp x y hq => stepL5 p hp (x, y) hq
  have k1 : LOK (h ++ [x]) := LOK.snoc (head_ok hh) (rgb_of hx) (s h hh x hx)
  have s2 : stepL (h ++ [x]) y = true := by
    rcases heads_are hh with rfl | ⟨a, ha, rfl⟩ | ⟨a, ha, b, hb, rfl⟩ | ⟨a, ha, b, hb, c, hc, rfl⟩
    · exact s [x] (head_in x hx x hx x hx).1 y hy
    · exact s [a, x] (head_in a ha x hx x hx).2.1 y hy
    · exact s [a, b, x] (head_in a ha b hb x hx).2.2 y hy
    · exact s5p _ (heads3_in ha hb hc) x y hp1
  have k2 : LOK ((h ++ [x]) ++ [y]) := LOK.snoc k1 (rgb_of hy) s2
  have s3 : stepL ((h ++ [x]) ++ [y]) z = true := by
    rcases heads_are hh with rfl | ⟨a, ha, rfl⟩ | ⟨a, ha, b, hb, rfl⟩ | ⟨a, ha, b, hb, c, hc, rfl⟩
    · exact s [x, y] (head_in x hx y hy y hy).2.1 z hz
    · exact s [a, x, y] (head_in a ha x hx y hy).2.2 z hz
    · have e : ([a, b] ++ [x]) ++ [y] = [a, b, x] ++ [y] := rfl
      rw [e]
      exact s5p [a, b, x] (heads3_in ha hb hx) y z hp2
    · have e : ([a, b, c] ++ [x]) ++ [y] = [a, b, c] ++ [x, y] := rfl
      rw [e]
      exact stepL6 [a, b, c] (heads3_in ha hb hc) [x, y, z] ho
  have k3 := LOK.snoc k2 (rgb_of hz) s3
  rwa [List.append_assoc, List.append_assoc] at k3
theorem suf_app {α : Type} : ∀ {u h o : List α}, u <:+ h ++ o → u <:+ o ∨ ∃ h', h' <:+ h ∧ u = h' ++ o
  | u, [], o, hs => .inl hs
  | u, a :: h, o, hs => by
    rw [List.cons_append] at hs
    rcases List.suffix_cons_iff.mp hs with e | hs
    · exact .inr ⟨a :: h, List.suffix_refl _, e⟩
    · rcases suf_app hs with h1 | ⟨h', h1, h2⟩
      · exact .inl h1
      · exact .inr ⟨h', h1.trans (List.suffix_cons a h), h2⟩
theorem suf_head {h h' : List Nat} (hh : h ∈ heads) (hs : h' <:+ h) : h' ∈ heads := by
  have e0 : ([] : List Nat) ∈ heads := by decide
  have s0 : ∀ {l : List Nat}, l <:+ [] → l ∈ heads := fun hl => by rw [List.suffix_nil.mp hl]; exact e0
  have s1 : ∀ {l : List Nat} {a : Nat}, a ∈ letters → l <:+ [a] → l ∈ heads := fun {l a} ha hl => by
    rcases List.suffix_cons_iff.mp hl with e | h1
    · rw [e]; exact (head_in a ha a ha a ha).1
    · exact s0 h1
  have s2 : ∀ {l : List Nat} {a b : Nat}, a ∈ letters → b ∈ letters → l <:+ [a, b] → l ∈ heads := fun {l a b} ha hb hl => by
    rcases List.suffix_cons_iff.mp hl with e | h1
    · rw [e]; exact (head_in a ha b hb b hb).2.1
    · exact s1 hb h1
  rcases heads_are hh with rfl | ⟨a, ha, rfl⟩ | ⟨a, ha, b, hb, rfl⟩ | ⟨a, ha, b, hb, c, hc, rfl⟩
  · exact s0 hs
  · exact s1 ha hs
  · exact s2 ha hb hs
  · rcases List.suffix_cons_iff.mp hs with e | h1
    · rw [e]; exact (head_in a ha b hb c hc).2.2
    · exact s2 hb hc h1
theorem word_suf {h o : List Nat} (hh : h ∈ heads) (ho : o ∈ orders) : ∀ u, u <:+ h ++ o → stepF u = true := by
  intro u hu
  rcases suf_app hu with h1 | ⟨h', h1, rfl⟩
  · have t2 := List.all_eq_true.mp tabF2 o ho
    have t3 := stepF_all [] (by decide) o ho
    obtain ⟨x, y, z, rfl, _⟩ := orders_are ho
    rw [Bool.and_eq_true] at t2
    rcases List.suffix_cons_iff.mp h1 with rfl | h1
    · exact t3
    · rcases List.suffix_cons_iff.mp h1 with rfl | h1
      · exact t2.1
      · rcases List.suffix_cons_iff.mp h1 with rfl | h1
        · exact t2.2
        · rw [List.suffix_nil.mp h1]; rfl
  · exact stepF_all h' (suf_head hh h1) o ho
theorem good_all {h o : List Nat} (hh : h ∈ heads) (ho : o ∈ orders) : Good (h ++ o) := by
  have hl : (h ++ o).length ≤ 6 ∧ ∀ c ∈ h ++ o, Rgb c := by
    obtain ⟨x, y, z, rfl, hx, hy, hz, _⟩ := orders_are ho
    rcases heads_are hh with rfl | ⟨a, ha, rfl⟩ | ⟨a, ha, b, hb, rfl⟩ | ⟨a, ha, b, hb, c, hc, rfl⟩ <;> refine ⟨by simp, fun c hc => rgb_of ?_⟩ <;> simp at hc <;> rcases hc with rfl | hc <;> (try assumption) <;> rcases hc with rfl | hc <;> (try assumption) <;> rcases hc with rfl | hc <;> (try assumption) <;> rcases hc with rfl | hc <;> (try assumption) <;> rcases hc with rfl | hc <;> (try assumption) <;> (subst hc; assumption)
  exact good_of (chkW_all h hh o ho) hl.2 hl.1 (word_ok hh ho) (word_suf hh ho)
end Mine

end
section
open PySem PySem.W PySem.Calls PyProof.Rows PyProof.V PySem.Spec
namespace Mine
section
variable {prog : Program} {w : World} {A : Around} {E : Value → Shared → Prop} {s : Shared} {h₀ : Heap} {L : Addr} {m : Str → Option Value} {env : Env}
theorem Assign_ListComp_Tx {elt iter : PySem.Expr} {x y : Str} {px py : Pos} {scope : Scope} {cl : List (Str × Addr)} {pos spos : Pos} {Q : Flow → Shared → Prop} (_F₀ : Fr h₀ L s.heap m) (hLe : env.locals = L)
    (hsw : swapsWith (.ListComp elt [⟨.Name x px, iter, [], 0⟩] scope pos) (some (.Name y py)) spos.line env = pure true)
    (hclos : closureFor scope env = pure cl) (hcell : ∀ z ∈ scope.names, z.2 ≠ .cell) (hkind : scope.kind = .function)
    (hnames : ∀ z ∈ scope.names, z.2 = .local → scope.names.lookup z.1 = some .local) (hx : scope.names.lookup x = some .local)
    (hy : env.kindOf y = some .local) (hp : (env.scope.kind == .class || (env.scope.kind == .module && env.locals != env.globals)) = false)
    (hs : ∀ x, foldedSetIterable iter env x = pure x)
    (h : wpAny (model prog w) A (eval iter env) (SrcText prog w A h₀ L m env elt x scope cl (fun s₂ => LCg.FinA h₀ L m s₂ y Q)) E s) :
    wpAny (model prog w) A (exec (.Assign [.Name y py] (.ListComp elt [⟨.Name x px, iter, [], 0⟩] scope pos) spos) env) Q E s := by
  subst hLe
  rw [exec_Assign_Name_used _ _ _ _ hsw]
  refine wpAny_bind (wpAny_standAt (wpAny_bind ?_))
  show wpAny _ A (do let _ ← comprehension (.ListComp elt [⟨.Name x px, iter, [], 0⟩] scope pos) scope env _ (newList []) false (eval iter env) (some (assign (.Name y py) env))) _ _ s
  refine wpAny_bind (wpAny_mono (wpAny_comprehension_free (use := some (assign (.Name y py) env)) (Q := fun _ s' => Q .next s') rfl hs hclos hkind hnames
    (wpAny_mono h (fun xv s₁ h₁ => ?_) fun _ _ e => e)) (fun _ s' hq => wpAny_pure (wpAny_pure hq)) fun _ _ e => e)
  obtain ⟨xt, tx, news, rfl, hh, F, N, hsz, R⟩ := h₁
  refine iter_text2 fun o St hW hI hst => ?_
  have W := hW A hh
  have up : ∀ b o', s₁.heap.get? b = some o' → (s₁.heap.push o).get? b = some o' := fun b o' e => Heap.get?_push_of_some _ e
  refine LCg.block_U W hsz hI (fun i h h' o' nw st e e' _ _ _ => W.frame _ _ _ st fun b hb o'' e'' => by
      rw [List.mem_singleton.mp hb] at e'' ⊢
      rw [e] at e''; cases e''; exact e') hcell hkind hx hst (fun b hb => ?_)
    (F.keeps up) (N.grown up) (Nat.ne_of_lt F.ns.lt) (next_is_new F) (fun p hp => Nat.ne_of_lt (Heap.lt_size (N p hp).1)) trivial (R _) ?_
  · rw [List.mem_singleton.mp hb]
    show s₁.heap.objs.size < (s₁.heap.push _).objs.size
    rw [Heap.size_push]; exact Nat.lt_succ_self _
  · intro D C h' tk m' ys news' F' N' o1 hn hC₀ hD₀ hCL hDL hCD offC fin
    show wpAny _ A (assign (.Name y py) env (.ref D)) _ _ _
    refine wpAny_assign_Name (wpAny_storeName_local hy F'.ns (fun h₂ hn₂ hs₂ => ?_) hp)
    have hL₀ : h₀.get? env.locals = none := Heap.get?_none_of_le F'.above
    have F₂ : Fr h₀ env.locals h₂ (fun z => if z = y then some (.ref D) else m z) := ⟨hn₂, fun b o e => hs₂.extBut b o (fun q => by rw [q, hL₀] at e; cases e) (F'.keep b o e), F'.above⟩
    refine ⟨m', hn.sameBut hs₂ hCL, fun h'' hs'' => fin D h'' _ (F₂.change hs'' hCL hC₀) (fun p hp => ?_) o1⟩
    have z : h₂.get? p.1 = some p.2 := hs₂.extBut _ _ (N' p hp).2.1 (N' p hp).1
    refine ⟨hs''.extBut _ _ ?_ z, (N' p hp).2⟩
    rcases List.mem_cons.mp hp with rfl | hp
    · exact Ne.symm hCD
    · exact offC p hp
/-- three turns, each of which lays a block of its own into the ledger -/
theorem rest_three {elt : PySem.Expr} {x : Str} {scope : Scope} {cl : List (Str × Addr)} {P : Nat → Value → Prop} {Fin : List Value → List (Addr × Obj) → Prop} {news : List (Addr × Obj)} (G : Nat → Value → List (Addr × Obj) → Prop)
    (turn : ∀ i v nx I oI C oC D m₂ ys h tk (E' : Value → Shared → Prop), P i v → LCg.NsObj oC m₂ → m₂ x = some v → Fr h₀ L h m → News h₀ L h ((I, oI) :: (C, oC) :: (D, LCg.lst ys) :: (news ++ nx)) → LCg.Off3 I C D (news ++ nx) → ((@Ne Nat I C) ∧ (@Ne Nat I D) ∧ (@Ne Nat C D)) →
      wpAny (model prog w) A (eval elt (compEnvC scope cl C env)) (fun y s₂ => ∃ h' tk' tl, s₂ = { s with heap := h', toks := tk' } ∧ Fr h₀ L h' m ∧ News h₀ L h' (tl ++ ((I, oI) :: (C, oC) :: (D, LCg.lst ys) :: (news ++ nx))) ∧ (∀ p ∈ tl, ∀ q ∈ (I, oI) :: (C, oC) :: (D, LCg.lst ys) :: (news ++ nx), p.1 ≠ q.1) ∧ G i y tl) E' { s with heap := h, toks := tk })
    (fin : ∀ y0 y1 y2 b0 b1 b2, G 0 y0 b0 → G 1 y1 b1 → G 2 y2 b2 → Fin [y0, y1, y2] (news ++ (b2 ++ (b1 ++ (b0 ++ []))))) :
    LCg.CompRest prog w A h₀ L m env elt x scope cl s (fun _ => True) P Fin 3 0 [] news := by
  have step : ∀ (j i : Nat) (ys : List Value) (nx : List (Addr × Obj)), (∀ y b, G i y b → LCg.CompRest prog w A h₀ L m env elt x scope cl s (fun _ => True) P Fin j (i + 1) (ys ++ [y]) (news ++ (b ++ nx))) →
      LCg.CompRest prog w A h₀ L m env elt x scope cl s (fun _ => True) P Fin (j + 1) i ys (news ++ nx) := by
    intro j i ys nx hk
    refine LCg.CompRest.succ ?_
    intro v I oI C oC D m₂ h tk E' hv hC hx F N off ne
    refine wpAny_mono (turn i v nx I oI C oC D m₂ ys h tk E' hv hC hx F N off ne) (fun y s₂ hq => ?_) fun _ _ e => e
    obtain ⟨h', tk', tl, e, F', N', hoff, hg⟩ := hq
    refine ⟨h', tk', _, e, F', fun p hp => N' p ?_, LCg.Off3.of fun p hp => ?_, trivial, hk y tl hg⟩
    · simp only [List.mem_append, List.mem_cons] at hp ⊢
      grind
    · rcases List.mem_append.mp hp with h1 | h1
      · exact off.mem p (List.mem_append_left _ h1)
      · rcases List.mem_append.mp h1 with h1 | h1
        · exact ⟨hoff p h1 _ (.head _), hoff p h1 _ (.tail _ (.head _)), hoff p h1 _ (.tail _ (.tail _ (.head _)))⟩
        · exact off.mem p (List.mem_append_right _ h1)
  have h0 := step 2 0 [] [] fun y0 b0 g0 => step 1 1 _ _ fun y1 b1 g1 => step 0 2 _ _ fun y2 b2 g2 => LCg.CompRest.zero (fin y0 y1 y2 b0 b1 b2 g0 g1 g2)
  rw [List.append_nil] at h0
  exact h0
/-- the turns of a comprehension whose condition always holds, and whose elements leave the ledger as it was -/
theorem rest_genT {ct elt : PySem.Expr} {x : Str} {scope : Scope} {cl : List (Str × Addr)} {S' : List (Addr × Obj) → Prop} {P : Nat → Value → Prop} {Fin : List Value → List (Addr × Obj) → Prop} {news : List (Addr × Obj)} {n : Nat} (G : Nat → Value → Prop)
    (turn : ∀ i v I oI C oC D m₂ ys h tk (E' : Value → Shared → Prop), i < n → P i v → LCg.NsObj oC m₂ → m₂ x = some v → Fr h₀ L h m → News h₀ L h ((I, oI) :: (C, oC) :: (D, LCg.lst ys) :: news) → LCg.Off3 I C D news → ((@Ne Nat I C) ∧ (@Ne Nat I D) ∧ (@Ne Nat C D)) →
      wpAny (model prog w) A (isTrue ct (compEnvC scope cl C env) (eval ct (compEnvC scope cl C env))) (fun ok s' => if ok = true then
        wpAny (model prog w) A (eval elt (compEnvC scope cl C env)) (LCg.CompEnd h₀ L m { s with heap := h, toks := tk } I oI C oC D (LCg.lst ys) S' (fun y news' => news' = news ∧ G i y)) E' s' else False) E' { s with heap := h, toks := tk })
    (fin : ∀ ys : List Value, ys.length = n → (∀ i y, ys[i]? = some y → G i y) → Fin ys news) :
    LCt.CompRestT prog w A h₀ L m env ct elt x scope cl s S' P Fin n 0 [] news := by
  have key : ∀ (j i : Nat) (ys : List Value), i + j = n → ys.length = i → (∀ k y, ys[k]? = some y → G k y) → LCt.CompRestT prog w A h₀ L m env ct elt x scope cl s S' P Fin j i ys news := by
    intro j
    induction j with
    | zero => intro i ys hi hl hy; exact LCt.CompRestT.zero (fin ys (by omega) hy)
    | succ j ih =>
      intro i ys hi hl hy
      refine LCt.CompRestT.succ ?_
      intro v I oI C oC D m₂ h tk E' hv hC hx F N off ne
      refine wpAny_mono (turn i v I oI C oC D m₂ ys h tk E' (by omega) hv hC hx F N off ne) (fun ok s₁ ht => ?_) fun _ _ e => e
      cases ok with
      | false => exact ht.elim
      | true =>
        simp only [if_true] at ht ⊢
        refine wpAny_mono ht (fun y s₂ hq => ?_) fun _ _ e => e
        obtain ⟨h', tk', nw, e, F', N', off', hS, hn, hg⟩ := hq
        subst hn
        refine ⟨h', tk', _, e, F', N', off', hS, ih (i + 1) _ (by omega) (by rw [List.length_append, hl]; rfl) ?_⟩
        intro k y' hk
        by_cases hki : k < ys.length
        · rw [List.getElem?_append_left hki] at hk; exact hy k y' hk
        · rw [List.getElem?_append_right (by omega)] at hk
          have hk0 : k - ys.length = 0 := by
            rcases Nat.eq_zero_or_pos (k - ys.length) with h | h
            · exact h
            · rw [List.getElem?_eq_none (by simp; omega)] at hk; cases hk
          rw [hk0] at hk
          cases hk
          have : k = i := by omega
          exact this ▸ hg
  exact key n 0 [] (by omega) rfl (fun k y h => by simp at h)
end
end Mine

end
section
open PySem PySem.W PySem.Calls PyProof.Rows
namespace Mine
theorem at_sign {R : Nat → Value → List (Addr × Obj) → Prop} {i c : Nat} {v : Value} {tl : List (Addr × Obj)} (h : ∃ c, (Str.ofString "rgb").cps.toList[i]? = some c ∧ R c v tl) (hc : (Str.ofString "rgb").cps.toList[i]? = some c) : R c v tl := by
  obtain ⟨d, hd, hr⟩ := h
  rw [hc] at hd
  cases hd
  exact hr
theorem three_cases {α : Type} {a b c v : α} {i : Nat} (h : (#[a, b, c] : Array α)[i]? = some v) : (i = 0 ∧ v = a) ∨ (i = 1 ∧ v = b) ∨ (i = 2 ∧ v = c) := by
  match i, h with
  | 0, h => simp at h; exact .inl ⟨rfl, h.symm⟩
  | 1, h => simp at h; exact .inr (.inl ⟨rfl, h.symm⟩)
  | 2, h => simp at h; exact .inr (.inr ⟨rfl, h.symm⟩)
  | n + 3, h => simp at h
theorem rgb_get {i c : Nat} (h : (Str.ofString "rgb").cps[i]? = some c) : Rgb c := by
  rcases three_cases (a := 114) (b := 103) (c := 98) h with ⟨_, e⟩ | ⟨_, e⟩ | ⟨_, e⟩
  · exact .inl e
  · exact .inr (.inl e)
  · exact .inr (.inr e)
def ndat (c : List Int) (b : Int) : PyData := .tuple [.tuple (c.map PyData.int), .int b]
theorem read_norm {h₀ h : Heap} {L T1 T2 : Addr} {news : List (Addr × Obj)} {ys : List Value} {cnt : List Int} {b : Int} {tb : Tok} (N : News h₀ L h news) (h2 : (T2, ({ cls := .type "tuple", data := .seq #[.ref T1, .int b tb] } : Obj)) ∈ news)
    (h1 : (T1, ({ cls := .type "tuple", data := .seq ys.toArray } : Obj)) ∈ news) (hI : IntsAre ys cnt) : Reads h (.ref T2) (ndat cnt b) [] :=
  reads_tuple_at (N _ h2).1 rfl rfl (ReadsAll.cons (reads_tuple_at (N _ h1).1 rfl rfl (readsAll_of_ints hI)) (ReadsAll.cons (Reads.int _ _) ReadsAll.nil))
theorem ndat_shaped (a b c : List Int) (x y z : Int) : SeqAt.shaped (.list [ndat a x, ndat b y, ndat c z]) = true := by
  simp [ndat, SeqAt.shaped, PyData.canLay0, PyData.canLayAll0, PyData.depth, PyData.depthAll, ke_canLayAll0, ke_depthAll]
theorem ne_norms {prog : Program} {w : World} {A : Around} {E : Value → Shared → Prop} {s : Shared} {Q : Value → Shared → Prop} {h₀ : Heap} {L D1 D2 : Addr} {news : List (Addr × Obj)} {p0 p1 p2 q0 q1 q2 : Value} {a b c : List Int} {x y z : Int} (N : News h₀ L s.heap news)
    (hu : A.units + 64 < cLine) (h1 : (D1, LCg.lst [p0, p1, p2]) ∈ news) (h2 : (D2, LCg.lst [q0, q1, q2]) ∈ news) (r0 : Reads s.heap p0 (ndat a x) []) (r1 : Reads s.heap p1 (ndat b y) []) (r2 : Reads s.heap p2 (ndat c z) []) (u0 : Reads s.heap q0 (ndat a x) []) (u1 : Reads s.heap q1 (ndat b y) []) (u2 : Reads s.heap q2 (ndat c z) [])
    (h : Q (.bool false) s) : wpAny (model prog w) A (compareOp .NotEq (.ref D1) (.ref D2)) Q E s := by
  have k := ndat_shaped a b c x y z
  refine ne_dataH (reads_list_at (N _ h1).1 rfl rfl (ReadsAll.cons r0 (ReadsAll.cons r1 (ReadsAll.cons r2 ReadsAll.nil)))) (reads_list_at (N _ h2).1 rfl rfl (ReadsAll.cons u0 (ReadsAll.cons u1 (ReadsAll.cons u2 ReadsAll.nil)))) k k hu ?_
  rw [SeqAt.eqv_refl _ (SeqAt.canLay_of_shaped k)]
  exact h
theorem le_thou {a b : Nat} (h : a ≤ b) (h2 : b ≤ 190) : a ≤ 1000 := by omega
theorem size_pos (n : Nat) : 0 ≤ (n : Int) + 1 := by omega
theorem size_top {n : Nat} (h : n ≤ 190) : (n : Int) + 1 ≤ 200 := by omega
theorem plain_of {l : List Nat} (h : ∀ c ∈ l, Rgb c) : Plain (S l) := fun c hc => by
  rcases h c hc with rfl | rfl | rfl <;> decide
theorem told_slice {wl : List Nat} (hG : Good wl) {a b c : Int} (hper : perF wl = (a, b, c)) : ∀ p, (p = a ∨ p = b ∨ p = c) → Plain (Txt.slice (S (mirrored wl)) (some p) none) ∧ Txt.startswith (S (mirrored wl)) (Txt.slice (S (mirrored wl)) (some p) none) = true := fun p hp => by
  have ht := hG.tol p (by rw [hper]; exact hp)
  unfold told at ht
  simp only [Bool.and_eq_true, decide_eq_true_eq] at ht
  obtain ⟨⟨h0, h1⟩, h2⟩ := ht
  have e : Txt.slice (S (mirrored wl)) (some p) none = S ((S (mirrored wl)).cps.toList.drop p.toNat) := drop_eq h0 (by rw [S_len]; exact h1)
  rw [S_list] at e
  rw [e]
  exact ⟨plain_of fun c hc => hG.plain c (List.mem_of_mem_drop hc), h2⟩
theorem kinds_slice {wl : List Nat} (hG : Good wl) {a b c : Int} (hper : perF wl = (a, b, c)) : ∃ K, kindsF [a, b, c] (((S (mirrored wl)).length : Int) + 1).toNat 0 [] [] = some K ∧ K.drop (K.length - 2) = [3, 1] ∧ K.length ≤ 1000 := by
  have h := hG.kin
  rw [hper] at h
  rw [S_len, show ((mirrored wl).length : Int) + 1 = (((mirrored wl).length + 1 : Nat) : Int) by push_cast; rfl, Int.toNat_natCast]
  exact h
theorem sum_slice {wl : List Nat} (hG : Good wl) {a b c : Int} (hper : perF wl = (a, b, c)) : 2 * ((S (mirrored wl)).length : Int) + 3 = a + b + c := by
  have h := hG.sum
  rw [hper] at h
  rw [S_len]; exact h
theorem last_slice {wl : List Nat} (hG : Good wl) {a b c : Int} (hper : perF wl = (a, b, c)) : lastF 7 a b c [] = some wl := by
  have h := hG.lst
  rw [hper] at h
  exact h
end Mine

end
section
open PySem PySem.W PySem.Calls PyProof.Rows
open Mine
local macro_rules
  | `(tactic| walk_at "subscriptTail") => `(tactic| ((with_reducible show wpAny _ _ (subscriptTail (Expr.Tuple _ _ _) _ (Value.ref _) (Value.int _ _)) _ _ _); refine Stop.mk ?_))
  | `(tactic| walk_at "CompSrc") => `(tactic| ((rename IsRange _ _ _ _ _ _ _ _ => hR); refine Stop.mk ?_))
  | `(tactic| walk_at "exec Assign cons ListComp") => `(tactic| ((with_reducible show wpAny _ _ (exec (Stmt.Assign _ (Expr.ListComp _ [⟨_, Expr.Constant _ _ _, _, _⟩] _ _) _) _) _ _ _); refine Stop.mk ?_))
  | `(tactic| walk_at "eval ListComp") => `(tactic| ((with_reducible show wpAny _ _ (eval (Expr.ListComp _ [⟨_, Expr.Constant _ _ _, _, _⟩] _ _) _) _ _ _); refine Stop.mk ?_))
  | `(tactic| walk_at "compareOp NotEq ref ref") => `(tactic| refine Stop.mk ?_)
  | `(tactic| walk_at "compareOp NotEq ref") => `(tactic| refine Stop.mk ?_)
  | `(tactic| walk_at "getAttr ref") => `(tactic| (k_here; k_dflt (refine' get_own ?k1 ?k2 ?k3 ?k4 ?k5 ?k6 ?k7 ?k8 ?k9 ?_; (case k1 => k_asm); (case k2 => k_asm); (case k3 => k_inst); (case k4 => k_is); (case k5 => k_is); (case k6 => k_is); (case k7 => k_is); (case k8 => assumption); (case k9 => k_handed); k_whole)))
section
open PySem PySem.W PySem.Calls PyProof.Rows
namespace Mine
theorem ints_pick {vs : List Value} {ns : List Int} (h : IntsAre vs ns) (lo hi st : Option Int) : ∃ ks, IntsAre (slicePick vs.toArray lo hi st).toList ks := by
  have all : ∀ (l : List Value), (∀ v ∈ l, v ∈ vs) → ∃ ks, IntsAre l ks := by
    intro l
    induction l with
    | nil => intro _; exact ⟨[], .nil⟩
    | cons v r ih =>
      intro hl
      obtain ⟨ks, hk⟩ := ih fun x hx => hl x (.tail _ hx)
      obtain ⟨i, hi⟩ := List.getElem?_of_mem (hl v (.head _))
      obtain ⟨n, t, rfl, _⟩ := IntsAre.at h i v hi
      exact ⟨n :: ks, .cons n t hk⟩
  refine all _ fun v hv => ?_
  have hv : v ∈ List.filterMap _ _ := hv
  obtain ⟨i, _, hi⟩ := List.mem_filterMap.mp hv
  exact List.mem_of_getElem? (i := i) (by simpa using hi)
theorem three_of {ys : List Value} (h : ys.length = 3) : ∃ a b c, ys = [a, b, c] := by
  match ys, h with
  | [a, b, c], _ => exact ⟨a, b, c, rfl⟩
theorem order_pick {k : Int} (h0 : 0 ≤ k) (h1 : k < 6) : ∃ l, [Str.ofString "rgb", Str.ofString "rbg", Str.ofString "grb", Str.ofString "gbr", Str.ofString "brg", Str.ofString "bgr"].getD k.toNat PySem.Str.empty = S l ∧ l ∈ orders := by
  obtain ⟨n, rfl⟩ := Int.eq_ofNat_of_zero_le h0
  have hn : n < 6 := by omega
  have key : ∀ n, n < 6 → [Str.ofString "rgb", Str.ofString "rbg", Str.ofString "grb", Str.ofString "gbr", Str.ofString "brg", Str.ofString "bgr"].getD n PySem.Str.empty = S (orders.getD n []) ∧ orders.getD n [] ∈ orders := by decide +kernel
  exact ⟨_, key n hn⟩
theorem order_len {l : List Nat} (h : l ∈ orders) : l.length = 3 := by
  have : ∀ l ∈ orders, l.length = 3 := by decide +kernel
  exact this l h
theorem head_pick {j : Int} {t : Tok} : ∃ (c : Nat) (t' : Tok), Value.str (Txt.item (Str.ofString "rgb") (Int.fmod j 3)) t = .str (S [c]) t' ∧ c ∈ letters := by
  have h0 := Int.fmod_nonneg_of_pos j (show (0 : Int) < 3 by decide)
  have h1 := Int.fmod_lt_of_pos j (show (0 : Int) < 3 by decide)
  refine ⟨rgbAt (Int.fmod j 3), t, by rw [rgb_item h0 h1], ?_⟩
  unfold rgbAt letters
  split
  · simp
  · split <;> simp
theorem word_head {ys : List Value} (hl : ys.length ≤ 3) (h : ∀ (i : Nat) (y : Value), ys[i]? = some y → ∃ (c : Nat) (t : Tok), y = Value.str (S [c]) t ∧ c ∈ letters) :
    ∃ ls : List (List Nat), StrsAre ys (ls.map S) ∧ ls.flatten ∈ heads ∧ ls.flatten.length ≤ 3 ∧ ls.length ≤ 3 := by
  have key : ∃ cs : List Nat, cs.length = ys.length ∧ (∀ c ∈ cs, c ∈ letters) ∧ StrsAre ys ((cs.map fun c => [c]).map S) := by
    clear hl
    induction ys with
    | nil => exact ⟨[], rfl, (fun _ h => nomatch h), StrsAre.nil⟩
    | cons y r ih =>
      obtain ⟨c, t, rfl, hc⟩ := h 0 y rfl
      obtain ⟨cs, h1, h2, h3⟩ := ih fun i y hy => h (i + 1) y hy
      exact ⟨c :: cs, by simp [h1], fun x hx => (List.mem_cons.mp hx).elim (fun e => e ▸ hc) (h2 x), .cons _ _ h3⟩
  obtain ⟨cs, h1, h2, h3⟩ := key
  have hf : (cs.map fun c => [c]).flatten = cs := by
    clear h1 h2 h3
    induction cs with
    | nil => rfl
    | cons a r ih => simp only [List.map_cons, List.flatten_cons, ih]; rfl
  refine ⟨_, h3, ?_, by rw [hf]; omega, by rw [List.length_map]; omega⟩
  rw [hf]
  have hin : ∀ a ∈ letters, ∀ b ∈ letters, ∀ c ∈ letters, [a] ∈ heads ∧ [a, b] ∈ heads ∧ [a, b, c] ∈ heads := by decide +kernel
  match cs, h1 with
  | [], _ => decide +kernel
  | [a], _ => exact (hin a (h2 a (.head _)) a (h2 a (.head _)) a (h2 a (.head _))).1
  | [a, b], _ => exact (hin a (h2 a (.head _)) b (h2 b (.tail _ (.head _))) a (h2 a (.head _))).2.1
  | [a, b, c], _ => exact (hin a (h2 a (.head _)) b (h2 b (.tail _ (.head _))) c (h2 c (.tail _ (.tail _ (.head _))))).2.2
  | _ :: _ :: _ :: _ :: _, h1 => simp at h1; omega
structure Wrap (P : Prop) : Prop where
  out : P
set_option maxRecDepth 100000 in
set_option maxHeartbeats 8000000 in
noncomputable def cutA : PSigma fun P : Prop => (Wrap P → PySem.Challenge.rw_sn0046_01.Holds) := ⟨_, fun hrest => hd (by
  have on1 : OnRef := trivial
  k_go0
  all_goals try k_fold
  k_steps
  refine Stop.out ?_
  (rename IsRange _ _ _ _ _ _ _ _ => hR)
  (rename Fr _ _ _ _ => F8)
  (rename News _ _ _ _ => N8)
  (rename IntsAre _ (List.map _ _) => hI0)
  refine LCg.CompSrc.range (by rfl) F8 N8 hR (by decide) (n := 3) rfl (by rw [sizeLine_eq]; omega) (fun gg2 => ?_)
  refine rest_gen (fun i y => ∃ (z : Int) (t : Tok), y = .int z t) ?turn3 ?fin3
  case turn3 =>
    intro i v I' oI' C' oC' D' m2 ys' hh tkk E' hi hv hC' hx' F' N' off' ne'
    obtain ⟨tv, rfl⟩ := hv
    rw [Int.zero_add] at hx'
    k_steps
    (rename Fr _ _ _ _ => F7)
    (rename News _ _ _ _ => N7)
    obtain ⟨ks, hks⟩ := ints_pick hI0 (some (i : Int)) none (some 3)
    refine sumK (by with_unfolding_all rfl) F7 N7 (News.isList N7 (.head _)) hks ?_
    intro h5 tk5 t5 F5 N5
    exact LCg.CompEnd.intro F5 N5 _ (fun p hp => .tail _ hp) off' trivial ⟨rfl, _, _, rfl⟩
  case fin3 =>
    intro ys hyl hys
    obtain ⟨v1, v2, v3, rfl⟩ := three_of hyl
    obtain ⟨first, t1, rfl⟩ := hys 0 _ rfl
    obtain ⟨second, t2, rfl⟩ := hys 1 _ rfl
    obtain ⟨third, t3, rfl⟩ := hys 2 _ rfl
    clear hys hyl
    k_steps
    refine Stop.out ?_
    (rename Fr _ _ _ _ => F7)
    (rename News _ _ _ _ => N7)
    have hf0 := Int.fmod_nonneg_of_pos first (show (0 : Int) < 6 by decide)
    have hf1 := Int.fmod_lt_of_pos first (show (0 : Int) < 6 by decide)
    refine KTb.item_tup (ws := [Str.ofString "rgb", Str.ofString "rbg", Str.ofString "grb", Str.ofString "gbr", Str.ofString "brg", Str.ofString "bgr"]) (News.isTup N7 (.head _)) (.cons _ _ (.cons _ _ (.cons _ _ (.cons _ _ (.cons _ _ (.cons _ _ .nil)))))) hf0 hf1 (by omega) ?_
    intro tO hO
    obtain ⟨ol, hol, hom⟩ := order_pick hf0 hf1
    rw [hol]
    clear hol hO hf0 hf1
    k_steps
    refine Stop.out ?_
    clear hR
    (rename IsRange _ _ _ _ _ _ _ _ => hR)
    (rename Fr _ _ _ _ => F6)
    (rename News _ _ _ _ => N6)
    have hq0 := Int.fmod_nonneg_of_pos (third + 1) (show (0 : Int) < 4 by decide)
    have hq1 := Int.fmod_lt_of_pos (third + 1) (show (0 : Int) < 4 by decide)
    generalize Int.fmod (third + 1) 4 = q at hq0 hq1 hR
    refine LCg.CompSrc.range (by rfl) F6 N6 hR (small_one (by decide) (by decide) (by omega) (by omega)) (rangeSize_nat _ _) (by rw [sizeLine_eq]; omega) (fun gg2 => ?_)
    refine rest_gen (fun i y => ∃ (c : Nat) (t : Tok), y = .str (S [c]) t ∧ c ∈ letters) ?turn4 ?fin4
    case turn4 =>
      intro i v I' oI' C' oC' D' m2 ys' hh tkk E' hi hv hC' hx' F' N' off' ne'
      obtain ⟨tv, rfl⟩ := hv
      rw [Int.zero_add] at hx'
      have hi3 : i = 0 ∨ i = 1 ∨ i = 2 := by omega
      clear hq0 hq1 hi
      rcases hi3 with rfl | rfl | rfl
      · have hx0 : m2 (Str.ofString "k") = some (.int 0 tv) := hx'
        k_steps
        exact LCg.CompEnd.intro F' N' _ (fun p hp => hp) off' trivial ⟨rfl, head_pick⟩
      · have hx0 : m2 (Str.ofString "k") = some (.int 1 tv) := hx'
        k_steps
        exact LCg.CompEnd.intro F' N' _ (fun p hp => hp) off' trivial ⟨rfl, head_pick⟩
      · have hx0 : m2 (Str.ofString "k") = some (.int 2 tv) := hx'
        k_steps
        exact LCg.CompEnd.intro F' N' _ (fun p hp => hp) off' trivial ⟨rfl, head_pick⟩
    case fin4 =>
      intro ys hyl hys
      k_steps
      obtain ⟨ls, hls, hlh, hl1, hl2⟩ := word_head (by rw [hyl]; omega) hys
      (rename News _ _ _ _ => N5)
      refine join_rule ls (News.isList N5 (.head _)) hls (by omega) ?_
      intro z tz kz hz hzl
      obtain rfl : z = S ls.flatten := by rw [← hz]; exact (S_of z).symm
      k_steps
      have hol : ol.length = 3 := order_len hom
      have hG := good_all hlh hom
      refine add_S (by rw [sizeLine_eq]; omega) ?_
      intro tw kw
      have hwl : (ls.flatten ++ ol).length ≤ 6 := by rw [List.length_append]; omega
      generalize ls.flatten ++ ol = wl at hG hwl
      k_steps
      refine Stop.out ?_
      (rename Fr _ _ _ _ => F4)
      (rename News _ _ _ _ => N4)
      obtain ⟨mm, F3⟩ : ∃ mm, Fr _ _ _ (kstB mm [(Str.ofString "word", .str (S wl) tw)]) := ⟨_, fr_known F4 (.cons rfl .nil)⟩
      have N3 := news_sub (news := [(_, _), (_, _), (_, _), (_, _)]) N4 (fun p hp => .tail _ (.tail _ (.tail _ (.tail _ (.tail _ hp)))))
      clear F4 N4
      have hpl : Plain (S wl) := plain_of hG.rgb
      have hwl2 : (S wl).length ≤ 6 := by rw [S_len]; exact hwl
      rename_i u1 u2 u3 u4 u5 u6 u7 u8 u9 u10 u11 u12 u13 u14 u15 u16 u17 u18 u19 u20 u21 u22 u23 u24 u25 u26 u27 u28 u29 u30 u31 u32 u33 u34 u35 u36 u37 u38 u39 u40 u41 u42 u43 u44 u45 u46 u47 u48 u49 u50 u51 u52 u53 u54 u55 u56 u57 u58 u59 u60 u61 u62 u63 u64 u65 u66 u67 u68 u69 u70 u71 u72 u73 u74 u75 u76 u77 u78 u79 u80 u81 u82 u83 u84 u85 u86 u87 u88 u89 u90 u91 u92 u93 u94 u95 u96 u97 u98 u99 u100 u101 u102 u103 u104 u105 u106 u107 u108 u109 u110 u111 u112 u113
      clear u26 u29 u30 u31 u32 u33 u34 u35 u37 u38 u39 u40 u41 u42 u43 u44 u45 u46 u49 u50 u57 u58 u60 u61 u62 u63 u64 u65 u66 u67 u68 u69 u70 hI0 u71 u72 u73 u74 u75 u76 u78 u79 u80 u81 u82 u83 u84 u85 u86 first t1 second t2 third t3 u87 u88 u89 u90 u91 u92 u93 u95 u96 u97 u98 u99 u100 tO ol hom u101 u102 u103 u104 u105 u106 u107 u108 q hq0 hq1 hR gg2 ys hyl hys u109 u110 u111 u112 ls hls hlh hl1 hl2 tz kz hz hzl hol kw hwl
      revert u1 u2 u3 u4 u5 u6 u7 u8 u9 u10 u11 u12 u13 u14 u15 u16 u17 u18 u19 u20 u21 u22 u23 u24 u25 u27 u28 u36 u47 u48 u51 u52 u53 u54 u55 u56 u59 qk ek u77 u94 tw wl hG u113 tk mm F3 N3 hpl hwl2
      exact hrest.out)⟩
end Mine

end
section
open PySem PySem.W PySem.Calls PyProof.Rows
namespace Mine
theorem frag_known2 (p : Params) (h : Heap) : Frag.In (Mine.Hd.K p) h → Challenge.rw_sn0046_01 = Challenge.rw_sn0046_01 → True := by
  k_fill
  exact fun _ _ => trivial
set_option maxRecDepth 100000 in
set_option maxHeartbeats 8000000 in
noncomputable def cutC : PSigma fun P : Prop => (Wrap P → cutA.1) := ⟨_, fun hrest => by
  intro u1 u2 u3 u4 u5 u6 u7 u8 u9 u10 u11 u12 u13 u14 u15 u16 u17 u18 u19 u20 u21 u22 u23 u24 u25 u27 u28 u36 u47 u48 u51 u52 u53 u54 u55 u56 u59 qk ek u77 u94 tw wl hG u113 tk mm F3 N3 hpl hwl2
  w_top off
  have on1 : OnRef := trivial
  have on2 : OnComp := trivial
  have hwov : woven wl.reverse = mirrored wl := hG.wov
  have hrgb : ∀ c ∈ (S wl).cps.toList, Rgb c := hG.rgb
  k_dflt (refine' mir (S wl) tw hpl hwl2 rfl _ _ _ _ _ _ _ _ _ _ _ _ _ _ _ _ _ _ ?aB1 ?aB2 ?aB3 ?aB4 ?aB5 ?aBK ?aBd ?aBu ?aBR)
  case aB1 => k_asm
  case aB2 => k_asm
  case aB3 => k_asm
  case aB4 => exact N3
  case aB5 => k_asm
  case aBK => exact rfl
  case aBd => ktr_room
  case aBu => ktr_units
  intro tm hm km Fm Nm
  clear F3 N3
  rw [S_list]
  k_steps
  refine Stop.out ?_
  (rename Fr _ _ _ _ => F3)
  (rename News _ _ _ _ => N3)
  k_dflt (refine' wov (S wl) tw hwl2 rfl _ _ _ _ _ _ _ _ _ _ _ _ _ _ _ _ _ _ ?bB1 ?bB2 ?bB3 ?bB4 ?bB5 ?bBK ?bBd ?bBu ?bBR)
  case bB1 => k_asm
  case bB2 => k_asm
  case bB3 => k_asm
  case bB4 => exact N3
  case bB5 => k_asm
  case bBK => exact rfl
  case bBd => ktr_room
  case bBu => ktr_units
  intro tv hv kv Fv Nv
  clear F3 N3
  rw [S_list, hwov]
  k_steps
  refine Stop.out ?_
  (rename Fr _ _ _ _ => F3)
  (rename News _ _ _ _ => N3)
  k_dflt (refine' per (S wl) tw hrgb rfl _ _ _ _ _ _ _ _ _ _ _ _ _ _ _ _ _ _ ?cB1 ?cB2 ?cB3 ?cB4 ?cB5 ?cBK ?cBd ?cBu ?cBR)
  case cB1 => k_asm
  case cB2 => k_asm
  case cB3 => k_asm
  case cB4 => exact N3
  case cB5 => k_asm
  case cBK => exact rfl
  case cBd => ktr_room
  case cBu => ktr_units
  intro vp tlp hp kp Fp Np op rp
  clear F3 N3
  obtain ⟨DP, pa, pb, pc, ta, tb, tc, np, hper⟩ := rp
  rw [S_list] at hper
  k_steps
  refine Stop.out ?_
  (rename Fr _ _ _ _ => F3)
  (rename News _ _ _ _ => N3)
  simp only [List.cons_append, List.nil_append] at N3
  k_dflt (refine Assign_ListComp_Tx (_F₀ := F3) (by rfl) (by with_unfolding_all rfl) (by with_unfolding_all rfl) (by decide) (by rfl) (by decide) (by rfl) (by rfl) (by rfl) (by intro _; rfl) ?_)
  k_steps
  (rename Fr _ _ _ _ => F4)
  (rename News _ _ _ _ => N4)
  refine ⟨_, _, _, rfl, rfl, F4, N4, by rw [sizeLine_eq]; decide, fun gg => ?_⟩
  refine rest_three (fun i y tl => ∃ c, (Str.ofString "rgb").cps.toList[i]? = some c ∧ IndR (S (mirrored wl)) c y tl) ?turn6 ?fin6
  case turn6 =>
    intro i v nx I' oI' C' oC' D' m2 ys' hh tkk E' hv hC' hx' F' N' off' ne'
    obtain ⟨c, u, hc, rfl⟩ := hv
    simp only [List.cons_append, List.nil_append] at N' off'
    k_steps
    refine Stop.out ?_
    k_dflt (refine' ind (S (mirrored wl)) tm u c (by rw [S_len]; exact Nat.le_trans hG.len (by decide)) rfl _ _ _ _ _ _ _ _ _ _ _ _ _ _ _ _ _ _ ?kC1 ?kC2 ?kC3 ?kC4 ?kC5 ?kCK ?kCd ?kCu ?kCR)
    case kC1 => k_asm
    case kC2 => k_asm
    case kC3 => k_asm
    case kC4 => exact N'
    case kC5 => k_asm
    case kCK => exact rfl
    case kCd => ktr_room
    case kCu => ktr_units
    intro v9 tl9 h9 tk9 F9 N9 o9 r9
    exact ⟨_, _, tl9, rfl, F9, N9, o9, c, by simpa using hc, r9⟩
  case fin6 =>
    intro y0 y1 y2 b0 b1 b2 q0 q1 q2
    obtain ⟨X0, DX0, T10, T20, ys0, cnt0, b0, nt0, tb0, tt0, es0, en0, hI0, hg0, hn0, hw0⟩ := at_sign (R := IndR (S (mirrored wl))) q0 (c := 114) rfl
    obtain ⟨X1, DX1, T11, T21, ys1, cnt1, b1, nt1, tb1, tt1, es1, en1, hI1, hg1, hn1, hw1⟩ := at_sign (R := IndR (S (mirrored wl))) q1 (c := 103) rfl
    obtain ⟨X2, DX2, T12, T22, ys2, cnt2, b2, nt2, tb2, tt2, es2, en2, hI2, hg2, hn2, hw2⟩ := at_sign (R := IndR (S (mirrored wl))) q2 (c := 98) rfl
    simp only [List.cons_append, List.nil_append]
    k_steps
    refine Stop.out ?_
    (rename Fr _ _ _ _ => F3)
    (rename News _ _ _ _ => N3)
    rename_i v1 v2 v3 v4 v5 v6 v7 v8 v9 v10 v11 v12 v13 v14 v15 v16 v17
    clear u55 u56 u113 v1 hpl hwl2 hwov hrgb hm km v4 v7 hv kv v8 v11 hp kp op v12 F4 N4 tk gg v16
    revert u1 u2 u3 u4 u5 u6 u7 u8 u9 u10 u11 u12 u13 u14 u15 u16 u17 u18 u19 u20 u21 u22 u23 u24 u25 u27 u28 u36 u47 u48 u51 u52 u53 u54 u59 qk ek u77 u94 tw wl hG mm v2 v3 tm v5 v6 tv v9 v10 DP pa pb pc ta tb tc np hper X0 DX0 T10 T20 ys0 cnt0 b0 nt0 tb0 tt0 es0 en0 hI0 hg0 hn0 hw0 q0 X1 DX1 T11 T21 ys1 cnt1 b1 nt1 tb1 tt1 es1 en1 hI1 hg1 hn1 hw1 q1 X2 DX2 T12 T22 ys2 cnt2 b2 nt2 tb2 tt2 es2 en2 hI2 hg2 hn2 hw2 q2 v13 v14 v15 F3 N3 v17
    exact hrest.out⟩
end Mine

end
section
open PySem PySem.W PySem.Calls PyProof.Rows
namespace Mine
theorem frag_known3 (p : Params) (h : Heap) : Frag.In (Mine.Hd.K p) h → Challenge.rw_sn0046_01 = Challenge.rw_sn0046_01 → True := by
  k_fill
  exact fun _ _ => trivial
set_option maxRecDepth 100000 in
set_option maxHeartbeats 8000000 in
noncomputable def cutE : PSigma fun P : Prop => (Wrap P → cutC.1) := ⟨_, fun hrest => by
  intro u1 u2 u3 u4 u5 u6 u7 u8 u9 u10 u11 u12 u13 u14 u15 u16 u17 u18 u19 u20 u21 u22 u23 u24 u25 u27 u28 u36 u47 u48 u51 u52 u53 u54 u59 qk ek u77 u94 tw wl hG mm v2 v3 tm v5 v6 tv v9 v10 DP pa pb pc ta tb tc np hper X0 DX0 T10 T20 ys0 cnt0 b0 nt0 tb0 tt0 es0 en0 hI0 hg0 hn0 hw0 q0 X1 DX1 T11 T21 ys1 cnt1 b1 nt1 tb1 tt1 es1 en1 hI1 hg1 hn1 hw1 q1 X2 DX2 T12 T22 ys2 cnt2 b2 nt2 tb2 tt2 es2 en2 hI2 hg2 hn2 hw2 q2 v13 v14 v15 F3 N3 v17
  w_top off
  have on1 : OnRef := trivial
  have on2 : OnComp := trivial
  have hsp : ∀ c, Rgb c → 2 ≤ (Txt.split (S (mirrored wl)) ⟨#[c]⟩).length := hG.spl
  refine LCg.CompSrc.ledger (by rfl) F3 N3 (.head _) (by rw [sizeLine_eq]; show 3 ≤ 16777216; decide) (fun gg2 => ?_)
  refine rest_gen (fun i y => (i = 0 ∧ y = .ref T20) ∨ (i = 1 ∧ y = .ref T21) ∨ (i = 2 ∧ y = .ref T22)) ?turn7 ?fin7
  case turn7 =>
    intro i v I' oI' C' oC' D' m2 ys' hh tkk E' hi hv hC' hx' F' N' off' ne'
    rcases three_cases hv with ⟨rfl, rfl⟩ | ⟨rfl, rfl⟩ | ⟨rfl, rfl⟩
    · k_steps
      exact LCg.CompEnd.intro F' N' _ (fun p hp => hp) off' (.inr ⟨_, .head _, rfl, _, rfl⟩) ⟨rfl, .inl ⟨rfl, rfl⟩⟩
    · k_steps
      exact LCg.CompEnd.intro F' N' _ (fun p hp => hp) off' (.inr ⟨_, .head _, rfl, _, rfl⟩) ⟨rfl, .inr (.inl ⟨rfl, rfl⟩)⟩
    · k_steps
      exact LCg.CompEnd.intro F' N' _ (fun p hp => hp) off' (.inr ⟨_, .head _, rfl, _, rfl⟩) ⟨rfl, .inr (.inr ⟨rfl, rfl⟩)⟩
  case fin7 =>
    intro ys hyl hys
    obtain ⟨v1, v2, v3, rfl⟩ := three_of hyl
    have e1 : v1 = .ref T20 := by have := hys 0 _ rfl; simpa using this
    have e2 : v2 = .ref T21 := by have := hys 1 _ rfl; simpa using this
    have e3 : v3 = .ref T22 := by have := hys 2 _ rfl; simpa using this
    subst e1 e2 e3
    k_steps
    refine Stop.out ?_
    clear hys hyl
    (rename Fr _ _ _ _ => F5)
    (rename News _ _ _ _ => N5)
    have hfro : frontF 7 (lights (mirrored wl) 114) (lights (mirrored wl) 103) (lights (mirrored wl) 98) [] = some wl := hG.fro
    have hnl : ∀ c, Rgb c → normL ((Txt.split (S (mirrored wl)) ⟨#[c]⟩).map fun p => (p.length : Int)) = ((wsF ((mirrored wl).map fun x => if x = c then 9 else 32)).1, (wsF ((mirrored wl).map fun x => if x = c then 9 else 32)).2.1) := hG.nl
    k_dflt (refine ListComp_T (_F₀ := F5) (by with_unfolding_all rfl) (by decide) (by rfl) (by decide) (by rfl) (by intro _; rfl) ?_)
    k_steps
    (rename Fr _ _ _ _ => F6)
    (rename News _ _ _ _ => N6)
    refine ⟨_, _, _, rfl, rfl, F6, N6, by rw [sizeLine_eq]; decide, fun gg3 => ?_⟩
    refine rest_three (fun i y tl => ∃ c, (Str.ofString "rgb").cps.toList[i]? = some c ∧ NrmR (S (mirrored wl)) c y tl) ?turn8 ?fin8
    case turn8 =>
      intro i v nx I' oI' C' oC' D' m2 ys' hh tkk E' hv hC' hx' F' N' off' ne'
      obtain ⟨c, u, hc, rfl⟩ := hv
      simp only [List.cons_append, List.nil_append] at N' off'
      k_steps
      refine Stop.out ?_
      k_dflt (refine' nrm (S (mirrored wl)) tv u c (by rw [S_len]; exact Nat.le_trans hG.len (by decide)) (hsp c (rgb_get hc)) rfl _ _ _ _ _ _ _ _ _ _ _ _ _ _ _ _ _ _ ?kE1 ?kE2 ?kE3 ?kE4 ?kE5 ?kEK ?kEd ?kEu ?kER)
      case kE1 => k_asm
      case kE2 => k_asm
      case kE3 => k_asm
      case kE4 => exact N'
      case kE5 => k_asm
      case kEK => exact rfl
      case kEd => ktr_room
      case kEu => ktr_units
      intro v9 tl9 h9 tk9 F9 N9 o9 r9
      exact ⟨_, _, tl9, rfl, F9, N9, o9, c, by simpa using hc, r9⟩
    case fin8 =>
      intro y0 y1 y2 d0 d1 d2 q0 q1 q2
      obtain ⟨U10, U20, zs0, dnt0, e0, te0, hJ0, hv0⟩ := at_sign (R := NrmR (S (mirrored wl))) q0 (c := 114) rfl
      obtain ⟨U11, U21, zs1, dnt1, e1, te1, hJ1, hv1⟩ := at_sign (R := NrmR (S (mirrored wl))) q1 (c := 103) rfl
      obtain ⟨U12, U22, zs2, dnt2, e2, te2, hJ2, hv2⟩ := at_sign (R := NrmR (S (mirrored wl))) q2 (c := 98) rfl
      simp only [List.cons_append, List.nil_append]
      k_steps
      refine Stop.out ?_
      (rename News _ _ _ _ => N7)
      rw [S_list] at hw0 hw1 hw2
      rw [hnl 114 (.inl rfl), hw0] at hv0
      rw [hnl 103 (.inr (.inl rfl)), hw1] at hv1
      rw [hnl 98 (.inr (.inr rfl)), hw2] at hv2
      have hfr : frontF 7 (2 * nt0 + 1) (2 * nt1 + 1) (2 * nt2 + 1) [] = some wl := by have h := hfro; unfold lights at h; rw [hw0, hw1, hw2] at h; exact h
      cases hv0
      cases hv1
      cases hv2
      refine ne_norms N7 (by ke_room) (.tail _ (.head _)) (.head _) (read_norm N7 (by k_mem) (by k_mem) hI0) (read_norm N7 (by k_mem) (by k_mem) hI1) (read_norm N7 (by k_mem) (by k_mem) hI2) (read_norm N7 (by k_mem) (by k_mem) hJ0) (read_norm N7 (by k_mem) (by k_mem) hJ1) (read_norm N7 (by k_mem) (by k_mem) hJ2) ?_
      k_steps
      refine Stop.out ?_
      (rename Fr _ _ _ _ => F9)
      (rename News _ _ _ _ => N8)
      have N9 := news_sub N8 (List.Sublist.subset (.cons _ (.cons _ (.cons_cons _ (.cons_cons _ (.cons _ (.cons_cons _ (.cons _ (.cons _ (.cons _ (.cons _ (.cons_cons _ (.cons_cons _ (.cons _ (.cons _ (.cons_cons _ (.cons_cons _ (.cons _ (.cons _ (.cons_cons _ (.cons_cons _ (.cons _ (.cons _ (.cons _ (.cons _ (.cons _ (.cons _ .slnil)))))))))))))))))))))))))))
      clear N8 hJ0 hJ1 hJ2 hI0 hI1 hI2
      rename_i w1 w2 w3 w4 w5 w6 w7 w8 w9 w10 w11 w12
      clear u77 u94 hg0 hw0 hg1 hw1 hg2 hw2 v14 v15 F3 N3 hsp gg2 w5 w6 w7 F6 N6 w8 hfro hnl gg3 w9 w12
      revert u1 u2 u3 u4 u5 u6 u7 u8 u9 u10 u11 u12 u13 u14 u15 u16 u17 u18 u19 u20 u21 u22 u23 u24 u25 u27 u28 u36 u47 u48 u51 u52 u53 u54 u59 qk ek tw wl hG mm v2 v3 tm v5 v6 tv v9 v10 DP pa pb pc ta tb tc np hper X0 DX0 T10 T20 ys0 cnt0 b0 nt0 tb0 tt0 es0 en0 hn0 w1 X1 DX1 T11 T21 ys1 cnt1 b1 nt1 tb1 tt1 es1 en1 hn1 w2 X2 DX2 T12 T22 ys2 cnt2 b2 nt2 tb2 tt2 es2 en2 hn2 w3 v13 v17 on1 w4 U10 U20 zs0 te0 U11 U21 zs1 te1 U12 U22 zs2 te2 w10 w11 F9 hfr q0 q1 q2 N9
      exact hrest.out⟩
end Mine

end
section
open PySem PySem.W PySem.Calls PyProof.Rows
namespace Mine
theorem frag_known4 (p : Params) (h : Heap) : Frag.In (Mine.Hd.K p) h → Challenge.rw_sn0046_01 = Challenge.rw_sn0046_01 → True := by
  k_fill
  exact fun _ _ => trivial
set_option maxRecDepth 100000 in
set_option maxHeartbeats 8000000 in
theorem law_end : cutE.1 := by
  intro u1 u2 u3 u4 u5 u6 u7 u8 u9 u10 u11 u12 u13 u14 u15 u16 u17 u18 u19 u20 u21 u22 u23 u24 u25 u27 u28 u36 u47 u48 u51 u52 u53 u54 u59 qk ek tw wl hG mm v2 v3 tm v5 v6 tv v9 v10 DP pa pb pc ta tb tc np hper X0 DX0 T10 T20 ys0 cnt0 b0 nt0 tb0 tt0 es0 en0 hn0 w1 X1 DX1 T11 T21 ys1 cnt1 b1 nt1 tb1 tt1 es1 en1 hn1 w2 X2 DX2 T12 T22 ys2 cnt2 b2 nt2 tb2 tt2 es2 en2 hn2 w3 v13 v17 on1 w4 U10 U20 zs0 te0 U11 U21 zs1 te1 U12 U22 zs2 te2 w10 w11 F9 hfr q0 q1 q2 N9
  w_top off
  have on1 : OnRef := trivial
  have on2 : OnComp := trivial
  refine LCg.CompSrc.ledger (by rfl) F9 N9 (.head _) (by rw [sizeLine_eq]; show 3 ≤ 16777216; decide) (fun gg2 => ?_)
  refine rest_gen (fun i y => ∃ t, (i = 0 ∧ y = .int (2 * nt0 + 1) t) ∨ (i = 1 ∧ y = .int (2 * nt1 + 1) t) ∨ (i = 2 ∧ y = .int (2 * nt2 + 1) t)) ?turn9 ?fin9
  case turn9 =>
    intro i v I' oI' C' oC' D' m2 ys' hh tkk E' hi hv hC' hx' F' N' off' ne'
    rcases three_cases hv with ⟨rfl, rfl⟩ | ⟨rfl, rfl⟩ | ⟨rfl, rfl⟩
    · k_steps
      exact LCg.CompEnd.intro F' N' _ (fun p hp => hp) off' (.inr ⟨_, .head _, rfl, _, rfl⟩) ⟨rfl, _, .inl ⟨rfl, rfl⟩⟩
    · k_steps
      exact LCg.CompEnd.intro F' N' _ (fun p hp => hp) off' (.inr ⟨_, .head _, rfl, _, rfl⟩) ⟨rfl, _, .inr (.inl ⟨rfl, rfl⟩)⟩
    · k_steps
      exact LCg.CompEnd.intro F' N' _ (fun p hp => hp) off' (.inr ⟨_, .head _, rfl, _, rfl⟩) ⟨rfl, _, .inr (.inr ⟨rfl, rfl⟩)⟩
  case fin9 =>
    intro ys hyl hys
    obtain ⟨v1, v2, v3, rfl⟩ := three_of hyl
    obtain ⟨t1, e1⟩ : ∃ t, v1 = .int (2 * nt0 + 1) t := by obtain ⟨t, h⟩ := hys 0 _ rfl; exact ⟨t, by simpa using h⟩
    obtain ⟨t2, e2⟩ : ∃ t, v2 = .int (2 * nt1 + 1) t := by obtain ⟨t, h⟩ := hys 1 _ rfl; exact ⟨t, by simpa using h⟩
    obtain ⟨t3, e3⟩ : ∃ t, v3 = .int (2 * nt2 + 1) t := by obtain ⟨t, h⟩ := hys 2 _ rfl; exact ⟨t, by simpa using h⟩
    subst e1 e2 e3
    clear hys hyl
    k_steps
    refine Stop.out ?_
    (rename Fr _ _ _ _ => F8)
    (rename News _ _ _ _ => N8)
    k_dflt (refine' front _ _ _ t1 t2 t3 _ 3 wl hfr rfl _ _ _ _ _ _ _ _ _ _ _ _ _ _ _ _ _ _ ?kF1 ?kF2 ?kF3 ?kF4 ?kF5 ?kFK ?kFd ?kFu ?kFP ?kFR)
    case kF1 => k_asm
    case kF2 => k_asm
    case kF3 => k_asm
    case kF4 => exact N8
    case kF5 => k_asm
    case kFK => exact rfl
    case kFd => ktr_room
    case kFu => ktr_units
    case kFP => exact .head _
    intro v9 tl9 h9 tk9 F9 N9 o9 r9
    clear F8 N8
    obtain ⟨tf⟩ := r9
    rw [List.nil_append] at N9
    have N8 := news_sub N9 (List.Sublist.subset (.cons _ (.cons _ (.cons_cons _ (.cons_cons _ (.cons _ (.cons _ (.cons _ (.cons _ (.cons _ (.cons _ .slnil)))))))))))
    clear N9 o9
    k_steps
    refine Stop.out ?_
    (rename Fr _ _ _ _ => F8)
    have hlst := last_slice hG hper
    k_dflt (refine' fend pa pb pc ta tb tc DP np wl hlst rfl _ _ _ _ _ _ _ _ _ _ _ _ _ _ _ _ _ _ ?kG1 ?kG2 ?kG3 ?kG4 ?kG5 ?kGK ?kGd ?kGu ?kGP ?kGR)
    case kG1 => k_asm
    case kG2 => k_asm
    case kG3 => k_asm
    case kG4 => exact N8
    case kG5 => k_asm
    case kGK => exact rfl
    case kGd => ktr_room
    case kGu => ktr_units
    case kGP => exact .head _
    intro v9 tl9 h9 tk9 F9 N9 o9 r9
    clear F8 N8
    obtain ⟨tf2⟩ := r9
    rw [List.nil_append] at N9
    clear o9
    have hTl : (S (mirrored wl)).length ≤ 190 := by rw [S_len]; exact hG.len
    have hsum : 2 * ((S (mirrored wl)).length : Int) + 3 = pa + pb + pc := sum_slice hG hper
    have htold := told_slice hG hper
    have hKK := kinds_slice hG hper
    generalize hTx : S (mirrored wl) = tx at *
    k_steps
    refine Stop.out ?_
    (rename Fr _ _ _ _ => F8)
    (rename News _ _ _ _ => N8)
    obtain ⟨K, hK, hKd, hKl⟩ := hKK
    have hI : IntsAre [Value.int pa ta, Value.int pb tb, Value.int pc tc] [pa, pb, pc] := .cons _ _ (.cons _ _ (.cons _ _ .nil))
    refine LCt.CompSrcT.ledger (by rfl) F8 N8 (.head _) (by rw [sizeLine_eq]; show 3 ≤ 16777216; decide) (fun gg2 => ?_)
    refine rest_genT (fun i y => (i = 0 ∧ y = .int pa ta) ∨ (i = 1 ∧ y = .int pb tb) ∨ (i = 2 ∧ y = .int pc tc)) ?turn9 ?fin9
    case turn9 =>
      intro i v I' oI' C' oC' D' m2 ys' hh tkk E' hi hv hC' hx' F' N' off' ne'
      have hv2 := three_cases hv
      have hv3 : ∃ p t, v = .int p t ∧ (p = pa ∨ p = pb ∨ p = pc) := by
        rcases hv2 with ⟨_, h⟩ | ⟨_, h⟩ | ⟨_, h⟩
        · exact ⟨_, _, h, .inl rfl⟩
        · exact ⟨_, _, h, .inr (.inl rfl)⟩
        · exact ⟨_, _, h, .inr (.inr rfl)⟩
      obtain ⟨p, tp, rfl, hp⟩ := hv3
      clear hv
      k_steps
      refine Stop.out ?_
      (rename Fr _ _ _ _ => F7)
      (rename News _ _ _ _ => N7)
      obtain ⟨hp1, hp2⟩ := htold p hp
      k_dflt (refine' ell2 (Txt.slice tx (some p) none) tx _ tm hp1 (le_thou (by assumption) hTl) (le_thou (Nat.le_refl _) hTl) rfl _ _ _ _ _ _ _ _ _ _ _ _ _ _ _ _ _ _ ?kI1 ?kI2 ?kI3 ?kI4 ?kI5 ?kIK ?kId ?kIu ?kIR)
      case kI1 => k_asm
      case kI2 => k_asm
      case kI3 => k_asm
      case kI4 => exact N7
      case kI5 => k_asm
      case kIK => exact rfl
      case kId => ktr_room
      case kIu => ktr_units
      intro _ h9 k9 F9 N9
      clear F7 N7
      rw [hp2]
      k_steps
      exact LCg.CompEnd.intro F9 N9 _ (fun p hp => hp) off' (.inr ⟨_, .head _, rfl, _, rfl⟩) ⟨rfl, hv2⟩
    case fin9 =>
      intro ys hyl hys
      obtain ⟨v1, v2, v3, rfl⟩ := three_of hyl
      have e1 : v1 = .int pa ta := by have := hys 0 _ rfl; simpa using this
      have e2 : v2 = .int pb tb := by have := hys 1 _ rfl; simpa using this
      have e3 : v3 = .int pc tc := by have := hys 2 _ rfl; simpa using this
      subst e1 e2 e3
      clear hys hyl
      k_steps
      refine Stop.out ?_
      (rename Fr _ _ _ _ => F7)
      (rename News _ _ _ _ => N7)
      k_dflt (refine' kin ((tx.length : Int) + 1) _ _ [.int pa ta, .int pb tb, .int pc tc] [pa, pb, pc] K 3 hI (size_pos _) (size_top hTl) hK rfl _ _ _ _ _ _ _ _ _ _ _ _ _ _ _ _ _ _ ?jI1 ?jI2 ?jI3 ?jI4 ?jI5 ?jIK ?jId ?jIu ?jIP ?jIR)
      case jI1 => k_asm
      case jI2 => k_asm
      case jI3 => k_asm
      case jI4 => exact N7
      case jI5 => k_asm
      case jIK => exact rfl
      case jId => ktr_room
      case jIu => ktr_units
      case jIP => exact .head _
      intro v9 tl9 h9 tk9 F9 N9 o9 r9
      clear F7 N7
      obtain ⟨DK, ks, nk, hIK⟩ := r9
      rw [List.cons_append, List.nil_append] at N9
      have N8 := news_sub N9 (List.Sublist.subset (.cons_cons _ (.cons _ (.cons _ (.cons _ .slnil)))))
      clear N9 o9
      repeat ((rename (_ ∧ _) => hz); clear hz)
      k_steps
theorem law_holds : Challenge.rw_sn0046_01.Holds := cutA.2 ⟨cutC.2 ⟨cutE.2 ⟨law_end⟩⟩⟩
end Mine

end
end
end
theorem PySem.Challenge.cw_sn0046_01_holds : PySem.Challenge.rw_sn0046_01.Holds :=
  Mine.law_holds
