import PyProof.Rows.All
import Wide.All
import OpenK.AllK
import Wide.FinOn
import Lean
import PySem.Challenge.RW_wf0048_01
open PySem PySem.W PyProof.Rows
set_option Elab.async false
set_option maxRecDepth 1000000
set_option linter.unusedVariables false
set_option linter.unusedSimpArgs false
namespace Mine
section
/-! the head: what the top leaves, checked at once -/
def hdS : List Stmt → Stmt
  | s :: _ => s
  | [] => .Pass ⟨0, 0, 0, 0⟩
def tlS : List Stmt → List Stmt
  | _ :: r => r
  | [] => []
def fP : Stmt → Arguments
  | .FunctionDef _ a _ _ _ _ _ _ _ _ => a
  | _ => default
def fB : Stmt → List Stmt
  | .FunctionDef _ _ b _ _ _ _ _ _ _ => b
  | _ => []
def fS : Stmt → Scope
  | .FunctionDef _ _ _ _ _ _ s _ _ _ => s
  | _ => default
def fPos : Stmt → Pos
  | .FunctionDef _ _ _ _ _ _ _ _ _ p => p
  | _ => default
def cB : Stmt → List Stmt
  | .ClassDef _ _ _ b _ _ _ _ _ _ _ => b
  | _ => []
def tops : List Stmt := PySem.Challenge.pw_wf0048_01.main.body
/-! what stands when the top has run, as a program of the kit's tells it; bodies by their place in the row -/
set_option maxHeartbeats 4000000
noncomputable def o21 : Obj := by
  refine' (fun (x : Obj) (_ : ({ cls := Value.type "function", data := Data.func { name := Str.ofString "_wall", qualname := Str.ofString "_wall", params := fP (hdS tops), body := FuncBody.stmts (fB (hdS tops)), scope := fS (hdS tops), globals := 3, closure := [], defaults := Value.none, kwdefaults := Value.none, pyModule := Value.str (Str.ofString "__main__") 164, code := Value.ref 20 } } : Obj) = x) => x) _ ?h
  case h =>
    dsimp only [fP, fB, fS, cB, hdS, tlS, tops, PySem.Challenge.pw_wf0048_01]
    exact rfl
noncomputable def o28 : Obj := by
  refine' (fun (x : Obj) (_ : ({ cls := Value.type "function", data := Data.func { name := Str.ofString "_is_wildcard_tag", qualname := Str.ofString "_is_wildcard_tag", params := fP (hdS (tlS (tlS tops))), body := FuncBody.stmts (fB (hdS (tlS (tlS tops)))), scope := fS (hdS (tlS (tlS tops))), globals := 3, closure := [], defaults := Value.none, kwdefaults := Value.none, pyModule := Value.str (Str.ofString "cpy313.xml.etree.ElementPath") 194, code := Value.ref 27 } } : Obj) = x) => x) _ ?h
  case h =>
    dsimp only [fP, fB, fS, cB, hdS, tlS, tops, PySem.Challenge.pw_wf0048_01]
    exact rfl
noncomputable def o35 : Obj := by
  refine' (fun (x : Obj) (_ : ({ cls := Value.type "function", data := Data.func { name := Str.ofString "_prepare_tag", qualname := Str.ofString "_prepare_tag", params := fP (hdS (tlS (tlS (tlS tops)))), body := FuncBody.stmts (fB (hdS (tlS (tlS (tlS tops))))), scope := fS (hdS (tlS (tlS (tlS tops)))), globals := 3, closure := [], defaults := Value.none, kwdefaults := Value.none, pyModule := Value.str (Str.ofString "cpy313.xml.etree.ElementPath") 194, code := Value.ref 34 } } : Obj) = x) => x) _ ?h
  case h =>
    dsimp only [fP, fB, fS, cB, hdS, tlS, tops, PySem.Challenge.pw_wf0048_01]
    exact rfl
noncomputable def o49 : Obj := by
  refine' (fun (x : Obj) (_ : ({ cls := Value.type "function", data := Data.func { name := Str.ofString "__init__", qualname := Str.ofString "_SelectorContext.__init__", params := fP (hdS (tlS (cB (hdS (tlS (tlS (tlS (tlS tops)))))))), body := FuncBody.stmts (fB (hdS (tlS (cB (hdS (tlS (tlS (tlS (tlS tops))))))))), scope := fS (hdS (tlS (cB (hdS (tlS (tlS (tlS (tlS tops)))))))), globals := 3, closure := [], defaults := Value.none, kwdefaults := Value.none, pyModule := Value.str (Str.ofString "cpy313.xml.etree.ElementPath") 194, code := Value.ref 48 } } : Obj) = x) => x) _ ?h
  case h =>
    dsimp only [fP, fB, fS, cB, hdS, tlS, tops, PySem.Challenge.pw_wf0048_01]
    exact rfl
noncomputable def o63 : Obj := by
  refine' (fun (x : Obj) (_ : ({ cls := Value.type "function", data := Data.func { name := Str.ofString "_format_size", qualname := Str.ofString "_format_size", params := fP (hdS (tlS (tlS (tlS (tlS (tlS (tlS tops))))))), body := FuncBody.stmts (fB (hdS (tlS (tlS (tlS (tlS (tlS (tlS tops)))))))), scope := fS (hdS (tlS (tlS (tlS (tlS (tlS (tlS tops))))))), globals := 3, closure := [], defaults := Value.none, kwdefaults := Value.none, pyModule := Value.str (Str.ofString "cpy313.tracemalloc") 248, code := Value.ref 62 } } : Obj) = x) => x) _ ?h
  case h =>
    dsimp only [fP, fB, fS, cB, hdS, tlS, tops, PySem.Challenge.pw_wf0048_01]
    exact rfl
noncomputable def o78 : Obj := by
  refine' (fun (x : Obj) (_ : ({ cls := Value.type "function", data := Data.func { name := Str.ofString "__init__", qualname := Str.ofString "Statistic.__init__", params := fP (hdS (tlS (cB (hdS (tlS (tlS (tlS (tlS (tlS (tlS (tlS tops))))))))))), body := FuncBody.stmts (fB (hdS (tlS (cB (hdS (tlS (tlS (tlS (tlS (tlS (tlS (tlS tops)))))))))))), scope := fS (hdS (tlS (cB (hdS (tlS (tlS (tlS (tlS (tlS (tlS (tlS tops))))))))))), globals := 3, closure := [], defaults := Value.none, kwdefaults := Value.none, pyModule := Value.str (Str.ofString "cpy313.tracemalloc") 248, code := Value.ref 77 } } : Obj) = x) => x) _ ?h
  case h =>
    dsimp only [fP, fB, fS, cB, hdS, tlS, tops, PySem.Challenge.pw_wf0048_01]
    exact rfl
noncomputable def o85 : Obj := by
  refine' (fun (x : Obj) (_ : ({ cls := Value.type "function", data := Data.func { name := Str.ofString "__hash__", qualname := Str.ofString "Statistic.__hash__", params := fP (hdS (tlS (tlS (cB (hdS (tlS (tlS (tlS (tlS (tlS (tlS (tlS tops)))))))))))), body := FuncBody.stmts (fB (hdS (tlS (tlS (cB (hdS (tlS (tlS (tlS (tlS (tlS (tlS (tlS tops))))))))))))), scope := fS (hdS (tlS (tlS (cB (hdS (tlS (tlS (tlS (tlS (tlS (tlS (tlS tops)))))))))))), globals := 3, closure := [], defaults := Value.none, kwdefaults := Value.none, pyModule := Value.str (Str.ofString "cpy313.tracemalloc") 248, code := Value.ref 84 } } : Obj) = x) => x) _ ?h
  case h =>
    dsimp only [fP, fB, fS, cB, hdS, tlS, tops, PySem.Challenge.pw_wf0048_01]
    exact rfl
noncomputable def o92 : Obj := by
  refine' (fun (x : Obj) (_ : ({ cls := Value.type "function", data := Data.func { name := Str.ofString "__eq__", qualname := Str.ofString "Statistic.__eq__", params := fP (hdS (tlS (tlS (tlS (cB (hdS (tlS (tlS (tlS (tlS (tlS (tlS (tlS tops))))))))))))), body := FuncBody.stmts (fB (hdS (tlS (tlS (tlS (cB (hdS (tlS (tlS (tlS (tlS (tlS (tlS (tlS tops)))))))))))))), scope := fS (hdS (tlS (tlS (tlS (cB (hdS (tlS (tlS (tlS (tlS (tlS (tlS (tlS tops))))))))))))), globals := 3, closure := [], defaults := Value.none, kwdefaults := Value.none, pyModule := Value.str (Str.ofString "cpy313.tracemalloc") 248, code := Value.ref 91 } } : Obj) = x) => x) _ ?h
  case h =>
    dsimp only [fP, fB, fS, cB, hdS, tlS, tops, PySem.Challenge.pw_wf0048_01]
    exact rfl
noncomputable def o99 : Obj := by
  refine' (fun (x : Obj) (_ : ({ cls := Value.type "function", data := Data.func { name := Str.ofString "__str__", qualname := Str.ofString "Statistic.__str__", params := fP (hdS (tlS (tlS (tlS (tlS (cB (hdS (tlS (tlS (tlS (tlS (tlS (tlS (tlS tops)))))))))))))), body := FuncBody.stmts (fB (hdS (tlS (tlS (tlS (tlS (cB (hdS (tlS (tlS (tlS (tlS (tlS (tlS (tlS tops))))))))))))))), scope := fS (hdS (tlS (tlS (tlS (tlS (cB (hdS (tlS (tlS (tlS (tlS (tlS (tlS (tlS tops)))))))))))))), globals := 3, closure := [], defaults := Value.none, kwdefaults := Value.none, pyModule := Value.str (Str.ofString "cpy313.tracemalloc") 248, code := Value.ref 98 } } : Obj) = x) => x) _ ?h
  case h =>
    dsimp only [fP, fB, fS, cB, hdS, tlS, tops, PySem.Challenge.pw_wf0048_01]
    exact rfl
noncomputable def o106 : Obj := by
  refine' (fun (x : Obj) (_ : ({ cls := Value.type "function", data := Data.func { name := Str.ofString "__repr__", qualname := Str.ofString "Statistic.__repr__", params := fP (hdS (tlS (tlS (tlS (tlS (tlS (cB (hdS (tlS (tlS (tlS (tlS (tlS (tlS (tlS tops))))))))))))))), body := FuncBody.stmts (fB (hdS (tlS (tlS (tlS (tlS (tlS (cB (hdS (tlS (tlS (tlS (tlS (tlS (tlS (tlS tops)))))))))))))))), scope := fS (hdS (tlS (tlS (tlS (tlS (tlS (cB (hdS (tlS (tlS (tlS (tlS (tlS (tlS (tlS tops))))))))))))))), globals := 3, closure := [], defaults := Value.none, kwdefaults := Value.none, pyModule := Value.str (Str.ofString "cpy313.tracemalloc") 248, code := Value.ref 105 } } : Obj) = x) => x) _ ?h
  case h =>
    dsimp only [fP, fB, fS, cB, hdS, tlS, tops, PySem.Challenge.pw_wf0048_01]
    exact rfl
noncomputable def o113 : Obj := by
  refine' (fun (x : Obj) (_ : ({ cls := Value.type "function", data := Data.func { name := Str.ofString "_sort_key", qualname := Str.ofString "Statistic._sort_key", params := fP (hdS (tlS (tlS (tlS (tlS (tlS (tlS (cB (hdS (tlS (tlS (tlS (tlS (tlS (tlS (tlS tops)))))))))))))))), body := FuncBody.stmts (fB (hdS (tlS (tlS (tlS (tlS (tlS (tlS (cB (hdS (tlS (tlS (tlS (tlS (tlS (tlS (tlS tops))))))))))))))))), scope := fS (hdS (tlS (tlS (tlS (tlS (tlS (tlS (cB (hdS (tlS (tlS (tlS (tlS (tlS (tlS (tlS tops)))))))))))))))), globals := 3, closure := [], defaults := Value.none, kwdefaults := Value.none, pyModule := Value.str (Str.ofString "cpy313.tracemalloc") 248, code := Value.ref 112 } } : Obj) = x) => x) _ ?h
  case h =>
    dsimp only [fP, fB, fS, cB, hdS, tlS, tops, PySem.Challenge.pw_wf0048_01]
    exact rfl
noncomputable def o137 : Obj := by
  refine' (fun (x : Obj) (_ : ({ cls := Value.type "function", data := Data.func { name := Str.ofString "__init__", qualname := Str.ofString "StatisticDiff.__init__", params := fP (hdS (tlS (cB (hdS (tlS (tlS (tlS (tlS (tlS (tlS (tlS (tlS tops)))))))))))), body := FuncBody.stmts (fB (hdS (tlS (cB (hdS (tlS (tlS (tlS (tlS (tlS (tlS (tlS (tlS tops))))))))))))), scope := fS (hdS (tlS (cB (hdS (tlS (tlS (tlS (tlS (tlS (tlS (tlS (tlS tops)))))))))))), globals := 3, closure := [], defaults := Value.none, kwdefaults := Value.none, pyModule := Value.str (Str.ofString "cpy313.tracemalloc") 248, code := Value.ref 136 } } : Obj) = x) => x) _ ?h
  case h =>
    dsimp only [fP, fB, fS, cB, hdS, tlS, tops, PySem.Challenge.pw_wf0048_01]
    exact rfl
noncomputable def o144 : Obj := by
  refine' (fun (x : Obj) (_ : ({ cls := Value.type "function", data := Data.func { name := Str.ofString "__hash__", qualname := Str.ofString "StatisticDiff.__hash__", params := fP (hdS (tlS (tlS (cB (hdS (tlS (tlS (tlS (tlS (tlS (tlS (tlS (tlS tops))))))))))))), body := FuncBody.stmts (fB (hdS (tlS (tlS (cB (hdS (tlS (tlS (tlS (tlS (tlS (tlS (tlS (tlS tops)))))))))))))), scope := fS (hdS (tlS (tlS (cB (hdS (tlS (tlS (tlS (tlS (tlS (tlS (tlS (tlS tops))))))))))))), globals := 3, closure := [], defaults := Value.none, kwdefaults := Value.none, pyModule := Value.str (Str.ofString "cpy313.tracemalloc") 248, code := Value.ref 143 } } : Obj) = x) => x) _ ?h
  case h =>
    dsimp only [fP, fB, fS, cB, hdS, tlS, tops, PySem.Challenge.pw_wf0048_01]
    exact rfl
noncomputable def o151 : Obj := by
  refine' (fun (x : Obj) (_ : ({ cls := Value.type "function", data := Data.func { name := Str.ofString "__eq__", qualname := Str.ofString "StatisticDiff.__eq__", params := fP (hdS (tlS (tlS (tlS (cB (hdS (tlS (tlS (tlS (tlS (tlS (tlS (tlS (tlS tops)))))))))))))), body := FuncBody.stmts (fB (hdS (tlS (tlS (tlS (cB (hdS (tlS (tlS (tlS (tlS (tlS (tlS (tlS (tlS tops))))))))))))))), scope := fS (hdS (tlS (tlS (tlS (cB (hdS (tlS (tlS (tlS (tlS (tlS (tlS (tlS (tlS tops)))))))))))))), globals := 3, closure := [], defaults := Value.none, kwdefaults := Value.none, pyModule := Value.str (Str.ofString "cpy313.tracemalloc") 248, code := Value.ref 150 } } : Obj) = x) => x) _ ?h
  case h =>
    dsimp only [fP, fB, fS, cB, hdS, tlS, tops, PySem.Challenge.pw_wf0048_01]
    exact rfl
noncomputable def o158 : Obj := by
  refine' (fun (x : Obj) (_ : ({ cls := Value.type "function", data := Data.func { name := Str.ofString "__str__", qualname := Str.ofString "StatisticDiff.__str__", params := fP (hdS (tlS (tlS (tlS (tlS (cB (hdS (tlS (tlS (tlS (tlS (tlS (tlS (tlS (tlS tops))))))))))))))), body := FuncBody.stmts (fB (hdS (tlS (tlS (tlS (tlS (cB (hdS (tlS (tlS (tlS (tlS (tlS (tlS (tlS (tlS tops)))))))))))))))), scope := fS (hdS (tlS (tlS (tlS (tlS (cB (hdS (tlS (tlS (tlS (tlS (tlS (tlS (tlS (tlS tops))))))))))))))), globals := 3, closure := [], defaults := Value.none, kwdefaults := Value.none, pyModule := Value.str (Str.ofString "cpy313.tracemalloc") 248, code := Value.ref 157 } } : Obj) = x) => x) _ ?h
  case h =>
    dsimp only [fP, fB, fS, cB, hdS, tlS, tops, PySem.Challenge.pw_wf0048_01]
    exact rfl
noncomputable def o165 : Obj := by
  refine' (fun (x : Obj) (_ : ({ cls := Value.type "function", data := Data.func { name := Str.ofString "__repr__", qualname := Str.ofString "StatisticDiff.__repr__", params := fP (hdS (tlS (tlS (tlS (tlS (tlS (cB (hdS (tlS (tlS (tlS (tlS (tlS (tlS (tlS (tlS tops)))))))))))))))), body := FuncBody.stmts (fB (hdS (tlS (tlS (tlS (tlS (tlS (cB (hdS (tlS (tlS (tlS (tlS (tlS (tlS (tlS (tlS tops))))))))))))))))), scope := fS (hdS (tlS (tlS (tlS (tlS (tlS (cB (hdS (tlS (tlS (tlS (tlS (tlS (tlS (tlS (tlS tops)))))))))))))))), globals := 3, closure := [], defaults := Value.none, kwdefaults := Value.none, pyModule := Value.str (Str.ofString "cpy313.tracemalloc") 248, code := Value.ref 164 } } : Obj) = x) => x) _ ?h
  case h =>
    dsimp only [fP, fB, fS, cB, hdS, tlS, tops, PySem.Challenge.pw_wf0048_01]
    exact rfl
noncomputable def o172 : Obj := by
  refine' (fun (x : Obj) (_ : ({ cls := Value.type "function", data := Data.func { name := Str.ofString "_sort_key", qualname := Str.ofString "StatisticDiff._sort_key", params := fP (hdS (tlS (tlS (tlS (tlS (tlS (tlS (cB (hdS (tlS (tlS (tlS (tlS (tlS (tlS (tlS (tlS tops))))))))))))))))), body := FuncBody.stmts (fB (hdS (tlS (tlS (tlS (tlS (tlS (tlS (cB (hdS (tlS (tlS (tlS (tlS (tlS (tlS (tlS (tlS tops)))))))))))))))))), scope := fS (hdS (tlS (tlS (tlS (tlS (tlS (tlS (cB (hdS (tlS (tlS (tlS (tlS (tlS (tlS (tlS (tlS tops))))))))))))))))), globals := 3, closure := [], defaults := Value.none, kwdefaults := Value.none, pyModule := Value.str (Str.ofString "cpy313.tracemalloc") 248, code := Value.ref 171 } } : Obj) = x) => x) _ ?h
  case h =>
    dsimp only [fP, fB, fS, cB, hdS, tlS, tops, PySem.Challenge.pw_wf0048_01]
    exact rfl
noncomputable def o190 : Obj := by
  refine' (fun (x : Obj) (_ : ({ cls := Value.type "function", data := Data.func { name := Str.ofString "_compare_grouped_stats", qualname := Str.ofString "_compare_grouped_stats", params := fP (hdS (tlS (tlS (tlS (tlS (tlS (tlS (tlS (tlS (tlS tops)))))))))), body := FuncBody.stmts (fB (hdS (tlS (tlS (tlS (tlS (tlS (tlS (tlS (tlS (tlS tops))))))))))), scope := fS (hdS (tlS (tlS (tlS (tlS (tlS (tlS (tlS (tlS (tlS tops)))))))))), globals := 3, closure := [], defaults := Value.none, kwdefaults := Value.none, pyModule := Value.str (Str.ofString "cpy313.tracemalloc") 248, code := Value.ref 189 } } : Obj) = x) => x) _ ?h
  case h =>
    dsimp only [fP, fB, fS, cB, hdS, tlS, tops, PySem.Challenge.pw_wf0048_01]
    exact rfl
noncomputable def o195 : Obj := by
  refine' (fun (x : Obj) (_ : ({ cls := Value.type "function", data := Data.func { name := Str.ofString "_law_tags", qualname := Str.ofString "_law_tags", params := fP (hdS (tlS (tlS (tlS (tlS (tlS (tlS (tlS (tlS (tlS (tlS (tlS tops)))))))))))), body := FuncBody.stmts (fB (hdS (tlS (tlS (tlS (tlS (tlS (tlS (tlS (tlS (tlS (tlS (tlS tops))))))))))))), scope := fS (hdS (tlS (tlS (tlS (tlS (tlS (tlS (tlS (tlS (tlS (tlS (tlS tops)))))))))))), globals := 3, closure := [], defaults := Value.none, kwdefaults := Value.none, pyModule := Value.str (Str.ofString "law_wf0048_01") 435, code := Value.ref 194 } } : Obj) = x) => x) _ ?h
  case h =>
    dsimp only [fP, fB, fS, cB, hdS, tlS, tops, PySem.Challenge.pw_wf0048_01]
    exact rfl
noncomputable def o202 : Obj := by
  refine' (fun (x : Obj) (_ : ({ cls := Value.type "function", data := Data.func { name := Str.ofString "_law_other", qualname := Str.ofString "_law_other", params := fP (hdS (tlS (tlS (tlS (tlS (tlS (tlS (tlS (tlS (tlS (tlS (tlS (tlS tops))))))))))))), body := FuncBody.stmts (fB (hdS (tlS (tlS (tlS (tlS (tlS (tlS (tlS (tlS (tlS (tlS (tlS (tlS tops)))))))))))))), scope := fS (hdS (tlS (tlS (tlS (tlS (tlS (tlS (tlS (tlS (tlS (tlS (tlS (tlS tops))))))))))))), globals := 3, closure := [], defaults := Value.none, kwdefaults := Value.none, pyModule := Value.str (Str.ofString "law_wf0048_01") 435, code := Value.ref 201 } } : Obj) = x) => x) _ ?h
  case h =>
    dsimp only [fP, fB, fS, cB, hdS, tlS, tops, PySem.Challenge.pw_wf0048_01]
    exact rfl
noncomputable def o209 : Obj := by
  refine' (fun (x : Obj) (_ : ({ cls := Value.type "function", data := Data.func { name := Str.ofString "_law_element", qualname := Str.ofString "_law_element", params := fP (hdS (tlS (tlS (tlS (tlS (tlS (tlS (tlS (tlS (tlS (tlS (tlS (tlS (tlS tops)))))))))))))), body := FuncBody.stmts (fB (hdS (tlS (tlS (tlS (tlS (tlS (tlS (tlS (tlS (tlS (tlS (tlS (tlS (tlS tops))))))))))))))), scope := fS (hdS (tlS (tlS (tlS (tlS (tlS (tlS (tlS (tlS (tlS (tlS (tlS (tlS (tlS tops)))))))))))))), globals := 3, closure := [], defaults := Value.none, kwdefaults := Value.none, pyModule := Value.str (Str.ofString "law_wf0048_01") 435, code := Value.ref 208 } } : Obj) = x) => x) _ ?h
  case h =>
    dsimp only [fP, fB, fS, cB, hdS, tlS, tops, PySem.Challenge.pw_wf0048_01]
    exact rfl
noncomputable def o214 : Obj := by
  refine' (fun (x : Obj) (_ : ({ cls := Value.type "function", data := Data.func { name := Str.ofString "_law_group", qualname := Str.ofString "_law_group", params := fP (hdS (tlS (tlS (tlS (tlS (tlS (tlS (tlS (tlS (tlS (tlS (tlS (tlS (tlS (tlS tops))))))))))))))), body := FuncBody.stmts (fB (hdS (tlS (tlS (tlS (tlS (tlS (tlS (tlS (tlS (tlS (tlS (tlS (tlS (tlS (tlS tops)))))))))))))))), scope := fS (hdS (tlS (tlS (tlS (tlS (tlS (tlS (tlS (tlS (tlS (tlS (tlS (tlS (tlS (tlS tops))))))))))))))), globals := 3, closure := [], defaults := Value.none, kwdefaults := Value.none, pyModule := Value.str (Str.ofString "law_wf0048_01") 435, code := Value.ref 213 } } : Obj) = x) => x) _ ?h
  case h =>
    dsimp only [fP, fB, fS, cB, hdS, tlS, tops, PySem.Challenge.pw_wf0048_01]
    exact rfl
noncomputable def o219 : Obj := by
  refine' (fun (x : Obj) (_ : ({ cls := Value.type "function", data := Data.func { name := Str.ofString "_law_sum", qualname := Str.ofString "_law_sum", params := fP (hdS (tlS (tlS (tlS (tlS (tlS (tlS (tlS (tlS (tlS (tlS (tlS (tlS (tlS (tlS (tlS tops)))))))))))))))), body := FuncBody.stmts (fB (hdS (tlS (tlS (tlS (tlS (tlS (tlS (tlS (tlS (tlS (tlS (tlS (tlS (tlS (tlS (tlS tops))))))))))))))))), scope := fS (hdS (tlS (tlS (tlS (tlS (tlS (tlS (tlS (tlS (tlS (tlS (tlS (tlS (tlS (tlS (tlS tops)))))))))))))))), globals := 3, closure := [], defaults := Value.none, kwdefaults := Value.none, pyModule := Value.str (Str.ofString "law_wf0048_01") 435, code := Value.ref 218 } } : Obj) = x) => x) _ ?h
  case h =>
    dsimp only [fP, fB, fS, cB, hdS, tlS, tops, PySem.Challenge.pw_wf0048_01]
    exact rfl
noncomputable def o224 : Obj := by
  refine' (fun (x : Obj) (_ : ({ cls := Value.type "function", data := Data.func { name := Str.ofString "_law_due", qualname := Str.ofString "_law_due", params := fP (hdS (tlS (tlS (tlS (tlS (tlS (tlS (tlS (tlS (tlS (tlS (tlS (tlS (tlS (tlS (tlS (tlS tops))))))))))))))))), body := FuncBody.stmts (fB (hdS (tlS (tlS (tlS (tlS (tlS (tlS (tlS (tlS (tlS (tlS (tlS (tlS (tlS (tlS (tlS (tlS tops)))))))))))))))))), scope := fS (hdS (tlS (tlS (tlS (tlS (tlS (tlS (tlS (tlS (tlS (tlS (tlS (tlS (tlS (tlS (tlS (tlS tops))))))))))))))))), globals := 3, closure := [], defaults := Value.none, kwdefaults := Value.none, pyModule := Value.str (Str.ofString "law_wf0048_01") 435, code := Value.ref 223 } } : Obj) = x) => x) _ ?h
  case h =>
    dsimp only [fP, fB, fS, cB, hdS, tlS, tops, PySem.Challenge.pw_wf0048_01]
    exact rfl
noncomputable def o231 : Obj := by
  refine' (fun (x : Obj) (_ : ({ cls := Value.type "function", data := Data.func { name := Str.ofString "_law_reached", qualname := Str.ofString "_law_reached", params := fP (hdS (tlS (tlS (tlS (tlS (tlS (tlS (tlS (tlS (tlS (tlS (tlS (tlS (tlS (tlS (tlS (tlS (tlS tops)))))))))))))))))), body := FuncBody.stmts (fB (hdS (tlS (tlS (tlS (tlS (tlS (tlS (tlS (tlS (tlS (tlS (tlS (tlS (tlS (tlS (tlS (tlS (tlS tops))))))))))))))))))), scope := fS (hdS (tlS (tlS (tlS (tlS (tlS (tlS (tlS (tlS (tlS (tlS (tlS (tlS (tlS (tlS (tlS (tlS (tlS tops)))))))))))))))))), globals := 3, closure := [], defaults := Value.none, kwdefaults := Value.none, pyModule := Value.str (Str.ofString "law_wf0048_01") 435, code := Value.ref 230 } } : Obj) = x) => x) _ ?h
  case h =>
    dsimp only [fP, fB, fS, cB, hdS, tlS, tops, PySem.Challenge.pw_wf0048_01]
    exact rfl
noncomputable def o236 : Obj := by
  refine' (fun (x : Obj) (_ : ({ cls := Value.type "function", data := Data.func { name := Str.ofString "law", qualname := Str.ofString "law", params := fP (hdS (tlS (tlS (tlS (tlS (tlS (tlS (tlS (tlS (tlS (tlS (tlS (tlS (tlS (tlS (tlS (tlS (tlS (tlS tops))))))))))))))))))), body := FuncBody.stmts (fB (hdS (tlS (tlS (tlS (tlS (tlS (tlS (tlS (tlS (tlS (tlS (tlS (tlS (tlS (tlS (tlS (tlS (tlS (tlS tops)))))))))))))))))))), scope := fS (hdS (tlS (tlS (tlS (tlS (tlS (tlS (tlS (tlS (tlS (tlS (tlS (tlS (tlS (tlS (tlS (tlS (tlS (tlS tops))))))))))))))))))), globals := 3, closure := [], defaults := Value.none, kwdefaults := Value.none, pyModule := Value.str (Str.ofString "law_wf0048_01") 435, code := Value.ref 235 } } : Obj) = x) => x) _ ?h
  case h =>
    dsimp only [fP, fB, fS, cB, hdS, tlS, tops, PySem.Challenge.pw_wf0048_01]
    exact rfl

noncomputable def KK : Params → Frag := fun P =>
    (nat_lit 2, { cls := Value.none, data := Data.dict #[] }) ::
    (nat_lit 3, { cls := Value.type "dict", data := Data.dict #[{ hash := PyData.keyHash P (Str.ofString "__name__"), key := Value.str (Str.ofString "__name__") 165, val := Value.str (Str.ofString "law_wf0048_01") 435 }, { hash := PyData.keyHash P (Str.ofString "__doc__"), key := Value.str (Str.ofString "__doc__") 166, val := Value.none }, { hash := PyData.keyHash P (Str.ofString "__package__"), key := Value.str (Str.ofString "__package__") 167, val := Value.none }, { hash := PyData.keyHash P (Str.ofString "__loader__"), key := Value.str (Str.ofString "__loader__") 168, val := Value.builtin "__main__.__loader__#opaque" }, { hash := PyData.keyHash P (Str.ofString "__spec__"), key := Value.str (Str.ofString "__spec__") 169, val := Value.none }, { hash := PyData.keyHash P (Str.ofString "__annotations__"), key := Value.str (Str.ofString "__annotations__") 170, val := Value.ref 6 }, { hash := PyData.keyHash P (Str.ofString "__builtins__"), key := Value.str (Str.ofString "__builtins__") 171, val := Value.ref 4 }, { hash := PyData.keyHash P (Str.ofString "__file__"), key := Value.str (Str.ofString "__file__") 173, val := Value.str (Str.ofString "/claim/cut.py") 172 }, { hash := PyData.keyHash P (Str.ofString "__cached__"), key := Value.str (Str.ofString "__cached__") 174, val := Value.none }, { hash := PyData.keyHash P (Str.ofString "_wall"), key := Value.str (Str.ofString "_wall") 193, val := Value.ref 21 }, { hash := PyData.keyHash P (Str.ofString "_is_wildcard_tag"), key := Value.str (Str.ofString "_is_wildcard_tag") 202, val := Value.ref 28 }, { hash := PyData.keyHash P (Str.ofString "_prepare_tag"), key := Value.str (Str.ofString "_prepare_tag") 217, val := Value.ref 35 }, { hash := PyData.keyHash P (Str.ofString "_SelectorContext"), key := Value.str (Str.ofString "_SelectorContext") 247, val := Value.ref 52 }, { hash := PyData.keyHash P (Str.ofString "_format_size"), key := Value.str (Str.ofString "_format_size") 258, val := Value.ref 63 }, { hash := PyData.keyHash P (Str.ofString "Statistic"), key := Value.str (Str.ofString "Statistic") 335, val := Value.ref 117 }, { hash := PyData.keyHash P (Str.ofString "StatisticDiff"), key := Value.str (Str.ofString "StatisticDiff") 422, val := Value.ref 176 }, { hash := PyData.keyHash P (Str.ofString "_compare_grouped_stats"), key := Value.str (Str.ofString "_compare_grouped_stats") 434, val := Value.ref 190 }, { hash := PyData.keyHash P (Str.ofString "_law_tags"), key := Value.str (Str.ofString "_law_tags") 442, val := Value.ref 195 }, { hash := PyData.keyHash P (Str.ofString "_law_other"), key := Value.str (Str.ofString "_law_other") 455, val := Value.ref 202 }, { hash := PyData.keyHash P (Str.ofString "_law_element"), key := Value.str (Str.ofString "_law_element") 463, val := Value.ref 209 }, { hash := PyData.keyHash P (Str.ofString "_law_group"), key := Value.str (Str.ofString "_law_group") 469, val := Value.ref 214 }, { hash := PyData.keyHash P (Str.ofString "_law_sum"), key := Value.str (Str.ofString "_law_sum") 475, val := Value.ref 219 }, { hash := PyData.keyHash P (Str.ofString "_law_due"), key := Value.str (Str.ofString "_law_due") 481, val := Value.ref 224 }, { hash := PyData.keyHash P (Str.ofString "_law_reached"), key := Value.str (Str.ofString "_law_reached") 497, val := Value.ref 231 }, { hash := PyData.keyHash P (Str.ofString "law"), key := Value.str (Str.ofString "law") 503, val := Value.ref 236 }] 25 }) ::
    (nat_lit 15, { cls := Value.type "tuple", data := Data.seq #[] }) ::
    (nat_lit 17, { cls := Value.type "tuple", data := Data.seq #[Value.str (Str.ofString "k") 190] }) ::
    (nat_lit 18, { cls := Value.type "tuple", data := Data.seq #[] }) ::
    (nat_lit 20, { cls := Value.type "code", data := Data.fields #[Value.str (Str.ofString "_wall") 187, Value.str (Str.ofString "_wall") 188, Value.str (Str.ofString "/claim/cut.py") 189, Value.int 1 0, Value.int 1 0, Value.int 0 0, Value.int 0 0, Value.int 3 0, Value.ref 15, Value.bool Bool.true, Value.int 181 0, Value.ref 16, Value.none, Value.ref 17, Value.ref 18, Value.ref 19, Value.int 191 0, Value.int 1 0, Value.str (Str.ofString "/claim/cut.py") 192] }) ::
    (nat_lit 21, o21) ::
    (nat_lit 22, { cls := Value.type "tuple", data := Data.seq #[] }) ::
    (nat_lit 24, { cls := Value.type "tuple", data := Data.seq #[Value.str (Str.ofString "tag") 199] }) ::
    (nat_lit 25, { cls := Value.type "tuple", data := Data.seq #[] }) ::
    (nat_lit 27, { cls := Value.type "code", data := Data.fields #[Value.str (Str.ofString "_is_wildcard_tag") 196, Value.str (Str.ofString "_is_wildcard_tag") 197, Value.str (Str.ofString "/claim/cut.py") 198, Value.int 5 0, Value.int 1 0, Value.int 0 0, Value.int 0 0, Value.int 3 0, Value.ref 22, Value.bool Bool.true, Value.int 181 0, Value.ref 23, Value.none, Value.ref 24, Value.ref 25, Value.ref 26, Value.int 200 0, Value.int 5 0, Value.str (Str.ofString "/claim/cut.py") 201] }) ::
    (nat_lit 28, o28) ::
    (nat_lit 29, { cls := Value.type "tuple", data := Data.seq #[] }) ::
    (nat_lit 31, { cls := Value.type "tuple", data := Data.seq #[Value.str (Str.ofString "tag") 206, Value.str (Str.ofString "select") 207] }) ::
    (nat_lit 32, { cls := Value.type "tuple", data := Data.seq #[Value.str (Str.ofString "tag") 208, Value.str (Str.ofString "_isinstance") 209, Value.str (Str.ofString "_str") 210, Value.str (Str.ofString "no_ns") 211, Value.str (Str.ofString "ns") 212, Value.str (Str.ofString "ns_only") 213, Value.str (Str.ofString "suffix") 214] }) ::
    (nat_lit 34, { cls := Value.type "code", data := Data.fields #[Value.str (Str.ofString "_prepare_tag") 203, Value.str (Str.ofString "_prepare_tag") 204, Value.str (Str.ofString "/claim/cut.py") 205, Value.int 7 0, Value.int 1 0, Value.int 0 0, Value.int 0 0, Value.int 3 0, Value.ref 29, Value.bool Bool.true, Value.int 181 0, Value.ref 30, Value.none, Value.ref 31, Value.ref 32, Value.ref 33, Value.int 215 0, Value.int 7 0, Value.str (Str.ofString "/claim/cut.py") 216] }) ::
    (nat_lit 35, o35) ::
    (nat_lit 43, { cls := Value.type "tuple", data := Data.seq #[] }) ::
    (nat_lit 45, { cls := Value.type "tuple", data := Data.seq #[Value.str (Str.ofString "self") 234, Value.str (Str.ofString "root") 235] }) ::
    (nat_lit 46, { cls := Value.type "tuple", data := Data.seq #[] }) ::
    (nat_lit 48, { cls := Value.type "code", data := Data.fields #[Value.str (Str.ofString "__init__") 231, Value.str (Str.ofString "_SelectorContext.__init__") 232, Value.str (Str.ofString "/claim/cut.py") 233, Value.int 47 0, Value.int 2 0, Value.int 0 0, Value.int 0 0, Value.int 3 0, Value.ref 43, Value.bool Bool.true, Value.int 181 0, Value.ref 44, Value.none, Value.ref 45, Value.ref 46, Value.ref 47, Value.int 236 0, Value.int 47 0, Value.str (Str.ofString "/claim/cut.py") 237] }) ::
    (nat_lit 49, o49) ::
    (nat_lit 50, { cls := Value.type "tuple", data := Data.seq #[Value.str (Str.ofString "root") 239] }) ::
    (nat_lit 51, { cls := Value.type "dict", data := Data.dict #[{ hash := PyData.keyHash P (Str.ofString "__module__"), key := Value.str (Str.ofString "__module__") 225, val := Value.str (Str.ofString "cpy313.xml.etree.ElementPath") 194 }, { hash := PyData.keyHash P (Str.ofString "__firstlineno__"), key := Value.str (Str.ofString "__firstlineno__") 229, val := Value.int 44 228 }, { hash := PyData.keyHash P (Str.ofString "parent_map"), key := Value.str (Str.ofString "parent_map") 230, val := Value.none }, { hash := PyData.keyHash P (Str.ofString "__init__"), key := Value.str (Str.ofString "__init__") 238, val := Value.ref 49 }, { hash := PyData.keyHash P (Str.ofString "__static_attributes__"), key := Value.str (Str.ofString "__static_attributes__") 240, val := Value.ref 50 }, { hash := PyData.keyHash P (Str.ofString "__dict__"), key := Value.str (Str.ofString "__dict__") 242, val := Value.ref 53 }, { hash := PyData.keyHash P (Str.ofString "__weakref__"), key := Value.str (Str.ofString "__weakref__") 244, val := Value.ref 54 }, { hash := PyData.keyHash P (Str.ofString "__doc__"), key := Value.str (Str.ofString "__doc__") 245, val := Value.none }] 4 }) ::
    (nat_lit 52, { cls := Value.type "type", data := Data.cls { name := Str.ofString "_SelectorContext", bases := [Value.type "object"], mro := [Value.ref 52, Value.type "object"], ns := 51, qualname := Str.ofString "_SelectorContext" }, slots := #[Option.none, Option.none, Option.some (Value.str (Str.ofString "_SelectorContext") 218), Option.some (Value.str (Str.ofString "_SelectorContext") 226), Option.some (Value.builtin "object.__new__"), Option.some (Value.bool Bool.true)] }) ::
    (nat_lit 53, { cls := Value.type "getset_descriptor", data := Data.fields #[Value.str (Str.ofString "__dict__") 241, Value.ref 52, Value.builtin "function.__dict__", Value.builtin "function.__dict__#set"] }) ::
    (nat_lit 54, { cls := Value.type "getset_descriptor", data := Data.fields #[Value.str (Str.ofString "__weakref__") 243, Value.ref 52, Value.builtin "ExceptionGroup.__weakref__", Value.none] }) ::
    (nat_lit 57, { cls := Value.type "tuple", data := Data.seq #[] }) ::
    (nat_lit 59, { cls := Value.type "tuple", data := Data.seq #[Value.str (Str.ofString "size") 253, Value.str (Str.ofString "sign") 254, Value.str (Str.ofString "unit") 255] }) ::
    (nat_lit 60, { cls := Value.type "tuple", data := Data.seq #[] }) ::
    (nat_lit 62, { cls := Value.type "code", data := Data.fields #[Value.str (Str.ofString "_format_size") 250, Value.str (Str.ofString "_format_size") 251, Value.str (Str.ofString "/claim/cut.py") 252, Value.int 50 0, Value.int 2 0, Value.int 0 0, Value.int 0 0, Value.int 3 0, Value.ref 57, Value.bool Bool.true, Value.int 181 0, Value.ref 58, Value.none, Value.ref 59, Value.ref 60, Value.ref 61, Value.int 256 0, Value.int 50 0, Value.str (Str.ofString "/claim/cut.py") 257] }) ::
    (nat_lit 63, o63) ::
    (nat_lit 71, { cls := Value.type "tuple", data := Data.seq #[Value.str (Str.ofString "traceback") 271, Value.str (Str.ofString "size") 272, Value.str (Str.ofString "count") 273] }) ::
    (nat_lit 72, { cls := Value.type "tuple", data := Data.seq #[] }) ::
    (nat_lit 74, { cls := Value.type "tuple", data := Data.seq #[Value.str (Str.ofString "self") 278, Value.str (Str.ofString "traceback") 279, Value.str (Str.ofString "size") 280, Value.str (Str.ofString "count") 281] }) ::
    (nat_lit 75, { cls := Value.type "tuple", data := Data.seq #[] }) ::
    (nat_lit 77, { cls := Value.type "code", data := Data.fields #[Value.str (Str.ofString "__init__") 275, Value.str (Str.ofString "Statistic.__init__") 276, Value.str (Str.ofString "/claim/cut.py") 277, Value.int 66 0, Value.int 4 0, Value.int 0 0, Value.int 0 0, Value.int 3 0, Value.ref 72, Value.bool Bool.true, Value.int 181 0, Value.ref 73, Value.none, Value.ref 74, Value.ref 75, Value.ref 76, Value.int 282 0, Value.int 66 0, Value.str (Str.ofString "/claim/cut.py") 283] }) ::
    (nat_lit 78, o78) ::
    (nat_lit 79, { cls := Value.type "tuple", data := Data.seq #[] }) ::
    (nat_lit 81, { cls := Value.type "tuple", data := Data.seq #[Value.str (Str.ofString "self") 288] }) ::
    (nat_lit 82, { cls := Value.type "tuple", data := Data.seq #[] }) ::
    (nat_lit 84, { cls := Value.type "code", data := Data.fields #[Value.str (Str.ofString "__hash__") 285, Value.str (Str.ofString "Statistic.__hash__") 286, Value.str (Str.ofString "/claim/cut.py") 287, Value.int 71 0, Value.int 1 0, Value.int 0 0, Value.int 0 0, Value.int 3 0, Value.ref 79, Value.bool Bool.true, Value.int 181 0, Value.ref 80, Value.none, Value.ref 81, Value.ref 82, Value.ref 83, Value.int 289 0, Value.int 71 0, Value.str (Str.ofString "/claim/cut.py") 290] }) ::
    (nat_lit 85, o85) ::
    (nat_lit 86, { cls := Value.type "tuple", data := Data.seq #[] }) ::
    (nat_lit 88, { cls := Value.type "tuple", data := Data.seq #[Value.str (Str.ofString "self") 295, Value.str (Str.ofString "other") 296] }) ::
    (nat_lit 89, { cls := Value.type "tuple", data := Data.seq #[] }) ::
    (nat_lit 91, { cls := Value.type "code", data := Data.fields #[Value.str (Str.ofString "__eq__") 292, Value.str (Str.ofString "Statistic.__eq__") 293, Value.str (Str.ofString "/claim/cut.py") 294, Value.int 74 0, Value.int 2 0, Value.int 0 0, Value.int 0 0, Value.int 3 0, Value.ref 86, Value.bool Bool.true, Value.int 181 0, Value.ref 87, Value.none, Value.ref 88, Value.ref 89, Value.ref 90, Value.int 297 0, Value.int 74 0, Value.str (Str.ofString "/claim/cut.py") 298] }) ::
    (nat_lit 92, o92) ::
    (nat_lit 93, { cls := Value.type "tuple", data := Data.seq #[] }) ::
    (nat_lit 95, { cls := Value.type "tuple", data := Data.seq #[Value.str (Str.ofString "self") 303, Value.str (Str.ofString "text") 304, Value.str (Str.ofString "average") 305] }) ::
    (nat_lit 96, { cls := Value.type "tuple", data := Data.seq #[] }) ::
    (nat_lit 98, { cls := Value.type "code", data := Data.fields #[Value.str (Str.ofString "__str__") 300, Value.str (Str.ofString "Statistic.__str__") 301, Value.str (Str.ofString "/claim/cut.py") 302, Value.int 79 0, Value.int 1 0, Value.int 0 0, Value.int 0 0, Value.int 3 0, Value.ref 93, Value.bool Bool.true, Value.int 181 0, Value.ref 94, Value.none, Value.ref 95, Value.ref 96, Value.ref 97, Value.int 306 0, Value.int 79 0, Value.str (Str.ofString "/claim/cut.py") 307] }) ::
    (nat_lit 99, o99) ::
    (nat_lit 100, { cls := Value.type "tuple", data := Data.seq #[] }) ::
    (nat_lit 102, { cls := Value.type "tuple", data := Data.seq #[Value.str (Str.ofString "self") 312] }) ::
    (nat_lit 103, { cls := Value.type "tuple", data := Data.seq #[] }) ::
    (nat_lit 105, { cls := Value.type "code", data := Data.fields #[Value.str (Str.ofString "__repr__") 309, Value.str (Str.ofString "Statistic.__repr__") 310, Value.str (Str.ofString "/claim/cut.py") 311, Value.int 86 0, Value.int 1 0, Value.int 0 0, Value.int 0 0, Value.int 3 0, Value.ref 100, Value.bool Bool.true, Value.int 181 0, Value.ref 101, Value.none, Value.ref 102, Value.ref 103, Value.ref 104, Value.int 313 0, Value.int 86 0, Value.str (Str.ofString "/claim/cut.py") 314] }) ::
    (nat_lit 106, o106) ::
    (nat_lit 107, { cls := Value.type "tuple", data := Data.seq #[] }) ::
    (nat_lit 109, { cls := Value.type "tuple", data := Data.seq #[Value.str (Str.ofString "self") 319] }) ::
    (nat_lit 110, { cls := Value.type "tuple", data := Data.seq #[] }) ::
    (nat_lit 112, { cls := Value.type "code", data := Data.fields #[Value.str (Str.ofString "_sort_key") 316, Value.str (Str.ofString "Statistic._sort_key") 317, Value.str (Str.ofString "/claim/cut.py") 318, Value.int 89 0, Value.int 1 0, Value.int 0 0, Value.int 0 0, Value.int 3 0, Value.ref 107, Value.bool Bool.true, Value.int 181 0, Value.ref 108, Value.none, Value.ref 109, Value.ref 110, Value.ref 111, Value.int 320 0, Value.int 89 0, Value.str (Str.ofString "/claim/cut.py") 321] }) ::
    (nat_lit 113, o113) ::
    (nat_lit 114, { cls := Value.type "tuple", data := Data.seq #[Value.str (Str.ofString "count") 323, Value.str (Str.ofString "size") 324, Value.str (Str.ofString "traceback") 325] }) ::
    (nat_lit 116, { cls := Value.type "dict", data := Data.dict #[{ hash := PyData.keyHash P (Str.ofString "__module__"), key := Value.str (Str.ofString "__module__") 266, val := Value.str (Str.ofString "cpy313.tracemalloc") 248 }, { hash := PyData.keyHash P (Str.ofString "__firstlineno__"), key := Value.str (Str.ofString "__firstlineno__") 270, val := Value.int 63 269 }, { hash := PyData.keyHash P (Str.ofString "__slots__"), key := Value.str (Str.ofString "__slots__") 274, val := Value.ref 71 }, { hash := PyData.keyHash P (Str.ofString "__init__"), key := Value.str (Str.ofString "__init__") 284, val := Value.ref 78 }, { hash := PyData.keyHash P (Str.ofString "__hash__"), key := Value.str (Str.ofString "__hash__") 291, val := Value.ref 85 }, { hash := PyData.keyHash P (Str.ofString "__eq__"), key := Value.str (Str.ofString "__eq__") 299, val := Value.ref 92 }, { hash := PyData.keyHash P (Str.ofString "__str__"), key := Value.str (Str.ofString "__str__") 308, val := Value.ref 99 }, { hash := PyData.keyHash P (Str.ofString "__repr__"), key := Value.str (Str.ofString "__repr__") 315, val := Value.ref 106 }, { hash := PyData.keyHash P (Str.ofString "_sort_key"), key := Value.str (Str.ofString "_sort_key") 322, val := Value.ref 113 }, { hash := PyData.keyHash P (Str.ofString "__static_attributes__"), key := Value.str (Str.ofString "__static_attributes__") 326, val := Value.ref 114 }, { hash := PyData.keyHash P (Str.ofString "count"), key := Value.str (Str.ofString "count") 328, val := Value.ref 118 }, { hash := PyData.keyHash P (Str.ofString "size"), key := Value.str (Str.ofString "size") 330, val := Value.ref 119 }, { hash := PyData.keyHash P (Str.ofString "traceback"), key := Value.str (Str.ofString "traceback") 332, val := Value.ref 120 }, { hash := PyData.keyHash P (Str.ofString "__doc__"), key := Value.str (Str.ofString "__doc__") 333, val := Value.none }] 5 }) ::
    (nat_lit 117, { cls := Value.type "type", data := Data.cls { name := Str.ofString "Statistic", bases := [Value.type "object"], mro := [Value.ref 117, Value.type "object"], ns := 116, qualname := Str.ofString "Statistic", hasDict := Bool.false, slotNames := [Str.ofString "count", Str.ofString "size", Str.ofString "traceback"] }, slots := #[Option.none, Option.none, Option.some (Value.str (Str.ofString "Statistic") 259), Option.some (Value.str (Str.ofString "Statistic") 267), Option.some (Value.builtin "object.__new__"), Option.some (Value.bool Bool.false)] }) ::
    (nat_lit 118, { cls := Value.type "member_descriptor", data := Data.fields #[Value.str (Str.ofString "count") 327, Value.ref 117, Value.builtin "proto.slot", Value.builtin "proto.slot#set", Value.int 2 0] }) ::
    (nat_lit 119, { cls := Value.type "member_descriptor", data := Data.fields #[Value.str (Str.ofString "size") 329, Value.ref 117, Value.builtin "proto.slot", Value.builtin "proto.slot#set", Value.int 1 0] }) ::
    (nat_lit 120, { cls := Value.type "member_descriptor", data := Data.fields #[Value.str (Str.ofString "traceback") 331, Value.ref 117, Value.builtin "proto.slot", Value.builtin "proto.slot#set", Value.int 0 0] }) ::
    (nat_lit 130, { cls := Value.type "tuple", data := Data.seq #[Value.str (Str.ofString "traceback") 348, Value.str (Str.ofString "size") 349, Value.str (Str.ofString "size_diff") 350, Value.str (Str.ofString "count") 351, Value.str (Str.ofString "count_diff") 352] }) ::
    (nat_lit 131, { cls := Value.type "tuple", data := Data.seq #[] }) ::
    (nat_lit 133, { cls := Value.type "tuple", data := Data.seq #[Value.str (Str.ofString "self") 357, Value.str (Str.ofString "traceback") 358, Value.str (Str.ofString "size") 359, Value.str (Str.ofString "size_diff") 360, Value.str (Str.ofString "count") 361, Value.str (Str.ofString "count_diff") 362] }) ::
    (nat_lit 134, { cls := Value.type "tuple", data := Data.seq #[] }) ::
    (nat_lit 136, { cls := Value.type "code", data := Data.fields #[Value.str (Str.ofString "__init__") 354, Value.str (Str.ofString "StatisticDiff.__init__") 355, Value.str (Str.ofString "/claim/cut.py") 356, Value.int 94 0, Value.int 6 0, Value.int 0 0, Value.int 0 0, Value.int 3 0, Value.ref 131, Value.bool Bool.true, Value.int 181 0, Value.ref 132, Value.none, Value.ref 133, Value.ref 134, Value.ref 135, Value.int 363 0, Value.int 94 0, Value.str (Str.ofString "/claim/cut.py") 364] }) ::
    (nat_lit 137, o137) ::
    (nat_lit 138, { cls := Value.type "tuple", data := Data.seq #[] }) ::
    (nat_lit 140, { cls := Value.type "tuple", data := Data.seq #[Value.str (Str.ofString "self") 369] }) ::
    (nat_lit 141, { cls := Value.type "tuple", data := Data.seq #[] }) ::
    (nat_lit 143, { cls := Value.type "code", data := Data.fields #[Value.str (Str.ofString "__hash__") 366, Value.str (Str.ofString "StatisticDiff.__hash__") 367, Value.str (Str.ofString "/claim/cut.py") 368, Value.int 101 0, Value.int 1 0, Value.int 0 0, Value.int 0 0, Value.int 3 0, Value.ref 138, Value.bool Bool.true, Value.int 181 0, Value.ref 139, Value.none, Value.ref 140, Value.ref 141, Value.ref 142, Value.int 370 0, Value.int 101 0, Value.str (Str.ofString "/claim/cut.py") 371] }) ::
    (nat_lit 144, o144) ::
    (nat_lit 145, { cls := Value.type "tuple", data := Data.seq #[] }) ::
    (nat_lit 147, { cls := Value.type "tuple", data := Data.seq #[Value.str (Str.ofString "self") 376, Value.str (Str.ofString "other") 377] }) ::
    (nat_lit 148, { cls := Value.type "tuple", data := Data.seq #[] }) ::
    (nat_lit 150, { cls := Value.type "code", data := Data.fields #[Value.str (Str.ofString "__eq__") 373, Value.str (Str.ofString "StatisticDiff.__eq__") 374, Value.str (Str.ofString "/claim/cut.py") 375, Value.int 104 0, Value.int 2 0, Value.int 0 0, Value.int 0 0, Value.int 3 0, Value.ref 145, Value.bool Bool.true, Value.int 181 0, Value.ref 146, Value.none, Value.ref 147, Value.ref 148, Value.ref 149, Value.int 378 0, Value.int 104 0, Value.str (Str.ofString "/claim/cut.py") 379] }) ::
    (nat_lit 151, o151) ::
    (nat_lit 152, { cls := Value.type "tuple", data := Data.seq #[] }) ::
    (nat_lit 154, { cls := Value.type "tuple", data := Data.seq #[Value.str (Str.ofString "self") 384, Value.str (Str.ofString "text") 385, Value.str (Str.ofString "average") 386] }) ::
    (nat_lit 155, { cls := Value.type "tuple", data := Data.seq #[] }) ::
    (nat_lit 157, { cls := Value.type "code", data := Data.fields #[Value.str (Str.ofString "__str__") 381, Value.str (Str.ofString "StatisticDiff.__str__") 382, Value.str (Str.ofString "/claim/cut.py") 383, Value.int 109 0, Value.int 1 0, Value.int 0 0, Value.int 0 0, Value.int 3 0, Value.ref 152, Value.bool Bool.true, Value.int 181 0, Value.ref 153, Value.none, Value.ref 154, Value.ref 155, Value.ref 156, Value.int 387 0, Value.int 109 0, Value.str (Str.ofString "/claim/cut.py") 388] }) ::
    (nat_lit 158, o158) ::
    (nat_lit 159, { cls := Value.type "tuple", data := Data.seq #[] }) ::
    (nat_lit 161, { cls := Value.type "tuple", data := Data.seq #[Value.str (Str.ofString "self") 393] }) ::
    (nat_lit 162, { cls := Value.type "tuple", data := Data.seq #[] }) ::
    (nat_lit 164, { cls := Value.type "code", data := Data.fields #[Value.str (Str.ofString "__repr__") 390, Value.str (Str.ofString "StatisticDiff.__repr__") 391, Value.str (Str.ofString "/claim/cut.py") 392, Value.int 116 0, Value.int 1 0, Value.int 0 0, Value.int 0 0, Value.int 3 0, Value.ref 159, Value.bool Bool.true, Value.int 181 0, Value.ref 160, Value.none, Value.ref 161, Value.ref 162, Value.ref 163, Value.int 394 0, Value.int 116 0, Value.str (Str.ofString "/claim/cut.py") 395] }) ::
    (nat_lit 165, o165) ::
    (nat_lit 166, { cls := Value.type "tuple", data := Data.seq #[] }) ::
    (nat_lit 168, { cls := Value.type "tuple", data := Data.seq #[Value.str (Str.ofString "self") 400] }) ::
    (nat_lit 169, { cls := Value.type "tuple", data := Data.seq #[] }) ::
    (nat_lit 171, { cls := Value.type "code", data := Data.fields #[Value.str (Str.ofString "_sort_key") 397, Value.str (Str.ofString "StatisticDiff._sort_key") 398, Value.str (Str.ofString "/claim/cut.py") 399, Value.int 119 0, Value.int 1 0, Value.int 0 0, Value.int 0 0, Value.int 3 0, Value.ref 166, Value.bool Bool.true, Value.int 181 0, Value.ref 167, Value.none, Value.ref 168, Value.ref 169, Value.ref 170, Value.int 401 0, Value.int 119 0, Value.str (Str.ofString "/claim/cut.py") 402] }) ::
    (nat_lit 172, o172) ::
    (nat_lit 173, { cls := Value.type "tuple", data := Data.seq #[Value.str (Str.ofString "count") 404, Value.str (Str.ofString "count_diff") 405, Value.str (Str.ofString "size") 406, Value.str (Str.ofString "size_diff") 407, Value.str (Str.ofString "traceback") 408] }) ::
    (nat_lit 175, { cls := Value.type "dict", data := Data.dict #[{ hash := PyData.keyHash P (Str.ofString "__module__"), key := Value.str (Str.ofString "__module__") 343, val := Value.str (Str.ofString "cpy313.tracemalloc") 248 }, { hash := PyData.keyHash P (Str.ofString "__firstlineno__"), key := Value.str (Str.ofString "__firstlineno__") 347, val := Value.int 91 346 }, { hash := PyData.keyHash P (Str.ofString "__slots__"), key := Value.str (Str.ofString "__slots__") 353, val := Value.ref 130 }, { hash := PyData.keyHash P (Str.ofString "__init__"), key := Value.str (Str.ofString "__init__") 365, val := Value.ref 137 }, { hash := PyData.keyHash P (Str.ofString "__hash__"), key := Value.str (Str.ofString "__hash__") 372, val := Value.ref 144 }, { hash := PyData.keyHash P (Str.ofString "__eq__"), key := Value.str (Str.ofString "__eq__") 380, val := Value.ref 151 }, { hash := PyData.keyHash P (Str.ofString "__str__"), key := Value.str (Str.ofString "__str__") 389, val := Value.ref 158 }, { hash := PyData.keyHash P (Str.ofString "__repr__"), key := Value.str (Str.ofString "__repr__") 396, val := Value.ref 165 }, { hash := PyData.keyHash P (Str.ofString "_sort_key"), key := Value.str (Str.ofString "_sort_key") 403, val := Value.ref 172 }, { hash := PyData.keyHash P (Str.ofString "__static_attributes__"), key := Value.str (Str.ofString "__static_attributes__") 409, val := Value.ref 173 }, { hash := PyData.keyHash P (Str.ofString "count"), key := Value.str (Str.ofString "count") 411, val := Value.ref 177 }, { hash := PyData.keyHash P (Str.ofString "count_diff"), key := Value.str (Str.ofString "count_diff") 413, val := Value.ref 178 }, { hash := PyData.keyHash P (Str.ofString "size"), key := Value.str (Str.ofString "size") 415, val := Value.ref 179 }, { hash := PyData.keyHash P (Str.ofString "size_diff"), key := Value.str (Str.ofString "size_diff") 417, val := Value.ref 180 }, { hash := PyData.keyHash P (Str.ofString "traceback"), key := Value.str (Str.ofString "traceback") 419, val := Value.ref 181 }, { hash := PyData.keyHash P (Str.ofString "__doc__"), key := Value.str (Str.ofString "__doc__") 420, val := Value.none }] 7 }) ::
    (nat_lit 176, { cls := Value.type "type", data := Data.cls { name := Str.ofString "StatisticDiff", bases := [Value.type "object"], mro := [Value.ref 176, Value.type "object"], ns := 175, qualname := Str.ofString "StatisticDiff", hasDict := Bool.false, slotNames := [Str.ofString "count", Str.ofString "count_diff", Str.ofString "size", Str.ofString "size_diff", Str.ofString "traceback"] }, slots := #[Option.none, Option.none, Option.some (Value.str (Str.ofString "StatisticDiff") 336), Option.some (Value.str (Str.ofString "StatisticDiff") 344), Option.some (Value.builtin "object.__new__"), Option.some (Value.bool Bool.false)] }) ::
    (nat_lit 177, { cls := Value.type "member_descriptor", data := Data.fields #[Value.str (Str.ofString "count") 410, Value.ref 176, Value.builtin "proto.slot", Value.builtin "proto.slot#set", Value.int 4 0] }) ::
    (nat_lit 178, { cls := Value.type "member_descriptor", data := Data.fields #[Value.str (Str.ofString "count_diff") 412, Value.ref 176, Value.builtin "proto.slot", Value.builtin "proto.slot#set", Value.int 3 0] }) ::
    (nat_lit 179, { cls := Value.type "member_descriptor", data := Data.fields #[Value.str (Str.ofString "size") 414, Value.ref 176, Value.builtin "proto.slot", Value.builtin "proto.slot#set", Value.int 2 0] }) ::
    (nat_lit 180, { cls := Value.type "member_descriptor", data := Data.fields #[Value.str (Str.ofString "size_diff") 416, Value.ref 176, Value.builtin "proto.slot", Value.builtin "proto.slot#set", Value.int 1 0] }) ::
    (nat_lit 181, { cls := Value.type "member_descriptor", data := Data.fields #[Value.str (Str.ofString "traceback") 418, Value.ref 176, Value.builtin "proto.slot", Value.builtin "proto.slot#set", Value.int 0 0] }) ::
    (nat_lit 184, { cls := Value.type "tuple", data := Data.seq #[] }) ::
    (nat_lit 186, { cls := Value.type "tuple", data := Data.seq #[Value.str (Str.ofString "old_group") 426, Value.str (Str.ofString "new_group") 427, Value.str (Str.ofString "statistics") 428, Value.str (Str.ofString "traceback") 429, Value.str (Str.ofString "stat") 430, Value.str (Str.ofString "previous") 431] }) ::
    (nat_lit 187, { cls := Value.type "tuple", data := Data.seq #[] }) ::
    (nat_lit 189, { cls := Value.type "code", data := Data.fields #[Value.str (Str.ofString "_compare_grouped_stats") 423, Value.str (Str.ofString "_compare_grouped_stats") 424, Value.str (Str.ofString "/claim/cut.py") 425, Value.int 121 0, Value.int 2 0, Value.int 0 0, Value.int 0 0, Value.int 3 0, Value.ref 184, Value.bool Bool.true, Value.int 181 0, Value.ref 185, Value.none, Value.ref 186, Value.ref 187, Value.ref 188, Value.int 432 0, Value.int 121 0, Value.str (Str.ofString "/claim/cut.py") 433] }) ::
    (nat_lit 190, o190) ::
    (nat_lit 191, { cls := Value.type "tuple", data := Data.seq #[] }) ::
    (nat_lit 194, { cls := Value.type "code", data := Data.fields #[Value.str (Str.ofString "_law_tags") 437, Value.str (Str.ofString "_law_tags") 438, Value.str (Str.ofString "/claim/cut.py") 439, Value.int 135 0, Value.int 1 0, Value.int 0 0, Value.int 0 0, Value.int 3 0, Value.ref 191, Value.bool Bool.true, Value.int 181 0, Value.ref 192, Value.none, Value.none, Value.none, Value.ref 193, Value.int 440 0, Value.int 135 0, Value.str (Str.ofString "/claim/cut.py") 441] }) ::
    (nat_lit 195, o195) ::
    (nat_lit 196, { cls := Value.type "tuple", data := Data.seq #[] }) ::
    (nat_lit 198, { cls := Value.type "tuple", data := Data.seq #[Value.str (Str.ofString "number") 446, Value.str (Str.ofString "chosen") 447, Value.str (Str.ofString "other") 448, Value.str (Str.ofString "space") 449, Value.str (Str.ofString "row") 450, Value.str (Str.ofString "wish") 451, Value.str (Str.ofString "rows") 452] }) ::
    (nat_lit 199, { cls := Value.type "tuple", data := Data.seq #[] }) ::
    (nat_lit 201, { cls := Value.type "code", data := Data.fields #[Value.str (Str.ofString "_law_other") 443, Value.str (Str.ofString "_law_other") 444, Value.str (Str.ofString "/claim/cut.py") 445, Value.int 141 0, Value.int 2 0, Value.int 0 0, Value.int 0 0, Value.int 3 0, Value.ref 196, Value.bool Bool.true, Value.int 181 0, Value.ref 197, Value.none, Value.ref 198, Value.ref 199, Value.ref 200, Value.int 453 0, Value.int 141 0, Value.str (Str.ofString "/claim/cut.py") 454] }) ::
    (nat_lit 202, o202) ::
    (nat_lit 203, { cls := Value.type "tuple", data := Data.seq #[] }) ::
    (nat_lit 205, { cls := Value.type "tuple", data := Data.seq #[Value.str (Str.ofString "tag") 459, Value.str (Str.ofString "element") 460] }) ::
    (nat_lit 206, { cls := Value.type "tuple", data := Data.seq #[] }) ::
    (nat_lit 208, { cls := Value.type "code", data := Data.fields #[Value.str (Str.ofString "_law_element") 456, Value.str (Str.ofString "_law_element") 457, Value.str (Str.ofString "/claim/cut.py") 458, Value.int 151 0, Value.int 1 0, Value.int 0 0, Value.int 0 0, Value.int 3 0, Value.ref 203, Value.bool Bool.true, Value.int 181 0, Value.ref 204, Value.none, Value.ref 205, Value.ref 206, Value.ref 207, Value.int 461 0, Value.int 151 0, Value.str (Str.ofString "/claim/cut.py") 462] }) ::
    (nat_lit 209, o209) ::
    (nat_lit 210, { cls := Value.type "tuple", data := Data.seq #[] }) ::
    (nat_lit 213, { cls := Value.type "code", data := Data.fields #[Value.str (Str.ofString "_law_group") 464, Value.str (Str.ofString "_law_group") 465, Value.str (Str.ofString "/claim/cut.py") 466, Value.int 155 0, Value.int 2 0, Value.int 0 0, Value.int 0 0, Value.int 3 0, Value.ref 210, Value.bool Bool.true, Value.int 181 0, Value.ref 211, Value.none, Value.none, Value.none, Value.ref 212, Value.int 467 0, Value.int 155 0, Value.str (Str.ofString "/claim/cut.py") 468] }) ::
    (nat_lit 214, o214) ::
    (nat_lit 215, { cls := Value.type "tuple", data := Data.seq #[] }) ::
    (nat_lit 218, { cls := Value.type "code", data := Data.fields #[Value.str (Str.ofString "_law_sum") 470, Value.str (Str.ofString "_law_sum") 471, Value.str (Str.ofString "/claim/cut.py") 472, Value.int 166 0, Value.int 2 0, Value.int 0 0, Value.int 0 0, Value.int 3 0, Value.ref 215, Value.bool Bool.true, Value.int 181 0, Value.ref 216, Value.none, Value.none, Value.none, Value.ref 217, Value.int 473 0, Value.int 166 0, Value.str (Str.ofString "/claim/cut.py") 474] }) ::
    (nat_lit 219, o219) ::
    (nat_lit 220, { cls := Value.type "tuple", data := Data.seq #[] }) ::
    (nat_lit 223, { cls := Value.type "code", data := Data.fields #[Value.str (Str.ofString "_law_due") 476, Value.str (Str.ofString "_law_due") 477, Value.str (Str.ofString "/claim/cut.py") 478, Value.int 169 0, Value.int 3 0, Value.int 0 0, Value.int 0 0, Value.int 3 0, Value.ref 220, Value.bool Bool.true, Value.int 181 0, Value.ref 221, Value.none, Value.none, Value.none, Value.ref 222, Value.int 479 0, Value.int 169 0, Value.str (Str.ofString "/claim/cut.py") 480] }) ::
    (nat_lit 224, o224) ::
    (nat_lit 225, { cls := Value.type "tuple", data := Data.seq #[] }) ::
    (nat_lit 227, { cls := Value.type "tuple", data := Data.seq #[Value.str (Str.ofString "chosen") 485, Value.str (Str.ofString "reached") 486, Value.str (Str.ofString "at") 487, Value.str (Str.ofString "low") 488, Value.str (Str.ofString "high") 489, Value.str (Str.ofString "up") 490, Value.str (Str.ofString "down") 491, Value.str (Str.ofString "one") 492, Value.str (Str.ofString "other") 493, Value.str (Str.ofString "changed") 494] }) ::
    (nat_lit 228, { cls := Value.type "tuple", data := Data.seq #[] }) ::
    (nat_lit 230, { cls := Value.type "code", data := Data.fields #[Value.str (Str.ofString "_law_reached") 482, Value.str (Str.ofString "_law_reached") 483, Value.str (Str.ofString "/claim/cut.py") 484, Value.int 176 0, Value.int 1 0, Value.int 0 0, Value.int 0 0, Value.int 3 0, Value.ref 225, Value.bool Bool.true, Value.int 181 0, Value.ref 226, Value.none, Value.ref 227, Value.ref 228, Value.ref 229, Value.int 495 0, Value.int 176 0, Value.str (Str.ofString "/claim/cut.py") 496] }) ::
    (nat_lit 231, o231) ::
    (nat_lit 232, { cls := Value.type "tuple", data := Data.seq #[] }) ::
    (nat_lit 235, { cls := Value.type "code", data := Data.fields #[Value.str (Str.ofString "law") 498, Value.str (Str.ofString "law") 499, Value.str (Str.ofString "/claim/cut.py") 500, Value.int 189 0, Value.int 1 0, Value.int 0 0, Value.int 0 0, Value.int 3 0, Value.ref 232, Value.bool Bool.true, Value.int 181 0, Value.ref 233, Value.none, Value.none, Value.none, Value.ref 234, Value.int 501 0, Value.int 189 0, Value.str (Str.ofString "/claim/cut.py") 502] }) ::
    (nat_lit 236, o236) :: []
noncomputable def view0 : Program := { PySem.Challenge.pw_wf0048_01 with main := { PySem.Challenge.pw_wf0048_01.main with body := [(hdS tops), (hdS (tlS (tlS tops))), (hdS (tlS (tlS (tlS tops)))), (hdS (tlS (tlS (tlS (tlS tops))))), (hdS (tlS (tlS (tlS (tlS (tlS (tlS tops))))))), (hdS (tlS (tlS (tlS (tlS (tlS (tlS (tlS tops)))))))), (hdS (tlS (tlS (tlS (tlS (tlS (tlS (tlS (tlS tops))))))))), (hdS (tlS (tlS (tlS (tlS (tlS (tlS (tlS (tlS (tlS tops)))))))))), (hdS (tlS (tlS (tlS (tlS (tlS (tlS (tlS (tlS (tlS (tlS (tlS tops)))))))))))), (hdS (tlS (tlS (tlS (tlS (tlS (tlS (tlS (tlS (tlS (tlS (tlS (tlS tops))))))))))))), (hdS (tlS (tlS (tlS (tlS (tlS (tlS (tlS (tlS (tlS (tlS (tlS (tlS (tlS tops)))))))))))))), (hdS (tlS (tlS (tlS (tlS (tlS (tlS (tlS (tlS (tlS (tlS (tlS (tlS (tlS (tlS tops))))))))))))))), (hdS (tlS (tlS (tlS (tlS (tlS (tlS (tlS (tlS (tlS (tlS (tlS (tlS (tlS (tlS (tlS tops)))))))))))))))), (hdS (tlS (tlS (tlS (tlS (tlS (tlS (tlS (tlS (tlS (tlS (tlS (tlS (tlS (tlS (tlS (tlS tops))))))))))))))))), (hdS (tlS (tlS (tlS (tlS (tlS (tlS (tlS (tlS (tlS (tlS (tlS (tlS (tlS (tlS (tlS (tlS (tlS tops)))))))))))))))))), (hdS (tlS (tlS (tlS (tlS (tlS (tlS (tlS (tlS (tlS (tlS (tlS (tlS (tlS (tlS (tlS (tlS (tlS (tlS tops)))))))))))))))))))] } }
set_option maxHeartbeats 0 in
noncomputable def view : Program := by
  refine' (fun (x : Program) (_ : view0 = x) => x) _ ?h
  case h =>
    dsimp only [view0, hdS, tlS, tops, PySem.Challenge.pw_wf0048_01]
    exact rfl
def asL : List Addr := [2, 3, 15, 17, 18, 20, 21, 22, 24, 25, 27, 28, 29, 31, 32, 34, 35, 43, 45, 46, 48, 49, 50, 51, 52, 53, 54, 57, 59, 60, 62, 63, 71, 72, 74, 75, 77, 78, 79, 81, 82, 84, 85, 86, 88, 89, 91, 92, 93, 95, 96, 98, 99, 100, 102, 103, 105, 106, 107, 109, 110, 112, 113, 114, 116, 117, 118, 119, 120, 130, 131, 133, 134, 136, 137, 138, 140, 141, 143, 144, 145, 147, 148, 150, 151, 152, 154, 155, 157, 158, 159, 161, 162, 164, 165, 166, 168, 169, 171, 172, 173, 175, 176, 177, 178, 179, 180, 181, 184, 186, 187, 189, 190, 191, 194, 195, 196, 198, 199, 201, 202, 203, 205, 206, 208, 209, 210, 213, 214, 215, 218, 219, 220, 223, 224, 225, 227, 228, 230, 231, 232, 235, 236]
theorem asOk : ∀ P, asL = (KK P).map (·.1) := fun _ => by kernel_rfl
noncomputable abbrev rr := PySem.Challenge.rw_wf0048_01.row
noncomputable abbrev HH := kmHook KK asL asOk [30]
abbrev looseL : List Str := [Str.ofString "_SelectorContext", Str.ofString "Statistic", Str.ofString "StatisticDiff"]
set_option maxHeartbeats 0 in
theorem whole : LeftO rr.toRowW.prog view looseL (fun s => xlAt view [] s && recOk (RowW.records rr.toRowW) s) (Hook.obs HH) (Hook.val HH) 3172 := fun w => by kernel_rfl
def sLaw : Stmt := hdS (tlS (tlS (tlS (tlS (tlS (tlS (tlS (tlS (tlS (tlS (tlS (tlS (tlS (tlS (tlS (tlS (tlS (tlS tops))))))))))))))))))
def dLaw : DefRec := { name := Str.ofString "law", params := fP sLaw, body := fB sLaw, scope := fS sLaw, pos := fPos sLaw }
set_option maxHeartbeats 0 in
theorem hd (hc : WalkO view looseL (XL view []) (Hook.says HH) rr.toRowW dLaw [] fun f vs => call f vs) : PySem.Challenge.rw_wf0048_01.Holds := by
  o_law
  refine holds_open (q := view) (loose := looseL) (Xt := fun s => xlAt view [] s && recOk (RowW.records rr.toRowW) s) (XP := XL view []) (Yf := Hook.obs HH) (Ya := Hook.val HH) (YP := Hook.says HH) (d := dLaw) (kwd := []) (N := 3172)
    whole (Hook.of HH) (Hook.keeps HH) (fun s e => xl_of s (Bool.and_eq_true_iff.mp e).1) XL.keeps (by kernel_rfl) (by kernel_rfl) (by kernel_rfl) (fun s e => recFacts_of (Bool.and_eq_true_iff.mp e).2) (by rfl) (by assumption) (by decide +kernel) ⟨rfl, rfl, rfl, rfl, rfl, by decide +kernel⟩ ?hw hc
  case hw => w_witness2
end
end Mine
open PySem.Spec PySem.Calls
set_option maxRecDepth 100000
namespace Mine
abbrev Pg : Program := PySem.Challenge.rw_wf0048_01.row.prog

/-! ## heaps -/
theorem stays_refl (h : Heap) : h.StaysIn h := fun _ _ e => e
theorem stays_trans {a b c : Heap} (x : a.StaysIn b) (y : b.StaysIn c) : a.StaysIn c := fun q o e => y q o (x q o e)
def above (n : Nat) (h : Heap) : Heap := hideAll h (List.range n)
theorem above_get {n : Nat} {h : Heap} {a : Addr} {o : Obj} (e : h.get? a = some o) (hn : n ≤ a) : (above n h).get? a = some o :=
  hideAll_get _ e (by rw [List.mem_range]; exact Nat.not_lt.mpr hn)
theorem above_stays (n : Nat) (h : Heap) : (above n h).StaysIn h := fun _ _ e => of_hideAll _ e
theorem above_none {n : Nat} {h : Heap} {a : Addr} (hn : a < n) : (above n h).get? a = none := hideAll_none _ (List.mem_range.mpr hn)
theorem above_ge {n : Nat} {h : Heap} {a : Addr} {o : Obj} (e : (above n h).get? a = some o) : n ≤ a := by
  rcases Nat.lt_or_ge a n with q | q
  · rw [above_none q] at e; cases e
  · exact q
theorem above_mono {n n' : Nat} {h h' : Heap} (k : (above n h).StaysIn h') (hn : n ≤ n') : (above n' h).StaysIn (above n h') := fun a o e => by
  have hge := above_ge e
  exact above_get (k a o (above_get (of_hideAll _ e) (Nat.le_trans hn hge))) (Nat.le_trans hn hge)
/-- what is new since a heap of n objects stays new when the heap grows -/
theorem above_up {n : Nat} {h h' : Heap} (k : h.StaysIn h') : (above n h).StaysIn (above n h') := fun a o e => above_get (k a o (of_hideAll _ e)) (above_ge e)
theorem above_le {n n' : Nat} {h : Heap} (hn : n ≤ n') : (above n' h).StaysIn (above n h) := fun a o e => above_get (of_hideAll _ e) (Nat.le_trans hn (above_ge e))

abbrev Mut := List (Addr × (Obj → Prop))
def listP (its : List Value) (o : Obj) : Prop := ∃ n, o = { cls := .type "list", data := .seq its.toArray n }
def cellP (v : Option Value) (o : Obj) : Prop := o.data = .cell v
theorem listP.is {h : Heap} {a : Addr} {its : List Value} {o : Obj} (e : h.get? a = some o) (p : listP its o) : h.IsList a its.toArray := let ⟨n, q⟩ := p; ⟨o, e, by rw [q], n, by rw [q]⟩

/-- a frame's names with one more stored -/
def upd (x : Str) (v : Value) (m : Str → Option Value) : Str → Option Value := fun y => if y = x then some v else m y
/-- a frame at L with its names m, over what stays (g), and what may turn (ms) -/
structure FH (g : Heap) (L : Addr) (h : Heap) (m : Str → Option Value) (ms : Mut) : Prop where
  ns : h.Ns L m
  keep : g.StaysIn h
  off : g.get? L = none
  tur : ∀ p ∈ ms, (∃ o, h.get? p.1 = some o ∧ p.2 o) ∧ p.1 ≠ L ∧ g.get? p.1 = none
  nodup : (ms.map (·.1)).Nodup

section
variable {g g' h h' : Heap} {L d : Addr} {m m' : Str → Option Value} {ms ms' : Mut} {o : Obj} {p p' : Obj → Prop}

theorem FH.at {i : Nat} (H : FH g L h m ms) (e : ms[i]? = some (d, p)) : (∃ o, h.get? d = some o ∧ p o) ∧ d ≠ L ∧ g.get? d = none := H.tur _ (List.mem_of_getElem? e)
theorem FH.lt (H : FH g L h m ms) : L < h.objs.size := H.ns.lt
theorem FH.mlt (H : FH g L h m ms) : ∀ p ∈ ms, p.1 < h.objs.size := fun p hp => let ⟨⟨_, e, _⟩, _⟩ := H.tur p hp; Heap.lt_size e
theorem FH.grow (H : FH g L h m ms) (k : h.StaysIn h') : FH g L h' m ms :=
  ⟨H.ns.keeps k, stays_trans H.keep k, H.off, fun p hp => let ⟨⟨o, e, r⟩, t⟩ := H.tur p hp; ⟨⟨o, k _ _ e, r⟩, t⟩, H.nodup⟩
theorem FH.set (H : FH g L h m ms) (hn : h'.Ns L m') (hs : Heap.SameBut L h h') : FH g L h' m' ms :=
  ⟨hn, fun b o e => (hs.2 b fun q => by rw [q, H.off] at e; cases e).trans (H.keep b o e), H.off,
    fun p hp => let ⟨⟨o, e, r⟩, t⟩ := H.tur p hp; ⟨⟨o, (hs.2 _ t.1).trans e, r⟩, t⟩, H.nodup⟩
theorem set_map {i : Nat} (hi : ms[i]? = some (d, p)) : (ms.set i (d, p')).map (·.1) = ms.map (·.1) := by
  rw [List.map_set]
  refine List.ext_getElem? fun j => ?_
  rw [List.getElem?_set]
  split
  · rename_i e
    subst e
    split
    · rw [List.getElem?_map, hi]; rfl
    · rename_i q; rw [List.getElem?_eq_none (by simpa using q)]
  · rfl
theorem FH.upd {i : Nat} (H : FH g L h m ms) (hi : ms[i]? = some (d, p)) (hx : Heap.ExtBut d h h') (ho : h'.get? d = some o) (hp : p' o) : FH g L h' m (ms.set i (d, p')) := by
  have hd := H.at hi
  refine ⟨H.ns.extBut hx (Ne.symm hd.2.1), fun b o e => hx b o (fun q => by rw [q, hd.2.2] at e; cases e) (H.keep b o e), H.off, fun q hq => ?_, by rw [set_map hi]; exact H.nodup⟩
  obtain ⟨j, hj⟩ := List.getElem?_of_mem hq
  rw [List.getElem?_set] at hj
  split at hj
  · rename_i e
    split at hj
    · cases hj; exact ⟨⟨o, ho, hp⟩, hd.2⟩
    · cases hj
  · rename_i ne
    have z := H.tur q (List.mem_of_getElem? hj)
    refine ⟨?_, z.2⟩
    obtain ⟨o', e', r'⟩ := z.1
    refine ⟨o', hx _ _ (fun q' => ne ?_) e', r'⟩
    have nd := H.nodup
    have h1 : (ms.map (·.1))[i]? = some d := by rw [List.getElem?_map, hi]; rfl
    have h2 : (ms.map (·.1))[j]? = some d := by rw [List.getElem?_map, hj, ← q']; rfl
    obtain ⟨l1, e1⟩ := List.getElem?_eq_some_iff.mp h1
    obtain ⟨l2, e2⟩ := List.getElem?_eq_some_iff.mp h2
    exact (List.getElem_inj nd).mp (e1.trans e2.symm)
theorem FH.push (H : FH g L h m ms) (ho : o.isFreed = false) (hp : p o) : FH g L (h.push o) m ((h.objs.size, p) :: ms) := by
  have k : h.StaysIn (h.push o) := fun _ _ e => Heap.get?_push_of_some _ e
  have G := H.grow k
  refine ⟨G.ns, G.keep, G.off, fun q hq => ?_, List.nodup_cons.mpr ⟨fun hm => ?_, H.nodup⟩⟩
  · rcases List.mem_cons.mp hq with rfl | hq
    · refine ⟨⟨o, Heap.get?_push_size _ ho, hp⟩, Nat.ne_of_gt H.lt, ?_⟩
      cases e : g.get? h.objs.size with
      | none => rfl
      | some o' => exact absurd (Heap.lt_size (H.keep _ _ e)) (Nat.lt_irrefl _)
    · exact G.tur q hq
  · obtain ⟨q, hq, e⟩ := List.mem_map.mp hm
    exact absurd (H.mlt q hq) (by rw [e]; exact Nat.lt_irrefl _)
theorem FH.drop (H : FH g L h m ms) (hs : ms'.Sublist ms) : FH g L h m ms' :=
  ⟨H.ns, H.keep, H.off, fun p hp => H.tur p (hs.subset hp), (hs.map _).nodup H.nodup⟩
/-- what stays is taken anew: all but the frame and what may still turn -/
theorem FH.rebase (H : FH g L h m ms) (hs : ms'.Sublist ms) : ∃ g', FH g' L h m ms' ∧ g.StaysIn g' ∧ g'.objs.size = h.objs.size ∧
    (∀ p ∈ ms, p.1 ∉ ms'.map (·.1) → ∃ o, g'.get? p.1 = some o ∧ p.2 o) ∧ (∀ n, L < n → (∀ p ∈ ms', p.1 < n) → (above n h).StaysIn g') ∧ g'.StaysIn h := by
  refine ⟨hideAll h (L :: ms'.map (·.1)), ⟨H.ns, fun _ _ e => of_hideAll _ e, hideAll_none _ (.head _), fun p hp => ?_, (H.drop hs).nodup⟩, fun b o e => ?_, hideAll_size _ _, fun p hp hn => ?_, fun n hL hm b o e => ?_, fun _ _ e => of_hideAll _ e⟩
  · exact ⟨((H.drop hs).tur p hp).1, ((H.drop hs).tur p hp).2.1, hideAll_none _ (.tail _ (List.mem_map_of_mem hp))⟩
  · refine hideAll_get _ (H.keep b o e) fun hm => ?_
    rcases List.mem_cons.mp hm with q | q
    · rw [q, H.off] at e; cases e
    · obtain ⟨p, hp, q⟩ := List.mem_map.mp q
      have := ((H.drop hs).tur p hp).2.2
      rw [q, e] at this; cases this
  · obtain ⟨⟨o, e, r⟩, hL, _⟩ := H.tur p hp
    exact ⟨o, hideAll_get _ e (fun hm => by rcases List.mem_cons.mp hm with q | q; exact hL q; exact hn q), r⟩
  · refine hideAll_get _ (of_hideAll _ e) fun hmem => ?_
    have hge := above_ge e
    rcases List.mem_cons.mp hmem with q | q
    · rw [q] at hge; exact absurd hL (Nat.not_lt.mpr hge)
    · obtain ⟨p, hp, q⟩ := List.mem_map.mp q
      rw [← q] at hge; exact absurd (hm p hp) (Nat.not_lt.mpr hge)
end

/-! ## what a call finds -/
structure Wd (w : World) (g : Heap) : Prop where
  kin : (KK w.params).In g
  top : ∃ p loose mean mg mb, Top p loose mean mg mb g
theorem Wd.mono {w : World} {g g' : Heap} (W : Wd w g) (k : g.StaysIn g') : Wd w g' := ⟨W.kin.keeps k, let ⟨p, l, me, mg, mb, T⟩ := W.top; ⟨p, l, me, mg, mb, T.keeps k⟩⟩
structure AOk (n : Nat) (A : Around) : Prop where
  hh : A.handled = none
  hd : A.depth ≤ n
  hu : A.units ≤ 10 * n
theorem AOk.mono {n n' : Nat} {A : Around} (x : AOk n A) (h : n ≤ n') : AOk n' A := ⟨x.hh, Nat.le_trans x.hd h, Nat.le_trans x.hu (Nat.mul_le_mul_left _ h)⟩
theorem AOk.deeper {n : Nat} {A : Around} {env : Env} (x : AOk n A) : AOk (n + 1) (A.deeper env) := ⟨x.hh, by show A.depth + 1 ≤ n + 1; have := x.hd; omega, by show A.units + 3 ≤ 10 * (n + 1); have := x.hu; omega⟩
theorem AOk.in1 {n : Nat} {A : Around} (x : AOk n A) : AOk (n + 1) A.in1 := ⟨x.hh, by show A.depth ≤ n + 1; have := x.hd; omega, by show A.units + 1 ≤ 10 * (n + 1); have := x.hu; omega⟩
structure EV (env : Env) (sc : Scope) (L : Addr) (cl : List (Str × Addr)) : Prop where
  scope : env.scope = sc
  locals : env.locals = L
  globals : env.globals = mainGlobals
  cells : env.cells = cl
  builtins : env.builtins = builtinsNs
theorem EV.of (name : Str) (sc : Scope) (L a : Addr) (cd : Value) (cl : List (Str × Addr)) : EV (envX name sc L a cd cl) sc L cl := ⟨rfl, rfl, rfl, rfl, rfl⟩
theorem EV.comp {env : Env} {sc₀ : Scope} {L C : Addr} {cl₀ cl : List (Str × Addr)} {scope : Scope} (V : EV env sc₀ L cl₀) : EV (compEnvC scope cl C env) (relabel scope env) C cl := ⟨rfl, rfl, V.globals, rfl, V.builtins⟩

section
variable {M : Model} {w : World} {A : Around} {E : Value → Shared → Prop} {s : Shared} {g : Heap} {env : Env} {sc : Scope} {L : Addr} {cl : List (Str × Addr)} {m : Str → Option Value} {ms : Mut} {x : Str} {pos : Pos} {v : Value}
theorem fh_ld {Q : Value → Shared → Prop} (V : EV env sc L cl) (H : FH g L s.heap m ms) (hv : m x = some v) (h : Q v s) (hl : sc.names.lookup x = some .local := by rfl) (hk : sc.kind = .function := by rfl) (hd : (x == ("__debug__" : Str)) = false := by decide) :
    wpAny M A (eval (.Name x pos) env) Q E s :=
  wpAny_Name (wpAny_loadName_local (by rw [V.scope]; exact hk) (by unfold Env.kindOf; rw [V.scope]; exact hl) (by rw [V.locals]; exact H.ns) hv h) hd
theorem fh_ldn {Q : Value → Shared → Prop} (V : EV env sc L cl) (H : FH g L s.heap m ms) (hv : m x = some v) (h : Q v s) (hl : sc.names.lookup x = some .local := by rfl) (hk : sc.kind = .function := by rfl) :
    wpAny M A (loadName env x) Q E s := wpAny_loadName_local (by rw [V.scope]; exact hk) (by unfold Env.kindOf; rw [V.scope]; exact hl) (by rw [V.locals]; exact H.ns) hv h
theorem fh_st {Q : Unit → Shared → Prop} (V : EV env sc L cl) (H : FH g L s.heap m ms)
    (h : ∀ h', FH g L h' (upd x v m) ms → Q () { s with heap := h', toks := s.toks + 1 }) (hl : sc.names.lookup x = some .local := by rfl) (hk : sc.kind = .function := by rfl) :
    wpAny M A (storeName env x v) Q E s :=
  wpAny_storeName_local (by unfold Env.kindOf; rw [V.scope]; exact hl) (by rw [V.locals]; exact H.ns) (fun h' hn hs => h h' (by rw [V.locals] at hn hs; exact H.set hn hs)) (by rw [V.scope, hk]; rfl)
theorem fh_gl {Q : Value → Shared → Prop} (V : EV env sc L cl) (H : FH g L s.heap m ms) (W : Wd w g) (e : nsIn (KK w.params) mainGlobals x = some (some v)) (h : Q v s) (hl : sc.names.lookup x = some .globalImplicit := by rfl) (hk : sc.kind = .function := by rfl) (hd : (x == ("__debug__" : Str)) = false := by decide) :
    wpAny M A (eval (.Name x pos) env) Q E s := by
  obtain ⟨p, lo, me, mg, mb, T⟩ := W.top
  exact Name_function_global (by rw [V.scope]; exact hk) (by unfold Env.kindOf; rw [V.scope]; exact hl) (loadGlobal_global (mg := mg) (by rw [V.globals]; exact T.g.keeps H.keep) (mg_of W.kin T.g e) h) hd
theorem fh_bi {Q : Value → Shared → Prop} (V : EV env sc L cl) (H : FH g L s.heap m ms) (W : Wd w g) (e : nsIn (KK w.params) mainGlobals x = some none) (hv : bootBuiltins x = some v) (h : Q v s) (hl : sc.names.lookup x = some .globalImplicit := by rfl) (hk : sc.kind = .function := by rfl) (hd : (x == ("__debug__" : Str)) = false := by decide) (hn : x ≠ "__name__" := by decide) :
    wpAny M A (eval (.Name x pos) env) Q E s := by
  obtain ⟨p, lo, me, mg, mb, T⟩ := W.top
  exact Name_function_global (by rw [V.scope]; exact hk) (by unfold Env.kindOf; rw [V.scope]; exact hl) (loadGlobal_builtin (mg := mg) (mb := mb) (by rw [V.globals]; exact T.g.keeps H.keep) (mg_none_of W.kin T.g e) (by rw [V.builtins]; exact T.b.keeps H.keep) ((T.builtins x hn).trans hv) h) hd
/-- a captured name, its cell among what may turn -/
theorem fh_ldc {Q : Value → Shared → Prop} {c : Addr} {i : Nat} (V : EV env sc L cl) (H : FH g L s.heap m ms) (hc : cl.lookup x = some c) (hi : ms[i]? = some (c, cellP (some v))) (h : Q v s) (hl : sc.names.lookup x = some .cell := by rfl) (hk : sc.kind = .function := by rfl) (hd : (x == ("__debug__" : Str)) = false := by decide) :
    wpAny M A (eval (.Name x pos) env) Q E s :=
  wpAny_Name (wpAny_loadName_cell (by rw [V.scope]; exact hk) (by unfold Env.kindOf; rw [V.scope]; exact hl) (by rw [V.cells]; exact hc) (H.at hi).1 h) hd
/-- a captured name, its cell among what stays -/
theorem fh_ldcg {Q : Value → Shared → Prop} {c : Addr} (V : EV env sc L cl) (H : FH g L s.heap m ms) (hc : cl.lookup x = some c) (hi : g.IsCell c (some v)) (h : Q v s) (hl : sc.names.lookup x = some .cell := by rfl) (hk : sc.kind = .function := by rfl) (hd : (x == ("__debug__" : Str)) = false := by decide) :
    wpAny M A (eval (.Name x pos) env) Q E s :=
  wpAny_Name (wpAny_loadName_cell (by rw [V.scope]; exact hk) (by unfold Env.kindOf; rw [V.scope]; exact hl) (by rw [V.cells]; exact hc) (let ⟨o, e, r⟩ := hi; ⟨o, H.keep _ _ e, r⟩) h) hd
theorem fh_ldfg {Q : Value → Shared → Prop} {c : Addr} (V : EV env sc L cl) (H : FH g L s.heap m ms) (hc : cl.lookup x = some c) (hi : g.IsCell c (some v)) (h : Q v s) (hl : sc.names.lookup x = some .free := by rfl) (hk : sc.kind = .function := by rfl) (hd : (x == ("__debug__" : Str)) = false := by decide) (hn : (x == ("__classdict__" : Str)) = false := by decide) :
    wpAny M A (eval (.Name x pos) env) Q E s :=
  wpAny_Name (wpAny_loadName_free (by rw [V.scope]; exact hk) (by unfold Env.kindOf; rw [V.scope]; exact hl) (by rw [V.cells]; exact hc) (let ⟨o, e, r⟩ := hi; ⟨o, H.keep _ _ e, r⟩) h hn) hd
theorem fh_stc {Q : Unit → Shared → Prop} {c : Addr} {i : Nat} {v₀ : Option Value} (V : EV env sc L cl) (H : FH g L s.heap m ms) (hc : cl.lookup x = some c) (hi : ms[i]? = some (c, cellP v₀))
    (h : ∀ h', FH g L h' m (ms.set i (c, cellP (some v))) → Q () { s with heap := h' }) (hl : sc.names.lookup x = some .cell := by rfl) (hk : sc.kind = .function := by rfl) :
    wpAny M A (storeName env x v) Q E s :=
  wpAny_storeName_cell (by rw [V.scope]; exact hk) (by unfold Env.kindOf; rw [V.scope]; exact hl) (by rw [V.cells]; exact hc) (H.at hi).1
    (fun h' hv hs => let ⟨_, e, r⟩ := hv; h h' (H.upd hi hs.extBut e r))
end
section
variable {prog : Program} {w : World} {A : Around} {E : Value → Shared → Prop} {s : Shared} {n : Nat} {K : Frag}
  {name qual : Str} {params : Arguments} {body : List Stmt} {scope : Scope} {dV kV doc pm cdv ct oc : Value} {an od : Option Addr} {osl : Array (Option Value)} {f : Addr} {args : List Value} {binds : List (Str × Value)}
theorem room_of (hA : AOk n A) (hn : n < 900) : A.depth < recursionLimit := by have := hA.hd; simp only [recursionLimit]; omega
theorem nolimit_of {g : Heap} (W : Wd w g) : g.NoLimit := let ⟨_, _, _, _, _, T⟩ := W.top; T.nolimit

theorem fh_enter {Q : Value → Shared → Prop} (hA : AOk n A) (hn : n < 900) (W : Wd w s.heap)
    (ho : (KK w.params).lookup f = some ⟨oc, od, .func (fnOf name qual params body scope dV kV doc pm an cdv ct), osl⟩) (hcd : codeIn (KK w.params) cdv qual = true)
    (hbind : BindsTo s (fnOf name qual params body scope dV kV doc pm an cdv ct) ⟨args, []⟩ binds) (hloc : ∀ y ∈ binds, scope.names.lookup y.1 = some .local)
    (h : ∀ env L h₁ A' tk, EV env scope L [] → AOk (n + 1) A' → L = s.heap.objs.size → FH s.heap L h₁ (fun y => binds.reverse.lookup y) [] →
      wpAny (model prog w) A' (execs body env) (fun fl s' => Q (match fl with | .ret v => v | _ => .none) s') (fun _ _ => False) { s with heap := h₁, toks := tk })
    (hco : scope.isCoroutine = false) (hgen : scope.isGenerator = false) (hk : scope.kind = .function) (hcell : ∀ x ∈ scope.names, x.2 ≠ .cell) :
    wpAny (model prog w) A (call (.ref f) args) Q E s := by
  refine wpAny_call ?_
  refine codeAny_call_def (fd := fnOf name qual params body scope dV kV doc pm an cdv ct) (body := body) (binds := binds) (room_of hA hn) (W.kin _ _ ho) rfl (nolimit_of W) (codeRec_of W.kin hcd) rfl hbind hcell hloc (fun h₁ hns hk₁ => ?_) hco hgen hk
  exact wpAny_mono (h (envX qual scope s.heap.objs.size f cdv []) s.heap.objs.size h₁ _ _ (EV.of ..) hA.deeper rfl ⟨hns, hk₁, Heap.get?_none_of_le (Nat.le_refl _), (fun _ hp => nomatch hp), List.nodup_nil⟩) (fun fl s' hl => hl) fun _ _ x => x.elim

theorem fh_enterC {Q : Value → Shared → Prop} {cl : Nat → List (Str × Addr)} {ml : Str → Option Value} {ms : Nat → Mut} (hA : AOk n A) (hn : n < 900) (W : Wd w s.heap)
    (ho : (KK w.params).lookup f = some ⟨oc, od, .func (fnOf name qual params body scope dV kV doc pm an cdv ct), osl⟩) (hcd : codeIn (KK w.params) cdv qual = true)
    (hbind : BindsTo s (fnOf name qual params body scope dV kV doc pm an cdv ct) ⟨args, []⟩ binds)
    (hkind : (binds.all fun y => scope.names.lookup y.1 == some .local || scope.names.lookup y.1 == some .cell) = true)
    (hnd : ((cellsFrom 0 scope.names []).map (·.1)).Nodup)
    (hcl : ∀ L, cellsFrom (L + 1) scope.names [] = cl L) (hml : bindL (fun x => scope.names.lookup x) binds (fun _ => none) = ml)
    (hms : ∀ L, (cl L).map (fun q => (q.2, cellP (bindC (fun x => scope.names.lookup x) binds (fun _ => none) q.1))) = ms L)
    (h : ∀ env L h₁ A' tk, EV env scope L (cl L) → AOk (n + 1) A' → L = s.heap.objs.size → FH s.heap L h₁ ml (ms L) → env.code = cdv → env.qual = qual ++ ".<locals>." →
      wpAny (model prog w) A' (execs body env) (fun fl s' => Q (match fl with | .ret v => v | _ => .none) s') (fun _ _ => False) { s with heap := h₁, toks := tk })
    (hco : scope.isCoroutine = false) (hgen : scope.isGenerator = false) (hk : scope.kind = .function) :
    wpAny (model prog w) A (call (.ref f) args) Q E s := by
  refine wpAny_call ?_
  refine codeAny_call_function (room_of hA hn) (W.kin _ _ ho) rfl hco hgen rfl (codeRec_of W.kin hcd) (hbind _ _ _ _ ?_)
  refine wpAny_newFunctionEnv_cells hk (kindsX hkind _) fun env' he s' x => ?_
  subst he
  refine ⟨(nolimit_of W).keeps x.toInCall.keep, codeAny_func ?_⟩
  obtain ⟨h₁, tk, rfl, _⟩ := x.done
  have hk₁ := x.toInCall.keep
  have hns := x.toInCall.ns
  have hcell := x.cell
  have hap := x.apart
  have hab := x.above
  have e1 : (newEnv scope s.heap.objs.size mainGlobals (cellsFrom (s.heap.objs.size + 1) scope.names []) (qual ++ ".<locals>.") (some f) cdv none builtinsNs).kindOf = fun x => scope.names.lookup x := rfl
  have e2 : (newEnv scope s.heap.objs.size mainGlobals (cellsFrom (s.heap.objs.size + 1) scope.names []) (qual ++ ".<locals>.") (some f) cdv none builtinsNs).cells = cl s.heap.objs.size := hcl _
  have e3 : (newEnv scope s.heap.objs.size mainGlobals (cellsFrom (s.heap.objs.size + 1) scope.names []) (qual ++ ".<locals>.") (some f) cdv none builtinsNs).locals = s.heap.objs.size := rfl
  have FXs : FH s.heap s.heap.objs.size h₁ ml (ms s.heap.objs.size) := by
    refine ⟨hml ▸ hns, hk₁, Heap.get?_none_of_le (Nat.le_refl _), fun p hp => ?_, ?_⟩
    · rw [← hms] at hp
      obtain ⟨q, hq, rfl⟩ := List.mem_map.mp hp
      have hq' : q ∈ cellsFrom (s.heap.objs.size + 1) scope.names [] := by rw [hcl]; exact hq
      have hlt : s.heap.objs.size < q.2 := hab q.1 q.2 hq'
      refine ⟨hcell q.1 q.2 (lookup_of_mem_nodup (cellsFrom_names scope.names 0 (s.heap.objs.size + 1) [] [] rfl ▸ hnd) hq'), Nat.ne_of_gt hlt, Heap.get?_none_of_le (Nat.le_of_lt hlt)⟩
    · rw [← hms, List.map_map, ← hcl]
      exact (List.pairwise_map.mpr hap)
  refine wpAny_mono (h _ _ h₁ _ tk ⟨rfl, rfl, rfl, hcl _, rfl⟩ hA.deeper rfl FXs rfl rfl) (fun fl s' hl => hl) fun _ _ x => x.elim
end

/-! ## allocation, lists -/
section
variable {M : Model} {prog : Program} {w : World} {A : Around} {E : Value → Shared → Prop} {s : Shared} {g : Heap} {env : Env} {sc : Scope} {L D : Addr} {cl : List (Str × Addr)} {m : Str → Option Value} {ms : Mut}
theorem fh_list {vs : List Value} {Q : Value → Shared → Prop} (H : FH g L s.heap m ms) (h : ∀ a h', FH g L h' m ((a, listP vs) :: ms) → s.heap.objs.size ≤ a → s.heap.StaysIn h' → Q (.ref a) { s with heap := h' }) (hsz : vs.length ≤ sizeLine := by size_fits) :
    wpAny M A (newList vs) Q E s :=
  wpAny_newObj_type (h _ _ (H.push rfl ⟨0, rfl⟩) (Nat.le_refl _) fun _ _ e => Heap.get?_push_of_some _ e) (by show vs.toArray.size ≤ sizeLine; rw [List.size_toArray]; exact hsz)
def tupP (its : List Value) (o : Obj) : Prop := o.cls = .type "tuple" ∧ ∃ n, o.data = .seq its.toArray n
theorem fh_tuple {vs : List Value} {Q : Value → Shared → Prop} (H : FH g L s.heap m ms) (h : ∀ a h', FH g L h' m ((a, tupP vs) :: ms) → s.heap.objs.size ≤ a → s.heap.StaysIn h' → Q (.ref a) { s with heap := h' }) (hsz : vs.length ≤ sizeLine := by size_fits) :
    wpAny M A (newTuple vs) Q E s :=
  wpAny_newObj_type (h _ _ (H.push rfl ⟨rfl, 0, rfl⟩) (Nat.le_refl _) fun _ _ e => Heap.get?_push_of_some _ e) (by show vs.toArray.size ≤ sizeLine; rw [List.size_toArray]; exact hsz)
theorem fh_append {i : Nat} {its : List Value} {x : Value} {Q : Value → Shared → Prop} (H : FH g L s.heap m ms) (hi : ms[i]? = some (D, listP its))
    (h : ∀ h', FH g L h' m (ms.set i (D, listP (its ++ [x]))) → Heap.SameBut D s.heap h' → Q .none { s with heap := h' }) (hsz : its.length ≤ sizeLine := by size_fits) : wpAny (model prog w) A (call (.builtin "list.append") [.ref D, x]) Q E s := by
  obtain ⟨⟨o, ho, n, rfl⟩, _⟩ := H.at hi
  exact append_at ho (fun h' hs ho' => h h' (H.upd hi hs.extBut ho' ⟨n + 1, by simp⟩) hs) (by rw [List.size_toArray]; exact hsz)
theorem fh_append_meth {i : Nat} {its : List Value} {pl : Sem Bool} {Q : Value × List Value → Shared → Prop} (H : FH g L s.heap m ms) (hi : ms[i]? = some (D, listP its)) (h : Q (.builtin "list.append", [.ref D]) s) :
    wpAny M A (getMethod (.ref D) "append" pl) Q E s := by
  obtain ⟨⟨o, ho, n, rfl⟩, _⟩ := H.at hi
  exact getMethod_list_append ho rfl rfl h
end
abbrev testsOf (ifs : List Expr) (env : Env) : Sem Bool := forIn ifs true fun c r => if r = true then do let ok ← isTrue c env (eval c env); pure (ForInStep.yield ok) else pure (ForInStep.yield r)
section
variable {M : Model} {A : Around} {E : Value → Shared → Prop} {s : Shared} {env : Env}
theorem tests_nil {Q : Bool → Shared → Prop} (h : Q true s) : wpAny M A (testsOf [] env) Q E s := by
  unfold testsOf; rw [List.forIn_nil]; exact wpAny_pure h
theorem tests_one {c : Expr} {Q : Bool → Shared → Prop} (h : wpAny M A (isTrue c env (eval c env)) Q E s) : wpAny M A (testsOf [c] env) Q E s := by
  unfold testsOf; rw [List.forIn_cons]
  simp only [if_true]
  refine wpAny_bind (wpAny_bind (wpAny_mono h (fun b s₁ h₁ => ?_) fun _ _ x => x))
  refine wpAny_pure ?_
  show wpAny M A (forIn [] b _) Q E s₁
  rw [List.forIn_nil]; exact wpAny_pure h₁
end

/-- generators: the old ones stand, the new ones leave nothing to clean -/
def Gens (a b : Array GenState) : Prop := (∀ (k : Nat) (x : GenState), a[k]? = some x → b[k]? = some x) ∧ ∀ (k : Nat) (x : GenState), b[k]? = some x → a[k]? = some x ∨ x.bare = true
theorem Gens.refl (a : Array GenState) : Gens a a := ⟨fun _ _ e => e, fun _ _ e => .inl e⟩
theorem Gens.trans {a b c : Array GenState} (x : Gens a b) (y : Gens b c) : Gens a c :=
  ⟨fun k q e => y.1 k q (x.1 k q e), fun k q e => (y.2 k q e).elim (fun e => x.2 k q e) .inr⟩
/-- the same but for the heap, the marks and new generators -/
def Same (s s' : Shared) : Prop := ∃ h tk gs, s' = { s with heap := h, toks := tk, gens := gs } ∧ Gens s.gens gs
theorem Same.refl (s : Shared) : Same s s := ⟨s.heap, s.toks, s.gens, rfl, .refl _⟩
theorem Same.trans {a b c : Shared} (x : Same a b) (y : Same b c) : Same a c := by
  obtain ⟨h, t, g, rfl, k⟩ := x; obtain ⟨h', t', g', rfl, k'⟩ := y; exact ⟨h', t', g', rfl, k.trans k'⟩
theorem Same.mk' (s : Shared) (h : Heap) (t : Nat) : Same s { s with heap := h, toks := t } := ⟨h, t, s.gens, rfl, .refl _⟩
theorem Same.mkh (s : Shared) (h : Heap) : Same s { s with heap := h } := ⟨h, s.toks, s.gens, rfl, .refl _⟩
theorem Same.gens {s s' : Shared} (x : Same s s') : Gens s.gens s'.gens := by obtain ⟨h, t, g, rfl, k⟩ := x; exact k

section
variable {prog : Program} {w : World} {A : Around} {E : Value → Shared → Prop} {s : Shared} {env : Env} {scope : Scope} {cl : List (Str × Addr)} {elt target iter : Expr} {ifs : List Expr} {pos : Pos} {use : Option (Value → Sem Unit)} {Q : Value → Shared → Prop} {n : Nat}

def CompI (prog : Program) (w : World) (A : Around) (E : Value → Shared → Prop) (env : Env) (scope : Scope) (cl : List (Str × Addr)) (elt target iter : Expr) (ifs : List Expr) (pos : Pos) (use : Option (Value → Sem Unit)) (Q : Value → Shared → Prop) (xv : Value) (s₁ : Shared) : Prop :=
  wpAny (model prog w) A (pyIter xv) (fun it s₂ => wpAny (model prog w) A (newList []) (fun acc s₃ =>
      wpAny (model prog w) A (newFunctionEnv scope env.globals cl [] env.qual none .none (some env)) (fun cenv s₄ =>
        codeAny (model prog w) A (.compStart (.ListComp elt [⟨target, iter, ifs, 0⟩] scope pos) 0 it acc { cenv with scope := relabel scope env }) (compPost (model prog w) A E use Q acc cenv.locals) s₄) E s₃) E s₂) E s₁

theorem fh_comp (hclos : closureFor scope env = pure cl) (hkind : scope.kind = .function) (hnames : ∀ x ∈ scope.names, x.2 = .local → scope.names.lookup x.1 = some .local)
    (h : wpAny (model prog w) A (eval iter env) (CompI prog w A E env scope cl elt target iter ifs pos none Q) E s) (hs : ∀ x, foldedSetIterable iter env x = pure x := by intro _; rfl) :
    wpAny (model prog w) A (eval (.ListComp elt [⟨target, iter, ifs, 0⟩] scope pos) env) Q E s := by
  rw [eval_ListComp]
  exact wpAny_comprehension_free (use := none) rfl hs hclos hkind hnames h

theorem fh_comp_assign {y : Str} {py spos : Pos} {Qf : Flow → Shared → Prop}
    (hsw : swapsWith (.ListComp elt [⟨target, iter, ifs, 0⟩] scope pos) (some (.Name y py)) spos.line env = pure true)
    (hclos : closureFor scope env = pure cl) (hkind : scope.kind = .function) (hnames : ∀ x ∈ scope.names, x.2 = .local → scope.names.lookup x.1 = some .local)
    (h : wpAny (model prog w) A (eval iter env) (CompI prog w A E env scope cl elt target iter ifs pos (some (assign (.Name y py) env)) (fun _ => Qf .next)) E s) (hs : ∀ x, foldedSetIterable iter env x = pure x := by intro _; rfl) :
    wpAny (model prog w) A (exec (.Assign [.Name y py] (.ListComp elt [⟨target, iter, ifs, 0⟩] scope pos) spos) env) Qf E s := by
  rw [exec_Assign_Name_used _ _ _ _ hsw]
  refine wpAny_bind (wpAny_standAt (wpAny_bind ?_))
  show wpAny _ A (do let _ ← comprehension (.ListComp elt [⟨target, iter, ifs, 0⟩] scope pos) scope env _ (newList []) false (eval iter env) (some (assign (.Name y py) env))) _ _ s
  refine wpAny_bind (wpAny_mono (wpAny_comprehension_free (use := some (assign (.Name y py) env)) (Q := fun _ s' => Qf .next s') rfl hs hclos hkind hnames h) (fun _ _ h' => wpAny_pure (wpAny_pure h')) fun _ _ e => e)


section
variable {R : Result → Shared → Prop}
theorem no_e {α : Type} {M : Model} {t : Sem α} {Q' : α → Shared → Prop} {E' : Value → Shared → Prop} {s : Shared} (h : wpAny M A t Q' (fun _ _ => False) s) : wpAny M A t Q' E' s := wpAny_mono h (fun _ _ x => x) fun _ _ x => x.elim
theorem let_list {I l : Addr} {i : Nat} {v : Value} {Q : Unit → Shared → Prop} (hit : s.heap.IsListIter I l i) (hQ : Q () s) : wpAny (model prog w) A (letOwnedTupleGo target (.ref I) v) Q E s := by
  have none_of : ∀ {t : Sem Unit}, t = pure () → wpAny (model prog w) A t Q E s := fun e => by rw [e]; exact wpAny_pure hQ
  obtain ⟨o, ho, hc, hd⟩ := hit
  have load_of : ∀ a : Addr, wpAny (model prog w) A (do
      let o ← load I
      match o.cls, o.data with
      | .type n, .fields vs =>
        if ["enumerate", "zip", "dict_itemiterator", "dict_reverseitemiterator", "odict_iterator", "itertools.zip_longest", "itertools.pairwise"].contains n && vs[0]? == some (rawInt a) then
          rule "for.unpacks-the-owned-tuple"
          updateField I 0 .none
      | _, _ => pure ()) Q E s := fun a => by
    refine wpAny_bind (wpAny_load ho ?_)
    rw [hc, hd]
    dsimp only
    rw [show (["enumerate", "zip", "dict_itemiterator", "dict_reverseitemiterator", "odict_iterator", "itertools.zip_longest", "itertools.pairwise"].contains "list_iterator") = false from by decide, Bool.false_and]
    exact wpAny_pure hQ
  unfold letOwnedTupleGo
  split
  · cases v <;> first | exact load_of _ | exact wpAny_pure hQ
  · cases v <;> first | exact load_of _ | exact wpAny_pure hQ
  · exact wpAny_pure hQ

theorem comp_loop {it acc : Value} (I : Nat → Shared → Prop)
    (turn : ∀ n s, I n s → wpAny (model prog w) A (pyNext it) (fun r s₁ => match r with
      | none => R (.ok .next) s₁
      | some v => wpAny (model prog w) A (letOwnedTupleGo target it v) (fun _ s₀ => wpAny (model prog w) A (assign target env v) (fun _ s₂ =>
          wpAny (model prog w) A (testsOf ifs env) (fun ok s₃ =>
            if ok = true then wpAny (model prog w) A (eval elt env) (fun x s₄ => wpAny (model prog w) A (call (.builtin "list.append") [acc, x]) (fun _ s₅ => ∃ m, m < n ∧ I m s₅) (fun _ _ => False) s₄) (fun _ _ => False) s₃
            else ∃ m, m < n ∧ I m s₃) (fun _ _ => False) s₂) (fun _ _ => False) s₀) (fun _ _ => False) s₁) (fun _ _ => False) s)
    (n : Nat) (h : I n s) : codeAny (model prog w) A (.compLoop (.ListComp elt [⟨target, iter, ifs, 0⟩] scope pos) 0 it acc env) R s := by
  refine codeAny_loop rfl I (fun n s hI => ?_) n h
  show wpAny _ A ((compTurn (.ListComp elt [⟨target, iter, ifs, 0⟩] scope pos) 0 it acc env).onRaise (fun x => do noteFrame x env; theTreesLotGoes x)) _ _ s
  refine wpAny_noted (no_e ?_)
  rw [compTurn_list]
  refine wpAny_bind (wpAny_standAt (wpAny_bind (wpAny_mono (turn n s hI) (fun r s₁ h₁ => ?_) fun _ _ x => x)))
  cases r with
  | none => exact wpAny_pure h₁
  | some v =>
    refine wpAny_bind (wpAny_mono h₁ (fun _ s₀ h₀ => wpAny_bind (wpAny_mono h₀ (fun _ s₂ h₂ => wpAny_bind (wpAny_mono h₂ (fun ok s₃ h₃ => ?_) fun _ _ x => x)) fun _ _ x => x)) fun _ _ x => x)
    cases ok with
    | false => exact wpAny_pure ⟨rfl, h₃⟩
    | true => exact wpAny_bind (wpAny_bind (wpAny_mono h₃ (fun x s₄ h₄ => wpAny_bind (wpAny_mono h₄ (fun _ s₅ h₅ => wpAny_pure (wpAny_pure ⟨rfl, h₅⟩)) fun _ _ x => x)) fun _ _ x => x))

theorem for_loop {it : Value} {body : List Stmt} (I : Nat → Shared → Prop)
    (turn : ∀ n s, I n s → wpAny (model prog w) A (pyNext it) (fun r s₁ => match r with
      | none => R (.ok .next) s₁
      | some v => wpAny (model prog w) A (letOwnedTupleGo target it v) (fun _ s₀ => wpAny (model prog w) A (assign target env v) (fun _ s₂ => wpAny (model prog w) A (execs body env) (fun f s₃ => match f with
          | .next | .cont => ∃ m, m < n ∧ I m s₃
          | .brk => R (.ok .next) s₃
          | .ret v => R (.ok (.ret v)) s₃) (fun _ _ => False) s₂) (fun _ _ => False) s₀) (fun _ _ => False) s₁) (fun _ _ => False) s)
    (n : Nat) (h : I n s) : codeAny (model prog w) A (.forLoop target it body [] env) R s := by
  refine codeAny_loop' rfl I (fun n s hI => ?_) n h
  show wpAny _ _ ((forTurn target it body [] env).onRaise (fun x => do noteFrame x env; theTreesLotGoes x)) _ _ s
  refine wpAny_noted (no_e ?_)
  simp only [forTurn]
  refine wpAny_bind (wpAny_standAt (wpAny_bind (wpAny_onRaise (wpAny_mono (turn n s hI) (fun r s₁ h₁ => ?_) fun _ _ x => x.elim))))
  cases r with
  | none => exact wpAny_pure (.inr ⟨rfl, codeAny_block (wpAny_execs_nil h₁)⟩)
  | some v =>
    refine wpAny_bind (wpAny_mono h₁ (fun _ s₀ h₀ => wpAny_bind (wpAny_mono h₀ (fun _ s₂ h₂ => wpAny_bind (wpAny_mono h₂ (fun f s₃ h₃ => ?_) fun _ _ x => x)) fun _ _ x => x)) fun _ _ x => x)
    cases f with
    | next => exact wpAny_pure (.inl ⟨rfl, h₃⟩)
    | cont => exact wpAny_pure (.inl ⟨rfl, h₃⟩)
    | brk => exact wpAny_pure h₃
    | ret v => exact wpAny_pure h₃
end

/-- a comprehension's names, as the frame around it makes them -/
def relabelS (scope sc : Scope) : Scope :=
  { scope with names := scope.names.map fun (n, k) => if (k == .free && sc.kind == .function && sc.names.lookup n == some .cell) then (n, .cell) else (n, k) }
theorem relabel_of {sc : Scope} {L : Addr} {cl : List (Str × Addr)} (V : EV env sc L cl) (scope : Scope) : relabel scope env = relabelS scope sc := by
  unfold relabel relabelS Env.kindOf; rw [V.scope]
theorem clos_of {sc : Scope} {L : Addr} {cl cl' : List (Str × Addr)} (V : EV env sc L cl) (h : closureFor scope { (default : Env) with cells := cl } = pure cl') : closureFor scope env = pure cl' := by
  rw [← h]; unfold closureFor cellOf; rw [V.cells]
theorem swaps_of {sc : Scope} {L : Addr} {cl : List (Str × Addr)} {gs : List Comprehension} {y : Str} {py : Pos} {k : Nat} (V : EV env sc L cl) (hl : sc.names.lookup y = some .local) (hk : sc.kind = .function)
    (hp : (py.line == pos.line && !(scope.names.any fun (n, k) => n == y && (k == .local || k == .cell))) = true) : swapsWith (.ListComp elt gs scope pos) (some (.Name y py)) k env = pure true := by
  show (pure (env.blockKind == .function && env.kindOf y == some .local && py.line == pos.line && !(scope.names.any fun (n, k) => n == y && (k == .local || k == .cell))) : Sem Bool) = pure true
  have e1 : env.blockKind = .function := by unfold Env.blockKind; rw [V.scope, hk]; rfl
  have e2 : env.kindOf y = some .local := by unfold Env.kindOf; rw [V.scope]; exact hl
  obtain ⟨h1, h2⟩ := Bool.and_eq_true_iff.mp hp
  rw [e1, e2, h1, h2]
  rfl

/-- what each turn of a comprehension over a list must show -/
def CompStep (prog : Program) (w : World) (A : Around) (sc₀ : Scope) (scope : Scope) (cl : List (Str × Addr)) (elt target : Expr) (ifs : List Expr) (vs : List Value) (p : Nat → Bool) (F : Nat → Value → Heap → Prop) (s₁ : Shared) : Prop :=
  ∀ i v, vs[i]? = some v → ∀ (G : Heap) (env' : Env) (C : Addr) (mc : Str → Option Value) (s' : Shared), s₁.heap.StaysIn G → EV env' (relabelS scope sc₀) C cl → FH G C s'.heap mc [] → Same s₁ s' →
    wpAny (model prog w) A (assign target env' v) (fun _ s₂ => wpAny (model prog w) A (testsOf ifs env') (fun ok s₃ => ok = p i ∧
      if ok = true then wpAny (model prog w) A (eval elt env') (fun y s₄ => (∃ mc', FH G C s₄.heap mc' []) ∧ F i y (above (C + 1) s₄.heap) ∧ Same s' s₄) (fun _ _ => False) s₃
      else (∃ mc', FH G C s₃.heap mc' []) ∧ Same s' s₃) (fun _ _ => False) s₂) (fun _ _ => False) s'

theorem paired_mono {α β : Type} {F F' : α → β → Prop} {a : List α} {b : List β} (P : Paired F a b) (h : ∀ x y, F x y → F' x y) : Paired F' a b := by
  induction P with
  | nil => exact .nil
  | cons f _ ih => exact .cons (h _ _ f) ih
theorem paired_len {α β : Type} {F : α → β → Prop} {a : List α} {b : List β} (P : Paired F a b) : a.length = b.length := by
  induction P with
  | nil => rfl
  | cons f _ ih => simp [ih]

theorem comp_list {sc₀ : Scope} {L : Addr} {cl₀ : List (Str × Addr)} {l : Addr} {vs : List Value} {s₁ : Shared} (p : Nat → Bool) (F : Nat → Value → Heap → Prop) (hF : ∀ i y h h', F i y h → h.StaysIn h' → F i y h')
    (hA : AOk n A) (V : EV env sc₀ L cl₀) (hl : s₁.heap.IsList l vs.toArray) (hsz : vs.length ≤ sizeLine)
    (hcell : ∀ y ∈ scope.names, y.2 ≠ .cell) (hkind : scope.kind = .function)
    (step : CompStep prog w A sc₀ scope cl elt target ifs vs p F s₁)
    (done : ∀ D C mc ys s', Same s₁ s' → s₁.heap.StaysIn s'.heap → s₁.heap.objs.size ≤ D → s₁.heap.objs.size ≤ C → C ≠ D → s'.heap.Ns C mc → s'.heap.IsList D ys.toArray →
      Paired (fun i y => F i y (above (s₁.heap.objs.size + 3) s'.heap)) ((List.range vs.length).filter p) ys → C < s₁.heap.objs.size + 3 → 
      compPost (model prog w) A E use Q (.ref D) C (.ok .next) s') :
    CompI prog w A E env scope cl elt target iter ifs pos use Q (.ref l) s₁ := by
  unfold CompI
  refine wpAny_pyIter_list hl ?_
  refine wpAny_newObj_type (wpAny_newFunctionEnv hcell (by intro y hy; simp at hy) (fun h₁ hns₁ hsb₁ => ?_) hkind)
  dsimp only at hns₁ hsb₁ ⊢
  generalize hH1 : s₁.heap.push { cls := .type "list_iterator", dict := none, data := .fields #[.ref l, .int 0 0] } = H1 at hns₁ hsb₁ ⊢
  generalize hH2 : H1.push { cls := .type "list", dict := none, data := .seq ([] : List Value).toArray } = H2 at hns₁ hsb₁ ⊢
  generalize hN : s₁.heap.objs.size = N at *
  have z1 : H1.objs.size = N + 1 := by rw [← hH1, Heap.size_push, hN]
  have z2 : H2.objs.size = N + 2 := by rw [← hH2, Heap.size_push, z1]
  have up2 : s₁.heap.StaysIn H2 := fun b o e => by rw [← hH2]; exact Heap.get?_push_of_some _ (by rw [← hH1]; exact Heap.get?_push_of_some _ e)
  have old : ∀ b o, s₁.heap.get? b = some o → b < N := fun b o e => hN ▸ Heap.lt_size e
  have ne3 : ∀ {b k : Nat}, b < N → b ≠ N + k := fun {b k} h q => absurd h (by rw [q]; exact Nat.not_lt.mpr (Nat.le_add_right _ _))
  have up : s₁.heap.StaysIn h₁ := fun b o e => (hsb₁.2 b (by rw [z2]; exact ne3 (old b o e))).trans (Heap.get?_push_of_some _ (up2 b o e))
  have hzC : h₁.objs.size = N + 3 := by rw [hsb₁.1, Heap.size_push, z2]
  have hI0 : h₁.IsListIter N l 0 := by
    refine ⟨_, (hsb₁.2 _ (by rw [z2]; exact Nat.ne_of_lt (by exact Nat.lt_add_of_pos_right (by decide)))).trans (Heap.get?_push_of_some _ (by rw [← hH2]; exact Heap.get?_push_of_some _ (by rw [← hH1, ← hN]; exact Heap.get?_push_size _ rfl))), rfl, rfl⟩
  have hD0 : h₁.IsList (N + 1) ([] : List Value).toArray := by
    refine ⟨_, (hsb₁.2 _ (by rw [z2]; exact Nat.ne_of_lt (Nat.lt_succ_self _))).trans (Heap.get?_push_of_some _ (by rw [← hH2, ← z1]; exact Heap.get?_push_size _ rfl)), rfl, 0, rfl⟩
  rw [z2] at hns₁
  have loop : ∀ tk₀, codeAny (model prog w) A (.compLoop (.ListComp elt [⟨target, iter, ifs, 0⟩] scope pos) 0 (.ref N) (.ref (N + 1)) (compEnvC scope cl (N + 2) env)) (compPost (model prog w) A E use Q (.ref (N + 1)) (N + 2)) { s₁ with heap := h₁, toks := tk₀ } := fun tk₀ => by
    have Vc : EV (compEnvC scope cl (N + 2) env) (relabelS scope sc₀) (N + 2) cl := relabel_of V scope ▸ V.comp
    refine comp_loop (fun k s' => ∃ mc ys i, Same s₁ s' ∧ i ≤ vs.length ∧ k = vs.length + 1 - i ∧ s₁.heap.StaysIn s'.heap ∧ N + 3 ≤ s'.heap.objs.size ∧
        s'.heap.IsListIter N l i ∧ s'.heap.IsList (N + 1) (List.toArray ys) ∧ s'.heap.Ns (N + 2) mc ∧ ys.length ≤ i ∧
        Paired (fun i y => F i y (above (N + 3) s'.heap)) ((List.range i).filter p) ys) ?_ (vs.length + 1)
      ⟨_, [], 0, Same.mk' .., Nat.zero_le _, rfl, up, Nat.le_of_eq hzC.symm, hI0, hD0, hns₁, Nat.le_refl _, .nil⟩
    rintro k s' ⟨mc, ys, i, hS, hi, rfl, hk, hz, hI, hD, hC, hys, hP⟩
    have hl' : s'.heap.IsList l vs.toArray := hl.at fun o e => hk l o e
    rcases Nat.lt_or_ge i vs.length with hlt | hge
    · have hx : vs[i]? = some vs[i] := by simp [hlt]
      refine wpAny_pyNext_list_item hI hl' (x := vs[i]) (by simp [hlt]) fun h₂ hI₂ hs₂ => ?_
      have hS₂ : Same s₁ { s' with heap := h₂ } := hS.trans (Same.mkh _ _)
      have hk₂ : s₁.heap.StaysIn h₂ := fun b o e => (hs₂.2 b (by simpa using ne3 (k := 0) (old b o e))).trans (hk b o e)
      have hC₂ : h₂.Ns (N + 2) mc := hC.sameBut hs₂ (Nat.ne_of_gt (Nat.lt_add_of_pos_right (by decide)))
      have hD₂ : h₂.IsList (N + 1) (List.toArray ys) := hD.extBut hs₂.extBut (Nat.ne_of_gt (Nat.lt_succ_self _))
      have hz₂ : h₂.objs.size = s'.heap.objs.size := hs₂.1
      have hG : s₁.heap.StaysIn (h₂.hide (N + 2)) := fun b o e => (Heap.hide_ne _ (ne3 (old b o e))).trans (hk₂ b o e)
      have HG : FH (h₂.hide (N + 2)) (N + 2) h₂ mc [] := ⟨hC₂, fun _ _ e => Heap.of_hide e, Heap.hide_self _ _, (fun _ hp => nomatch hp), List.nodup_nil⟩
      have aboveG : (above (N + 3) s'.heap).StaysIn (h₂.hide (N + 2)) := fun b o e => by
        have hge := above_ge e
        exact (Heap.hide_ne _ (Nat.ne_of_gt (Nat.lt_of_lt_of_le (Nat.lt_succ_self _) hge))).trans ((hs₂.2 b (Nat.ne_of_gt (Nat.lt_of_lt_of_le (Nat.lt_add_of_pos_right (by decide)) hge))).trans (of_hideAll _ e))
      have IG : (h₂.hide (N + 2)).IsListIter N l (i + 1) := hI₂.at fun o e => (Heap.hide_ne _ (Nat.ne_of_lt (Nat.lt_add_of_pos_right (by decide)))).trans e
      have DG : (h₂.hide (N + 2)).IsList (N + 1) (List.toArray ys) := hD₂.at fun o e => (Heap.hide_ne _ (Nat.ne_of_lt (Nat.lt_succ_self _))).trans e
      refine let_list (s := { s' with heap := h₂ }) hI₂ ?_
      refine wpAny_mono (step i _ hx _ _ _ _ { s' with heap := h₂ } hG Vc HG hS₂) (fun _ s₂ h₂' => wpAny_mono h₂' (fun ok s₃ h₃ => ?_) fun _ _ x => x) fun _ _ x => x
      obtain ⟨rfl, h₃⟩ := h₃
      have fin : ∀ {hN : Heap} {mc' : Str → Option Value}, FH (h₂.hide (N + 2)) (N + 2) hN mc' [] → (above (N + 3) s'.heap).StaysIn (above (N + 3) hN) ∧ s₁.heap.StaysIn hN ∧ N + 3 ≤ hN.objs.size ∧ hN.IsListIter N l (i + 1) ∧ hN.IsList (N + 1) (List.toArray ys) := fun {hN mc'} HN =>
        ⟨fun b o e => above_get (HN.keep b o (aboveG b o e)) (above_ge e), stays_trans hG HN.keep, HN.lt, IG.at fun o e => HN.keep _ o e, DG.at fun o e => HN.keep _ o e⟩
      have rng : (List.range (i + 1)).filter p = (List.range i).filter p ++ (if p i = true then [i] else []) := by
        rw [List.range_succ, List.filter_append, List.filter_cons, List.filter_nil]
      cases hp : p i with
      | false =>
        rw [hp] at h₃
        simp only [Bool.false_eq_true, if_false] at h₃ ⊢
        obtain ⟨⟨mc', H₃⟩, hS₃⟩ := h₃
        obtain ⟨a1, a2, a3, a4, a5⟩ := fin H₃
        refine ⟨vs.length + 1 - (i + 1), by omega, mc', ys, i + 1, hS₂.trans hS₃, hlt, rfl, a2, a3, a4, a5, H₃.ns, Nat.le_succ_of_le hys, ?_⟩
        rw [rng, hp]
        simp only [Bool.false_eq_true, if_false, List.append_nil]
        exact paired_mono hP fun x y f => hF _ _ _ _ f a1
      | true =>
        rw [hp] at h₃
        simp only [if_true] at h₃ ⊢
        refine wpAny_mono h₃ (fun y s₄ h₄ => ?_) fun _ _ x => x
        obtain ⟨⟨mc', H₄⟩, hFy, hS₄⟩ := h₄
        obtain ⟨a1, a2, a3, a4, a5⟩ := fin H₄
        refine wpAny_list_append a5 (fun h₅ hl₅ hs₅ => ?_) (by rw [List.size_toArray]; omega)
        have a6 : (above (N + 3) s₄.heap).StaysIn (above (N + 3) h₅) := fun b o e => by
          have hge := above_ge e
          exact above_get ((hs₅.2 b (Nat.ne_of_gt (Nat.lt_of_lt_of_le (Nat.add_lt_add_left (by decide) N) hge))).trans (of_hideAll _ e)) hge
        refine ⟨vs.length + 1 - (i + 1), by omega, mc', ys ++ [y], i + 1, (hS₂.trans hS₄).trans (Same.mkh _ _), hlt, rfl, fun b o e => (hs₅.2 b (ne3 (old b o e))).trans (a2 b o e), by show N + 3 ≤ h₅.objs.size; rw [hs₅.1]; exact a3, a4.at fun o e => (hs₅.2 _ (Nat.ne_of_lt (Nat.lt_succ_self _))).trans e, by simpa using hl₅, H₄.ns.sameBut hs₅ (Nat.ne_of_gt (Nat.lt_succ_self _)), by simp; omega, ?_⟩
        rw [rng, hp]
        simp only [if_true]
        refine Paired.snoc (paired_mono hP fun x y f => hF _ _ _ _ (hF _ _ _ _ f a1) a6) (hF _ _ _ _ hFy ?_)
        exact a6
    · have hin : i = vs.length := Nat.le_antisymm hi hge
      subst hin
      refine wpAny_pyNext_list_end hA.hh hI hl' (by simp) fun h₂ hx₂ => ?_
      refine done (N + 1) (N + 2) mc ys _ (hS.trans (Same.mkh _ h₂)) (fun b o e => hx₂ b o (by simpa using ne3 (k := 0) (old b o e)) (hk b o e)) (Nat.le_succ _) (Nat.le_add_right _ _) (Nat.ne_of_gt (Nat.lt_succ_self _)) (hC.extBut hx₂ (Nat.ne_of_gt (Nat.lt_add_of_pos_right (by decide))))
        (hD.extBut hx₂ (Nat.ne_of_gt (Nat.lt_succ_self _))) (paired_mono hP fun x y f => hF _ _ _ _ f ?_) (Nat.lt_succ_self _)
      intro b o e
      have hge := above_ge e
      exact above_get (hx₂ b o (Nat.ne_of_gt (Nat.lt_of_lt_of_le (Nat.lt_add_of_pos_right (by decide)) hge)) (of_hideAll _ e)) hge
  rw [show H1.objs.size = N + 1 from z1, show H2.objs.size = N + 2 from z2]
  exact codeAny_compStart_list (loop _) (wpAny_pyIter_listiter (s := { s₁ with heap := h₁, toks := _ }) hI0 (loop _))
end
section
variable {prog : Program} {w : World} {A : Around} {E : Value → Shared → Prop} {s : Shared} {env : Env} {scope : Scope} {cl : List (Str × Addr)} {elt target iter : Expr} {ifs : List Expr} {pos : Pos} {n : Nat}
  {sc₀ : Scope} {L : Addr} {cl₀ : List (Str × Addr)} {l : Addr} {vs : List Value} {s₁ : Shared}
theorem list_above {N D : Nat} {h : Heap} {its : Array Value} (x : h.IsList D its) (hD : N ≤ D) : (above N h).IsList D its := x.at fun o e => above_get e hD
theorem above_but {N C : Nat} {h h' : Heap} (hx : Heap.ExtBut C h h') (hC : C < N) : (above N h).StaysIn (above N h') := fun b o e => by
  have hge := above_ge e
  exact above_get (hx b o (Nat.ne_of_gt (Nat.lt_of_lt_of_le hC hge)) (of_hideAll _ e)) hge

theorem comp_val {Q : Value → Shared → Prop} (p : Nat → Bool) (F : Nat → Value → Heap → Prop) (hF : ∀ i y h h', F i y h → h.StaysIn h' → F i y h')
    (hA : AOk n A) (V : EV env sc₀ L cl₀) (hl : s₁.heap.IsList l vs.toArray) (hsz : vs.length ≤ sizeLine)
    (hcell : ∀ y ∈ scope.names, y.2 ≠ .cell) (hkind : scope.kind = .function)
    (step : CompStep prog w A sc₀ scope cl elt target ifs vs p F s₁)
    (done : ∀ D ys s', Same s₁ s' → s₁.heap.StaysIn s'.heap → (above s₁.heap.objs.size s'.heap).IsList D (List.toArray ys) → Paired (fun i y => F i y (above s₁.heap.objs.size s'.heap)) ((List.range vs.length).filter p) ys →
      Q (.ref D) s') : CompI prog w A E env scope cl elt target iter ifs pos none Q (.ref l) s₁ := by
  refine comp_list p F hF hA V hl hsz hcell hkind step fun D C mc ys s' hS hk hD hC hCD hn hlist hP hC3 => ⟨mc, hn, fun h'' hs => ?_⟩
  have hk' : s₁.heap.StaysIn h'' := fun b o e => (hs.2 b (Nat.ne_of_lt (Nat.lt_of_lt_of_le (Heap.lt_size e) hC))).trans (hk b o e)
  exact done D ys _ (hS.trans (Same.mkh _ h'')) hk' (list_above (hlist.extBut hs.extBut (Ne.symm hCD)) hD) (paired_mono hP fun x y f => hF _ _ _ _ f (stays_trans (above_but hs.extBut hC3) (above_le (Nat.le_add_right _ _))))

theorem comp_set {g : Heap} {m : Str → Option Value} {ms : Mut} {y : Str} {py : Pos} {Qs : Shared → Prop} (p : Nat → Bool) (F : Nat → Value → Heap → Prop) (hF : ∀ i y h h', F i y h → h.StaysIn h' → F i y h')
    (hA : AOk n A) (V : EV env sc₀ L cl₀) (H : FH g L s₁.heap m ms) (hl : s₁.heap.IsList l vs.toArray) (hsz : vs.length ≤ sizeLine)
    (hcell : ∀ y ∈ scope.names, y.2 ≠ .cell) (hkind : scope.kind = .function) (hy : sc₀.names.lookup y = some .local) (hk₀ : sc₀.kind = .function)
    (step : CompStep prog w A sc₀ scope cl elt target ifs vs p F s₁)
    (done : ∀ D ys s', Same s₁ s' → s₁.heap.objs.size ≤ D → FH g L s'.heap (upd y (.ref D) m) ms → (above s₁.heap.objs.size s'.heap).IsList D (List.toArray ys) →
      Paired (fun i y => F i y (above s₁.heap.objs.size s'.heap)) ((List.range vs.length).filter p) ys → Qs s') :
    CompI prog w A E env scope cl elt target iter ifs pos (some (assign (.Name y py) env)) (fun _ => Qs) (.ref l) s₁ := by
  refine comp_list p F hF hA V hl hsz hcell hkind step fun D C mc ys s' hS hk hD hC hCD hn hlist hP hC3 => ?_
  have H' : FH g L s'.heap m ms := H.grow hk
  have hLN : L < s₁.heap.objs.size := H.lt
  show wpAny _ _ (assign (.Name y py) env (.ref D)) _ _ _
  refine wpAny_assign_Name (wpAny_storeName_local (by unfold Env.kindOf; rw [V.scope]; exact hy) (by rw [V.locals]; exact H'.ns) (fun h₂ hn₂ hs₂ => ?_) (by rw [V.scope, hk₀]; rfl))
  rw [V.locals] at hn₂ hs₂
  have H₂ := H'.set hn₂ hs₂
  have hCL : C ≠ L := Nat.ne_of_gt (Nat.lt_of_lt_of_le hLN hC)
  refine ⟨mc, hn.sameBut hs₂ hCL, fun h₃ hs₃ => ?_⟩
  have kp : ∀ b o, b < s₁.heap.objs.size → h₂.get? b = some o → h₃.get? b = some o := fun b o hb e => (hs₃.2 b (Nat.ne_of_lt (Nat.lt_of_lt_of_le hb hC))).trans e
  have H₃ : FH g L h₃ (upd y (.ref D) m) ms :=
    ⟨H₂.ns.at' fun o e => kp L o hLN e, fun b o e => kp b o (Heap.lt_size (H.keep b o e)) (H₂.keep b o e), H₂.off, fun p hp => let ⟨⟨o, e, r⟩, t⟩ := H₂.tur p hp; ⟨⟨o, kp _ _ (H.mlt p hp) e, r⟩, t⟩, H₂.nodup⟩
  have ab : (above (s₁.heap.objs.size + 3) s'.heap).StaysIn (above s₁.heap.objs.size h₃) := stays_trans (above_but hs₂.extBut (Nat.lt_of_lt_of_le hLN (Nat.le_add_right _ 3))) (stays_trans (above_but hs₃.extBut hC3) (above_le (Nat.le_add_right _ _)))
  exact done D ys _ (hS.trans ((Same.mk' _ h₂ _).trans (Same.mkh _ h₃))) hD H₃ (list_above ((hlist.extBut hs₂.extBut (Nat.ne_of_gt (Nat.lt_of_lt_of_le hLN hD))).extBut hs₃.extBut (Ne.symm hCD)) hD) (paired_mono hP fun x y f => hF _ _ _ _ f ab)
end
section
variable {M : Model} {prog : Program} {w : World} {A : Around} {E : Value → Shared → Prop} {s : Shared} {g : Heap} {env : Env} {sc : Scope} {L D l : Addr} {cl : List (Str × Addr)} {m : Str → Option Value} {ms : Mut} {n : Nat}
theorem fh_expr {e : Expr} {pos : Pos} {Q : Flow → Shared → Prop} (V : EV env sc L cl) (h : wpAny M A (eval e env) (fun v s' => match v with | .ref _ => False | _ => Q .next s') E s)
    (hk : sc.kind = .function := by rfl) (hs : swapsWith e none pos.line env = pure false := by rfl) : wpAny M A (exec (.Expr e pos) env) Q E s :=
  wpAny_Expr h (by unfold interactive; rw [V.scope, hk]; rfl) hs
theorem fh_unpack {elts : List Expr} {k : Nat} {pos : Pos} {items : Array Value} {Q : Unit → Shared → Prop} (hA : AOk n A) (H : FH g L s.heap m ms) (hl : s.heap.IsList l items) (hn : (assignEach elts env).length = items.size)
    (hstar : (assignEach elts env).findIdx? (·.1) = none) (h : ∀ h', FH g L h' m ms → s.heap.StaysIn h' → wpAny (model prog w) A (assignInOrder ((assignEach elts env).map (·.2)) items.toList) Q E { s with heap := h' }) :
    wpAny (model prog w) A (assign (.Tuple elts k pos) env (.ref l)) Q E s := by
  rw [assign_Tuple]
  refine wpAny_bind (wpAny_standAt ?_)
  unfold unpack
  rw [hn, hstar]
  refine wpAny_bind (wpAny_holding (kun_itemsOf hA.hh hl fun h' he => ?_))
  have k : s.heap.StaysIn h' := fun b o e => he b o (Nat.ne_of_lt (Heap.lt_size e)) e
  exact h h' (H.grow k) k
theorem fh_unpackT {elts : List Expr} {k : Nat} {pos : Pos} {items : Array Value} {Q : Unit → Shared → Prop} (hA : AOk n A) (H : FH g L s.heap m ms) (hl : s.heap.IsTuple l items) (hn : (assignEach elts env).length = items.size)
    (hstar : (assignEach elts env).findIdx? (·.1) = none) (h : ∀ h', FH g L h' m ms → s.heap.StaysIn h' → wpAny (model prog w) A (assignInOrder ((assignEach elts env).map (·.2)) items.toList) Q E { s with heap := h' }) :
    wpAny (model prog w) A (assign (.Tuple elts k pos) env (.ref l)) Q E s :=
  wpAny_assign_Tuple hA.hh hl hn hstar fun h' he => have k : s.heap.StaysIn h' := fun b o e => he b o (Nat.ne_of_lt (Heap.lt_size e)) e; h h' (H.grow k) k
theorem in_order {x : Str} {p : Pos} {ts : List (Value → Sem Unit)} {v : Value} {xs : List Value} {Q : Unit → Shared → Prop} (h : wpAny M A (storeName env x v) (fun _ s' => wpAny M A (assignInOrder ts xs) Q E s') E s) :
    wpAny M A (assignInOrder (assign (.Name x p) env :: ts) (v :: xs)) Q E s := by
  rw [assignInOrder]
  refine wpAny_bind (wpAny_holding ?_)
  exact wpAny_assign_Name h
theorem in_order_nil {Q : Unit → Shared → Prop} (h : Q () s) : wpAny M A (assignInOrder [] []) Q E s := wpAny_pure h

/-- a slice of a list -/
theorem fh_slice {value : Expr} {lower upper : Option Expr} {p pos : Pos} {Q : Value → Shared → Prop}
    (h : wpAny (model prog w) A (eval value env) (fun o s₁ => wpAny (model prog w) A (evalPart lower env) (fun vl s₂ => wpAny (model prog w) A (evalPart upper env) (fun vu s₃ =>
      ∃ l items lo hi g L m ms, o = .ref l ∧ s₃.heap.IsList l items ∧ items.size ≤ sizeLine ∧ IsPart vl lo ∧ IsPart vu hi ∧ FH g L s₃.heap m ms ∧
        ∀ a h', FH g L h' m ((a, listP (slicePick items lo hi none).toList) :: ms) → s₃.heap.objs.size ≤ a → s₃.heap.StaysIn h' → Q (.ref a) { s₃ with heap := h' }) E s₂) E s₁) E s)
    (ht : ∀ o r, letTemporaryGo value o r = pure () := by intro _ _; rfl) :
    wpAny (model prog w) A (eval (.Subscript value (.Slice lower upper none p) pos) env) Q E s := by
  refine wpAny_Subscript_list_slice (wpAny_mono h (fun o s₁ h₁ => wpAny_mono h₁ (fun vl s₂ h₂ => wpAny_mono h₂ (fun vu s₃ h₃ => ?_) fun _ _ x => x) fun _ _ x => x) fun _ _ x => x) ht
  obtain ⟨l, items, lo, hi, g, L, m, ms, rfl, hl, hz, pl, pu, H, k⟩ := h₃
  refine ⟨l, items, lo, hi, rfl, hl, hz, pl, pu, ?_⟩
  have H1 := H.push (o := { cls := .type "slice", data := .fields #[vl, vu, .none] }) rfl (p := fun _ => True) trivial
  have H2 := H1.push (o := { cls := .type "list", data := .seq (slicePick items lo hi none) }) rfl (p := listP (slicePick items lo hi none).toList) ⟨0, by simp⟩
  rw [Heap.size_push] at H2
  exact k _ _ (H2.drop (by simp)) (Nat.le_succ _) fun b o e => Heap.get?_push_of_some _ (Heap.get?_push_of_some _ e)
/-- a call of one of the text's own -/
theorem fh_callK {f : Value} {e : Expr} {rest : List Expr} {pos : Pos} {Q : Value → Shared → Prop} (W : Wd w g) (hk : keepIn (KK w.params) f = true)
    (h : wpAny M A (spliced (backTo pos (starEach (e :: rest) env))) (fun vs s₁ => g.StaysIn s₁.heap ∧ wpAny M A (call f vs) Q E s₁) E s)
    (he : starEach (e :: rest) env = (false, eval e env) :: starEach rest env := by rfl) (hplain : (backTo pos (starEach rest env)).any (·.1) = false := by rfl) :
    wpAny M A (callWith pos f [] (backTo pos (starEach (e :: rest) env)) []) Q E s :=
  callWith_K W.kin hk (wpAny_mono h (fun vs s₁ h₁ => ⟨W.kin.keeps h₁.1, h₁.2⟩) fun _ _ x => x) he hplain
theorem len_join (ys : List Str) : (Txt.join Str.empty ys).length = (ys.map (·.length)).sum := by
  rw [show Txt.join Str.empty ys = Str.join Str.empty ys from StrLaws.glued_eq_join _ _]
  induction ys with
  | nil => rfl
  | cons y r ih =>
    cases r with
    | nil => simp [Str.join]
    | cons z r =>
      rw [show Str.join Str.empty (y :: z :: r) = y ++ Str.empty ++ Str.join Str.empty (z :: r) from rfl]
      rw [Str.length_append, Str.length_append, ih, List.map_cons, List.sum_cons]
      simp
      rfl
end
/-! short names for what comes after: proofs stay small -/
section
variable {M : Model} {A : Around} {E E' : Value → Shared → Prop} {s : Shared} {env : Env} {st : Stmt} {rest body : List Stmt} {Q K : Flow → Shared → Prop} {α : Type}
/-- K is what must hold behind one statement of a block -/
def Rest (M : Model) (A : Around) (env : Env) (rest : List Stmt) (Q : Flow → Shared → Prop) (E : Value → Shared → Prop) (K : Flow → Shared → Prop) : Prop :=
  ∀ f s, (match f with | .next => wpAny M A (execs rest env) Q E s | f => Q f s) → K f s
theorem Rest.next (h : Rest M A env rest Q E K) (x : wpAny M A (execs rest env) Q E s) : K .next s := h .next s x
theorem Rest.ret {v : Value} (h : Rest M A env rest Q E K) (x : Q (.ret v) s) : K (.ret v) s := h (.ret v) s x
theorem execs_K (h : ∀ K, Rest M A env rest Q E K → wpAny M A (exec st env) K E s) : wpAny M A (execs (st :: rest) env) Q E s := wpAny_execs_cons (h _ fun _ _ x => x)
/-- K is what must hold behind a block -/
def Back (Q K : α → Shared → Prop) : Prop := ∀ f s, Q f s → K f s
theorem Back.go {Q K : α → Shared → Prop} {f : α} (h : Back Q K) (x : Q f s) : K f s := h f s x
theorem body_K {t : Sem Unit} (h : ∀ K, Back Q K → wpAny M A t (fun _ s₂ => wpAny M A (execs body env) K E s₂) E' s) : wpAny M A t (fun _ s₂ => wpAny M A (execs body env) Q E s₂) E' s := h Q fun _ _ x => x
theorem while_K {t : Sem Bool} {Q2 : Shared → Prop} (h : ∀ K, Back Q K → wpAny M A t (fun b s₂ => if b = true then wpAny M A (execs body env) K E s₂ else Q2 s₂) E' s) : wpAny M A t (fun b s₂ => if b = true then wpAny M A (execs body env) Q E s₂ else Q2 s₂) E' s := h Q fun _ _ x => x
theorem test_K {β : Type} {t : Sem Unit} {u : Sem β} {Q : β → Shared → Prop} (h : ∀ K, Back Q K → wpAny M A t (fun _ s₂ => wpAny M A u K E s₂) E' s) : wpAny M A t (fun _ s₂ => wpAny M A u Q E s₂) E' s := h Q fun _ _ x => x
theorem post_K {t : Sem α} {Q : α → Shared → Prop} (h : ∀ K, Back Q K → wpAny M A t K E s) : wpAny M A t Q E s := h Q fun _ _ x => x
end
/-- a frame of a call that began at s₀ -/
structure FX (g : Heap) (L : Addr) (s₀ s : Shared) (m : Str → Option Value) (ms : Mut) : Prop where
  fh : FH g L s.heap m ms
  same : Same s₀ s
section
variable {g g' h' : Heap} {L d : Addr} {s₀ s s' : Shared} {m m' : Str → Option Value} {ms ms' : Mut} {o : Obj} {p p' : Obj → Prop} {tk : Nat}
theorem FX.to (H : FX g L s₀ s m ms) (h : FH g' L h' m' ms') : FX g' L s₀ { s with heap := h', toks := tk } m' ms' := ⟨h, H.same.trans (Same.mk' ..)⟩
theorem FX.to' (H : FX g L s₀ s m ms) (h : FH g' L h' m' ms') : FX g' L s₀ { s with heap := h' } m' ms' := ⟨h, H.same.trans (Same.mkh ..)⟩
theorem FX.tok (H : FX g L s₀ s m ms) : FX g L s₀ { s with toks := tk } m ms := ⟨H.fh, H.same.trans (Same.mk' ..)⟩
theorem FX.at {i : Nat} (H : FX g L s₀ s m ms) (e : ms[i]? = some (d, p)) : (∃ o, s.heap.get? d = some o ∧ p o) ∧ d ≠ L ∧ g.get? d = none := H.fh.at e
theorem FX.keep (H : FX g L s₀ s m ms) : g.StaysIn s.heap := H.fh.keep
theorem FX.lt (H : FX g L s₀ s m ms) : L < s.heap.objs.size := H.fh.lt
theorem FX.list {i : Nat} {its : List Value} (H : FX g L s₀ s m ms) (e : ms[i]? = some (d, listP its)) : s.heap.IsList d its.toArray := let ⟨⟨o, a, b⟩, _⟩ := H.at e; b.is a
theorem FX.drop (H : FX g L s₀ s m ms) (hs : ms'.Sublist ms) : FX g L s₀ s m ms' := ⟨H.fh.drop hs, H.same⟩
theorem FX.glist {its : Array Value} (H : FX g L s₀ s m ms) (x : g.IsList d its) : s.heap.IsList d its := x.at fun o e => H.keep _ o e
theorem FX.gtup {its : Array Value} (H : FX g L s₀ s m ms) (x : g.IsTuple d its) : s.heap.IsTuple d its := let ⟨o, e, r⟩ := x; ⟨o, H.keep _ o e, r⟩
theorem FX.fin (H : FX g L s₀ s m ms) : Same s₀ s ∧ g.StaysIn s.heap := ⟨H.same, H.keep⟩
/-- what stays is taken anew -/
theorem FX.rebase (H : FX g L s₀ s m ms) (hs : ms'.Sublist ms) : ∃ g', FX g' L s₀ s m ms' ∧ g.StaysIn g' ∧
    (∀ p ∈ ms, p.1 ∉ ms'.map (·.1) → ∃ o, g'.get? p.1 = some o ∧ p.2 o) ∧ (∀ n, L < n → (∀ p ∈ ms', p.1 < n) → (above n s.heap).StaysIn g') ∧ g'.StaysIn s.heap := by
  obtain ⟨g', a, b, _, c, d, e⟩ := H.fh.rebase hs
  exact ⟨g', ⟨a, H.same⟩, b, c, d, e⟩
/-- all that was made stays from here on -/
theorem FX.settle (H : FX g L s₀ s m ms) : ∃ g', FX g' L s₀ s m [] ∧ g.StaysIn g' ∧ (∀ (i : Nat) (d : Addr) (p : Obj → Prop), ms[i]? = some (d, p) → ∃ o, g'.get? d = some o ∧ p o) ∧ (∀ n, L < n → (above n s.heap).StaysIn g') ∧ g'.StaysIn s.heap := by
  obtain ⟨g', a, b, c, d, e⟩ := H.rebase (ms' := []) (List.nil_sublist _)
  exact ⟨g', a, b, fun i d p e => c (d, p) (List.mem_of_getElem? e) (by simp), fun n hn => d n hn (fun _ h => nomatch h), e⟩
theorem FX.mlt (H : FX g L s₀ s m ms) : ∀ p ∈ ms, p.1 < s.heap.objs.size := H.fh.mlt
end

section
variable {M : Model} {prog : Program} {w : World} {A : Around} {E : Value → Shared → Prop} {s s₀ : Shared} {g : Heap} {env : Env} {sc : Scope} {L D l : Addr} {cl : List (Str × Addr)} {m : Str → Option Value} {ms : Mut} {n : Nat} {x : Str} {pos : Pos} {v : Value}
theorem fx_ld {Q : Value → Shared → Prop} (V : EV env sc L cl) (H : FX g L s₀ s m ms) (hv : m x = some v) (h : Q v s) (hl : sc.names.lookup x = some .local := by rfl) (hk : sc.kind = .function := by rfl) (hd : (x == ("__debug__" : Str)) = false := by decide) :
    wpAny M A (eval (.Name x pos) env) Q E s := fh_ld V H.fh hv h hl hk hd
theorem fx_ldn {Q : Value → Shared → Prop} (V : EV env sc L cl) (H : FX g L s₀ s m ms) (hv : m x = some v) (h : Q v s) (hl : sc.names.lookup x = some .local := by rfl) (hk : sc.kind = .function := by rfl) :
    wpAny M A (loadName env x) Q E s := fh_ldn V H.fh hv h hl hk
theorem fx_gl {Q : Value → Shared → Prop} (V : EV env sc L cl) (H : FX g L s₀ s m ms) (W : Wd w g) (e : nsIn (KK w.params) mainGlobals x = some (some v)) (h : Q v s) (hl : sc.names.lookup x = some .globalImplicit := by rfl) (hk : sc.kind = .function := by rfl) (hd : (x == ("__debug__" : Str)) = false := by decide) :
    wpAny M A (eval (.Name x pos) env) Q E s := fh_gl V H.fh W e h hl hk hd
theorem fx_bi {Q : Value → Shared → Prop} (V : EV env sc L cl) (H : FX g L s₀ s m ms) (W : Wd w g) (e : nsIn (KK w.params) mainGlobals x = some none) (hv : bootBuiltins x = some v) (h : Q v s) (hl : sc.names.lookup x = some .globalImplicit := by rfl) (hk : sc.kind = .function := by rfl) (hd : (x == ("__debug__" : Str)) = false := by decide) (hn : x ≠ "__name__" := by decide) :
    wpAny M A (eval (.Name x pos) env) Q E s := fh_bi V H.fh W e hv h hl hk hd hn
theorem fx_ldc {Q : Value → Shared → Prop} {c : Addr} {i : Nat} (V : EV env sc L cl) (H : FX g L s₀ s m ms) (hc : cl.lookup x = some c) (hi : ms[i]? = some (c, cellP (some v))) (h : Q v s) (hl : sc.names.lookup x = some .cell := by rfl) (hk : sc.kind = .function := by rfl) (hd : (x == ("__debug__" : Str)) = false := by decide) :
    wpAny M A (eval (.Name x pos) env) Q E s := fh_ldc V H.fh hc hi h hl hk hd
theorem fx_ldcg {Q : Value → Shared → Prop} {c : Addr} (V : EV env sc L cl) (H : FX g L s₀ s m ms) (hc : cl.lookup x = some c) (hi : g.IsCell c (some v)) (h : Q v s) (hl : sc.names.lookup x = some .cell := by rfl) (hk : sc.kind = .function := by rfl) (hd : (x == ("__debug__" : Str)) = false := by decide) :
    wpAny M A (eval (.Name x pos) env) Q E s := fh_ldcg V H.fh hc hi h hl hk hd
theorem fx_ldfg {Q : Value → Shared → Prop} {c : Addr} (V : EV env sc L cl) (H : FX g L s₀ s m ms) (hc : cl.lookup x = some c) (hi : g.IsCell c (some v)) (h : Q v s) (hl : sc.names.lookup x = some .free := by rfl) (hk : sc.kind = .function := by rfl) (hd : (x == ("__debug__" : Str)) = false := by decide) (hn : (x == ("__classdict__" : Str)) = false := by decide) :
    wpAny M A (eval (.Name x pos) env) Q E s := fh_ldfg V H.fh hc hi h hl hk hd hn
theorem fx_st {Q : Unit → Shared → Prop} (V : EV env sc L cl) (H : FX g L s₀ s m ms)
    (h : ∀ s', FX g L s₀ s' (upd x v m) ms → Q () s') (hl : sc.names.lookup x = some .local := by rfl) (hk : sc.kind = .function := by rfl) :
    wpAny M A (storeName env x v) Q E s := fh_st V H.fh (fun h' H' => h _ (H.to H')) hl hk
theorem fx_stc {Q : Unit → Shared → Prop} {c : Addr} {i : Nat} {v₀ : Option Value} (V : EV env sc L cl) (H : FX g L s₀ s m ms) (hc : cl.lookup x = some c) (hi : ms[i]? = some (c, cellP v₀))
    (h : ∀ s', FX g L s₀ s' m (ms.set i (c, cellP (some v))) → Q () s') (hl : sc.names.lookup x = some .cell := by rfl) (hk : sc.kind = .function := by rfl) :
    wpAny M A (storeName env x v) Q E s := fh_stc V H.fh hc hi (fun h' H' => h _ (H.to' H')) hl hk
-- constants
theorem fx_int {i : Int} {k : Nat} {Q : Value → Shared → Prop} (H : FX g L s₀ s m ms) (h : ∀ s' t, FX g L s₀ s' m ms → Q (.int i t) s') : wpAny M A (eval (.Constant (.int i) k pos) env) Q E s := wpAny_Constant_int (h _ _ H.tok)
theorem fx_str {y : Str} {k : Nat} {Q : Value → Shared → Prop} (H : FX g L s₀ s m ms) (h : ∀ s' t, FX g L s₀ s' m ms → Q (.str y t) s') : wpAny M A (eval (.Constant (.str y) k pos) env) Q E s := Calls.Constant_str (h _ _ H.tok)
-- lists and tuples
theorem fx_list {vs : List Value} {Q : Value → Shared → Prop} (H : FX g L s₀ s m ms) (h : ∀ a s', FX g L s₀ s' m ((a, listP vs) :: ms) → s.heap.objs.size ≤ a → Q (.ref a) s') (hsz : vs.length ≤ sizeLine := by size_fits) :
    wpAny M A (newList vs) Q E s := fh_list H.fh (fun a h' H' z _ => h a _ (H.to' H') z) hsz
theorem fx_tuple {vs : List Value} {Q : Value → Shared → Prop} (H : FX g L s₀ s m ms) (h : ∀ a s', FX g L s₀ s' m ((a, tupP vs) :: ms) → s.heap.objs.size ≤ a → Q (.ref a) s') (hsz : vs.length ≤ sizeLine := by size_fits) :
    wpAny M A (newTuple vs) Q E s := fh_tuple H.fh (fun a h' H' z _ => h a _ (H.to' H') z) hsz
theorem fx_append {i : Nat} {its : List Value} {x : Value} {Q : Value → Shared → Prop} (H : FX g L s₀ s m ms) (hi : ms[i]? = some (D, listP its))
    (h : ∀ s', FX g L s₀ s' m (ms.set i (D, listP (its ++ [x]))) → Q .none s') (hsz : its.length ≤ sizeLine := by size_fits) : wpAny (model prog w) A (call (.builtin "list.append") [.ref D, x]) Q E s :=
  fh_append H.fh hi (fun h' H' _ => h _ (H.to' H')) hsz
theorem fx_append_meth {i : Nat} {its : List Value} {pl : Sem Bool} {Q : Value × List Value → Shared → Prop} (H : FX g L s₀ s m ms) (hi : ms[i]? = some (D, listP its)) (h : Q (.builtin "list.append", [.ref D]) s) :
    wpAny M A (getMethod (.ref D) "append" pl) Q E s := fh_append_meth H.fh hi h
theorem fx_expr {e : Expr} {Q : Flow → Shared → Prop} (V : EV env sc L cl) (h : wpAny M A (eval e env) (fun v s' => match v with | .ref _ => False | _ => Q .next s') E s)
    (hk : sc.kind = .function := by rfl) (hs : swapsWith e none pos.line env = pure false := by rfl) : wpAny M A (exec (.Expr e pos) env) Q E s := fh_expr V h hk hs
theorem fx_unpack {elts : List Expr} {k : Nat} {items : Array Value} {Q : Unit → Shared → Prop} (hA : AOk n A) (H : FX g L s₀ s m ms) (hl : s.heap.IsList l items) (hn : (assignEach elts env).length = items.size)
    (hstar : (assignEach elts env).findIdx? (·.1) = none) (h : ∀ s', FX g L s₀ s' m ms → s.heap.StaysIn s'.heap → wpAny (model prog w) A (assignInOrder ((assignEach elts env).map (·.2)) items.toList) Q E s') :
    wpAny (model prog w) A (assign (.Tuple elts k pos) env (.ref l)) Q E s := fh_unpack hA H.fh hl hn hstar fun h' H' k => h _ (H.to' H') k
theorem fx_unpackT {elts : List Expr} {k : Nat} {items : Array Value} {Q : Unit → Shared → Prop} (hA : AOk n A) (H : FX g L s₀ s m ms) (hl : s.heap.IsTuple l items) (hn : (assignEach elts env).length = items.size)
    (hstar : (assignEach elts env).findIdx? (·.1) = none) (h : ∀ s', FX g L s₀ s' m ms → s.heap.StaysIn s'.heap → wpAny (model prog w) A (assignInOrder ((assignEach elts env).map (·.2)) items.toList) Q E s') :
    wpAny (model prog w) A (assign (.Tuple elts k pos) env (.ref l)) Q E s := fh_unpackT hA H.fh hl hn hstar fun h' H' k => h _ (H.to' H') k
theorem fx_slice {value : Expr} {lower upper : Option Expr} {p pos : Pos} {Q : Value → Shared → Prop}
    (h : wpAny (model prog w) A (eval value env) (fun o s₁ => wpAny (model prog w) A (evalPart lower env) (fun vl s₂ => wpAny (model prog w) A (evalPart upper env) (fun vu s₃ =>
      ∃ l items lo hi g L s₀ m ms, o = .ref l ∧ s₃.heap.IsList l items ∧ items.size ≤ sizeLine ∧ IsPart vl lo ∧ IsPart vu hi ∧ FX g L s₀ s₃ m ms ∧
        ∀ a s', FX g L s₀ s' m ((a, listP (slicePick items lo hi none).toList) :: ms) → s₃.heap.objs.size ≤ a → Q (.ref a) s') E s₂) E s₁) E s)
    (ht : ∀ o r, letTemporaryGo value o r = pure () := by intro _ _; rfl) :
    wpAny (model prog w) A (eval (.Subscript value (.Slice lower upper none p) pos) env) Q E s := by
  refine fh_slice (wpAny_mono h (fun o s₁ h₁ => wpAny_mono h₁ (fun vl s₂ h₂ => wpAny_mono h₂ (fun vu s₃ h₃ => ?_) fun _ _ x => x) fun _ _ x => x) fun _ _ x => x) ht
  obtain ⟨l, items, lo, hi, g, L, s₀, m, ms, a, b, c, d, e, H, k⟩ := h₃
  exact ⟨l, items, lo, hi, g, L, m, ms, a, b, c, d, e, H.fh, fun q h' H' z _ => k q _ (H.to' H') z⟩
-- ints
variable {a b : Int} {t u : Tok}
theorem fx_add {Q : Value → Shared → Prop} (H : FX g L s₀ s m ms) (h : ∀ s' t', FX g L s₀ s' m ms → Q (.int (a + b) t') s') : wpAny (model prog w) A (binaryOp .Add (.int a t) (.int b u)) Q E s := PyProof.Rows.add_int (h _ _ H.tok)
theorem fx_sub {Q : Value → Shared → Prop} (H : FX g L s₀ s m ms) (h : ∀ s' t', FX g L s₀ s' m ms → Q (.int (a - b) t') s') : wpAny (model prog w) A (binaryOp .Sub (.int a t) (.int b u)) Q E s := PyProof.Rows.sub_int (h _ _ H.tok)
theorem fx_mul {Q : Value → Shared → Prop} (H : FX g L s₀ s m ms) (h : ∀ s' t', FX g L s₀ s' m ms → Q (.int (a * b) t') s') (hm : IntMulOk a b) : wpAny (model prog w) A (binaryOp .Mult (.int a t) (.int b u)) Q E s := PyProof.Rows.mul_int (h _ _ H.tok) hm
theorem fx_and {Q : Value → Shared → Prop} (H : FX g L s₀ s m ms) (h : ∀ s' t', FX g L s₀ s' m ms → Q (.int (Builtin.bitAnd a b) t') s') : wpAny (model prog w) A (binaryOp .BitAnd (.int a t) (.int b u)) Q E s := PyProof.Rows.and_int (h _ _ H.tok)
theorem fx_xor {Q : Value → Shared → Prop} (H : FX g L s₀ s m ms) (h : ∀ s' t', FX g L s₀ s' m ms → Q (.int (Builtin.bitXor a b) t') s') : wpAny (model prog w) A (binaryOp .BitXor (.int a t) (.int b u)) Q E s := PyProof.Rows.xor_int (h _ _ H.tok)
theorem fx_neg {Q : Value → Shared → Prop} (H : FX g L s₀ s m ms) (h : ∀ s' t', FX g L s₀ s' m ms → Q (.int (-a) t') s') : wpAny (model prog w) A (unaryOp .USub (.int a t)) Q E s := PyProof.Rows.neg_int (h _ _ H.tok)
theorem fx_len {items : Array Value} {Q : Value → Shared → Prop} (H : FX g L s₀ s m ms) (hl : s.heap.IsList l items) (hf : (items.size : Int) < 2 ^ 63) (h : ∀ s' t', FX g L s₀ s' m ms → Q (.int items.size t') s') : wpAny (model prog w) A (call (.builtin "len") [.ref l]) Q E s := PyProof.Rows.len_list hl hf (h _ _ H.tok)
theorem fx_lenS {y : Str} {Q : Value → Shared → Prop} (H : FX g L s₀ s m ms) (hf : ¬ (y.length : Int) ≥ 2 ^ 63) (h : ∀ s' t', FX g L s₀ s' m ms → Q (.int y.length t') s') : wpAny (model prog w) A (call (.builtin "len") [.str y t]) Q E s := PyProof.Rows.len_str hf (h _ _ H.tok)
theorem fx_join {items : Array Value} {ys : List Str} {y : Str} {Q : Value → Shared → Prop} (H : FX g L s₀ s m ms) (hl : s.heap.IsList l items) (hi : StrsAre items.toList ys) (hok : (ys.map (·.length)).sum + ys.length * y.length ≤ 16777216)
    (h : ∀ s' t', FX g L s₀ s' m ms → Q (.str (Txt.join y ys) t') s') : wpAny (model prog w) A (call (.builtin "str.join") [.str y t, .ref l]) Q E s := PyProof.Rows.join_list hl hi hok fun _ _ => h _ _ H.tok
theorem fx_item {items : Array Value} {k : Int} {Q : Value → Shared → Prop} (hl : s.heap.IsList l items) (h0 : 0 ≤ k) (hf : k < 2 ^ 63) (hx : items[k.toNat]? = some v) (h : Q v s) : wpAny (model prog w) A (getItem (.ref l) (.int k t)) Q E s := wpAny_getItem_list hl h0 hf hx h
end

-- calls
section
variable {prog : Program} {w : World} {A : Around} {E : Value → Shared → Prop} {s : Shared} {n : Nat} {K : Frag}
  {name qual : Str} {params : Arguments} {body : List Stmt} {scope : Scope} {dV kV doc pm cdv ct oc : Value} {an od : Option Addr} {osl : Array (Option Value)} {f : Addr} {args : List Value} {binds : List (Str × Value)}
theorem fx_enter {Q : Value → Shared → Prop} (hA : AOk n A) (hn : n < 900) (W : Wd w s.heap)
    (ho : (KK w.params).lookup f = some ⟨oc, od, .func (fnOf name qual params body scope dV kV doc pm an cdv ct), osl⟩) (hcd : codeIn (KK w.params) cdv qual = true)
    (hbind : BindsTo s (fnOf name qual params body scope dV kV doc pm an cdv ct) ⟨args, []⟩ binds) (hloc : ∀ y ∈ binds, scope.names.lookup y.1 = some .local)
    (h : ∀ env L s' A', EV env scope L [] → AOk (n + 1) A' → L = s.heap.objs.size → FX s.heap L s s' (fun y => binds.reverse.lookup y) [] →
      wpAny (model prog w) A' (execs body env) (fun fl s' => Q (match fl with | .ret v => v | _ => .none) s') (fun _ _ => False) s')
    (hco : scope.isCoroutine = false) (hgen : scope.isGenerator = false) (hk : scope.kind = .function) (hcell : ∀ x ∈ scope.names, x.2 ≠ .cell) :
    wpAny (model prog w) A (call (.ref f) args) Q E s :=
  fh_enter hA hn W ho hcd hbind hloc (fun env L h₁ A' tk V a e H => h env L _ A' V a e ⟨H, Same.mk' ..⟩) hco hgen hk hcell
theorem fx_enterC {Q : Value → Shared → Prop} (cl : Nat → List (Str × Addr)) (ml : Str → Option Value) (ms : Nat → Mut) (binds : List (Str × Value)) (hA : AOk n A) (hn : n < 900) (W : Wd w s.heap)
    (ho : (KK w.params).lookup f = some ⟨oc, od, .func (fnOf name qual params body scope dV kV doc pm an cdv ct), osl⟩) (hcd : codeIn (KK w.params) cdv qual = true)
    (hbind : BindsTo s (fnOf name qual params body scope dV kV doc pm an cdv ct) ⟨args, []⟩ binds)
    (hkind : (binds.all fun y => scope.names.lookup y.1 == some .local || scope.names.lookup y.1 == some .cell) = true)
    (hnd : ((cellsFrom 0 scope.names []).map (·.1)).Nodup)
    (hcl : ∀ L, cellsFrom (L + 1) scope.names [] = cl L) (hml : bindL (fun x => scope.names.lookup x) binds (fun _ => none) = ml)
    (hms : ∀ L, (cl L).map (fun q => (q.2, cellP (bindC (fun x => scope.names.lookup x) binds (fun _ => none) q.1))) = ms L)
    (h : ∀ env L s' A', EV env scope L (cl L) → AOk (n + 1) A' → L = s.heap.objs.size → FX s.heap L s s' ml (ms L) →
      wpAny (model prog w) A' (execs body env) (fun fl s' => Q (match fl with | .ret v => v | _ => .none) s') (fun _ _ => False) s')
    (hco : scope.isCoroutine = false) (hgen : scope.isGenerator = false) (hk : scope.kind = .function) :
    wpAny (model prog w) A (call (.ref f) args) Q E s :=
  fh_enterC hA hn W ho hcd hbind hkind hnd hcl hml hms (fun env L h₁ A' tk V a e H _ _ => h env L _ A' V a e ⟨H, Same.mk' ..⟩) hco hgen hk
end

-- comprehensions
section
variable {prog : Program} {w : World} {A : Around} {E : Value → Shared → Prop} {s : Shared} {env : Env} {scope : Scope} {cl : List (Str × Addr)} {elt target iter : Expr} {ifs : List Expr} {pos : Pos} {n : Nat}
  {sc₀ : Scope} {L : Addr} {cl₀ : List (Str × Addr)} {l : Addr} {s₁ : Shared} {g : Heap} {s₀ : Shared} {m : Str → Option Value} {ms : Mut}
/-- one turn of a comprehension -/
def Turn (prog : Program) (w : World) (A : Around) (sc₀ : Scope) (scope : Scope) (cl : List (Str × Addr)) (elt target : Expr) (ifs : List Expr) (vs : List Value) (p : Nat → Bool) (F : Nat → Value → Heap → Prop) (h₁ : Heap) : Prop :=
  ∀ i v, vs[i]? = some v → ∀ (G : Heap) (env' : Env) (C : Addr) (mc : Str → Option Value) (s' : Shared), h₁.StaysIn G → EV env' (relabelS scope sc₀) C cl → FX G C s' s' mc [] →
    wpAny (model prog w) A (assign target env' v) (fun _ s₂ => wpAny (model prog w) A (testsOf ifs env') (fun ok s₃ => ok = p i ∧
      if ok = true then wpAny (model prog w) A (eval elt env') (fun y s₄ => (∃ mc', FX G C s' s₄ mc' []) ∧ F i y (above (C + 1) s₄.heap)) (fun _ _ => False) s₃
      else (∃ mc', FX G C s' s₃ mc' [])) (fun _ _ => False) s₂) (fun _ _ => False) s'
theorem Turn.step {vs : List Value} {p : Nat → Bool} {F : Nat → Value → Heap → Prop} (h : Turn prog w A sc₀ scope cl elt target ifs vs p F s₁.heap) : CompStep prog w A sc₀ scope cl elt target ifs vs p F s₁ := by
  intro i v hi G env' C mc s' hG V' H' hs'
  refine wpAny_mono (h i v hi G env' C mc s' hG V' ⟨H', Same.refl _⟩) (fun _ s₂ h₂ => wpAny_mono h₂ (fun ok s₃ h₃ => ⟨h₃.1, ?_⟩) fun _ _ x => x) fun _ _ x => x
  have h₃' := h₃.2
  split
  · rename_i e
    rw [if_pos e] at h₃'
    exact wpAny_mono h₃' (fun y s₄ h₄ => ⟨let ⟨mc', H⟩ := h₄.1; ⟨mc', H.fh⟩, h₄.2, let ⟨_, H⟩ := h₄.1; H.same⟩) fun _ _ x => x
  · rename_i e
    rw [if_neg e] at h₃'
    obtain ⟨mc', H⟩ := h₃'
    exact ⟨⟨mc', H.fh⟩, H.same⟩
theorem fx_comp_val {Q : Value → Shared → Prop} (vs : List Value) (p : Nat → Bool) (F : Nat → Value → Heap → Prop) (hF : ∀ i y h h', F i y h → h.StaysIn h' → F i y h')
    (hA : AOk n A) (V : EV env sc₀ L cl₀) (H : FX g L s₀ s₁ m ms) (hl : s₁.heap.IsList l vs.toArray) (hsz : vs.length ≤ sizeLine)
    (hcell : ∀ y ∈ scope.names, y.2 ≠ .cell) (hkind : scope.kind = .function)
    (step : Turn prog w A sc₀ scope cl elt target ifs vs p F s₁.heap)
    (done : ∀ D ys s', FX g L s₀ s' m ms → s₁.heap.StaysIn s'.heap → s₁.heap.objs.size ≤ D → (above s₁.heap.objs.size s'.heap).IsList D (List.toArray ys) → Paired (fun i y => F i y (above s₁.heap.objs.size s'.heap)) ((List.range vs.length).filter p) ys → Q (.ref D) s') :
    CompI prog w A E env scope cl elt target iter ifs pos none Q (.ref l) s₁ :=
  comp_val p F hF hA V hl hsz hcell hkind step.step fun D ys s' hS hk hD hP => done D ys _ ⟨H.fh.grow hk, H.same.trans hS⟩ hk (by obtain ⟨o, e, _⟩ := hD; exact above_ge e) hD hP
theorem fx_comp_set {y : Str} {py : Pos} {Qs : Shared → Prop} (vs : List Value) (p : Nat → Bool) (F : Nat → Value → Heap → Prop) (hF : ∀ i y h h', F i y h → h.StaysIn h' → F i y h')
    (hA : AOk n A) (V : EV env sc₀ L cl₀) (H : FX g L s₀ s₁ m ms) (hl : s₁.heap.IsList l vs.toArray) (hsz : vs.length ≤ sizeLine)
    (hcell : ∀ y ∈ scope.names, y.2 ≠ .cell) (hkind : scope.kind = .function) (hy : sc₀.names.lookup y = some .local) (hk₀ : sc₀.kind = .function)
    (step : Turn prog w A sc₀ scope cl elt target ifs vs p F s₁.heap)
    (done : ∀ D ys s', FX g L s₀ s' (upd y (.ref D) m) ms → s₁.heap.objs.size ≤ D → (above s₁.heap.objs.size s'.heap).IsList D (List.toArray ys) →
      Paired (fun i y => F i y (above s₁.heap.objs.size s'.heap)) ((List.range vs.length).filter p) ys → Qs s') :
    CompI prog w A E env scope cl elt target iter ifs pos (some (assign (.Name y py) env)) (fun _ => Qs) (.ref l) s₁ :=
  comp_set p F hF hA V H.fh hl hsz hcell hkind hy hk₀ step.step fun D ys s' hS hD H' hl hP => done D ys _ ⟨H', H.same.trans hS⟩ hD hl hP
end
abbrev Tag := PySem.Str × Nat
def IsTags (h : Heap) (l : Addr) (T : List Tag) : Prop := ∃ vs : List Value, h.IsList l vs.toArray ∧ vs.length = T.length ∧ ∀ (i : Nat) (t : Tag), T[i]? = some t → ∃ (a : Addr) (tk tk2 : Tok), vs[i]? = some (Value.ref a) ∧ h.IsList a #[Value.str t.1 tk, Value.int (t.2 : Int) tk2]
theorem IsTags.keeps {h h' : Heap} {l : Addr} {T : List Tag} (x : IsTags h l T) (k : h.StaysIn h') : IsTags h' l T :=
  let ⟨vs, a, b, c⟩ := x; ⟨vs, a.at fun o e => k _ o e, b, fun i t e => let ⟨q, tk, tk2, e1, e2⟩ := c i t e; ⟨q, tk, tk2, e1, e2.at fun o e => k _ o e⟩⟩
def hits (c : Nat) (t : Tag) : Bool := c &&& t.2 != 0
def namesOf (T : List Tag) (c : Nat) : List Tag := (T.drop 7).filter (hits c)
def sizeOf' (T : List Tag) (c : Nat) : Nat := ((namesOf T c).map (·.1.length)).sum
def countOf (T : List Tag) (c : Nat) : Nat := (namesOf T c).length
theorem bitAnd_nat (a b : Nat) : Builtin.bitAnd (a : Int) (b : Int) = ((a &&& b : Nat) : Int) := by
  rw [bitAnd_pp (by omega) (by omega)]; simp
theorem hits_int (c : Nat) (t : Tag) : (Builtin.bitAnd (c : Int) (t.2 : Int) != 0) = hits c t := by
  unfold hits; rw [bitAnd_nat, Bool.eq_iff_iff]; simp
theorem strs_of {l : List Tag} {ys : List Value} (P : Paired (fun (t : Tag) y => ∃ tk : Tok, y = Value.str t.1 tk) l ys) : StrsAre ys (l.map (·.1)) := by
  induction P with
  | nil => exact .nil
  | cons f _ ih => obtain ⟨tk, rfl⟩ := f; exact .cons _ _ ih
theorem sum_le {l : List Nat} {b : Nat} (h : ∀ x ∈ l, x ≤ b) : l.sum ≤ l.length * b := by
  induction l with
  | nil => simp
  | cons x r ih =>
    have h1 := h x (by simp)
    have h2 := ih fun y hy => h y (List.mem_cons_of_mem _ hy)
    rw [List.sum_cons, List.length_cons, Nat.succ_mul]; omega
/-- the tags of a law are few and short -/
structure Small (T : List Tag) : Prop where
  len : T.length ≤ 64
  short : ∀ t ∈ T, t.1.length ≤ 64
theorem Small.names {T : List Tag} (h : Small T) (c : Nat) : (namesOf T c).length ≤ 64 ∧ ((namesOf T c).map (·.1.length)).sum ≤ 4096 := by
  have h1 : (namesOf T c).length ≤ 64 := by
    have := List.length_filter_le (hits c) (T.drop 7)
    have := h.len
    unfold namesOf; simp only [List.length_drop] at *; omega
  refine ⟨h1, ?_⟩
  have := sum_le (l := (namesOf T c).map (·.1.length)) (b := 64) fun x hx => by
    obtain ⟨t, ht, rfl⟩ := List.mem_map.mp hx
    exact h.short t (List.mem_of_mem_drop (List.mem_filter.mp ht).1)
  rw [List.length_map] at this
  have h2 := Nat.mul_le_mul_right 64 h1
  omega
theorem range_filter_get {α : Type} (l : List α) (q : α → Bool) (p : Nat → Bool) (hp : ∀ i a, l[i]? = some a → p i = q a) {β : Type} {F : Nat → β → Prop} {G : α → β → Prop} {ys : List β}
    (P : Paired F ((List.range l.length).filter p) ys) (h : ∀ i a y, l[i]? = some a → F i y → G a y) : Paired G (l.filter q) ys := by
  have key : ∀ (k : Nat) (ys : List β), k ≤ l.length → Paired F ((List.range k).filter p) ys → Paired G ((l.take k).filter q) ys := by
    intro k
    induction k with
    | zero => intro ys _ P; rw [List.range_zero, List.filter_nil] at P; rw [List.take_zero, List.filter_nil]; cases P; exact .nil
    | succ k ih =>
      intro ys hk P
      have hlt : k < l.length := hk
      have e : l[k]? = some l[k] := by simp [hlt]
      rw [List.range_succ, List.filter_append] at P
      rw [List.take_add_one, e, List.filter_append]
      have split : ∀ {a b : List Nat} {ys : List β}, Paired F (a ++ b) ys → ∃ y1 y2, ys = y1 ++ y2 ∧ Paired F a y1 ∧ Paired F b y2 := by
        intro a
        induction a with
        | nil => intro b ys P; exact ⟨[], ys, rfl, .nil, P⟩
        | cons x a ih =>
          intro b ys P
          cases P with
          | cons f P => obtain ⟨y1, y2, rfl, P1, P2⟩ := ih P; exact ⟨_ :: y1, y2, rfl, .cons f P1, P2⟩
      obtain ⟨y1, y2, rfl, P1, P2⟩ := split P
      have h1 := ih y1 (Nat.le_of_lt hk) P1
      have app : ∀ {a b : List α} {y1 y2 : List β}, Paired G a y1 → Paired G b y2 → Paired G (a ++ b) (y1 ++ y2) := by
        intro a b y1 y2 A B
        induction A with
        | nil => exact B
        | cons f _ ih => exact .cons f ih
      refine app h1 ?_
      simp only [Option.toList_some, List.filter_cons, List.filter_nil] at P2 ⊢
      rw [← hp k _ e]
      cases hpk : p k with
      | true => rw [hpk] at P2; simp only [if_true] at P2 ⊢; cases P2 with | cons f P2 => cases P2; exact .cons (h k _ _ e f) .nil
      | false => rw [hpk] at P2; simp only [Bool.false_eq_true, if_false] at P2 ⊢; cases P2; exact .nil
  have := key l.length ys (Nat.le_refl _) P
  rwa [List.take_length] at this
/-! ## the library's frames and news, over all there is -/
def others (h : Heap) (xs : List Addr) : List (Addr × Obj) := (List.range h.objs.size).filterMap fun a => if a ∈ xs then none else (h.get? a).map fun o => (a, o)
theorem mem_others {h : Heap} {xs : List Addr} {a : Addr} {o : Obj} : (a, o) ∈ others h xs ↔ a ∉ xs ∧ h.get? a = some o := by
  unfold others
  rw [List.mem_filterMap]
  constructor
  · rintro ⟨b, -, e⟩
    split at e
    · cases e
    · rename_i hb
      obtain ⟨o', e', q⟩ := Option.map_eq_some_iff.mp e
      cases q; exact ⟨hb, e'⟩
  · rintro ⟨hb, e⟩
    exact ⟨a, List.mem_range.mpr (Heap.lt_size e), by rw [if_neg hb, e]; rfl⟩
def noHeap : Heap := { objs := #[] }
theorem noHeap_none (a : Addr) : noHeap.get? a = none := by
  cases e : noHeap.get? a with
  | none => rfl
  | some o => exact absurd (Heap.lt_size e) (Nat.not_lt_zero _)
section
variable {g h h' : Heap} {L d : Addr} {m m' : Str → Option Value} {ms : Mut} {o ox ox' : Obj} {p p' : Obj → Prop} {s s₀ : Shared}
theorem lib_fr (hn : h.Ns L m) : Fr noHeap L h m := ⟨hn, (fun b o e => by rw [noHeap_none] at e; cases e), Nat.zero_le _⟩
theorem lib_news (hx : h.get? d = some ox) (hd : d ≠ L) : News noHeap L h ([] ++ (d, ox) :: others h [L, d]) := fun p hp => by
  rcases List.mem_cons.mp hp with rfl | hp
  · exact ⟨hx, hd, noHeap_none _⟩
  · obtain ⟨a, o⟩ := p
    obtain ⟨q, e⟩ := mem_others.mp hp
    simp only [List.mem_cons, List.not_mem_nil, or_false, not_or] at q
    exact ⟨e, q.1, noHeap_none _⟩
theorem lib_off : ∀ p ∈ others h [L, d], p.1 ≠ d := fun p hp => by
  obtain ⟨a, o⟩ := p
  obtain ⟨q, e⟩ := mem_others.mp hp
  simp only [List.mem_cons, List.not_mem_nil, or_false, not_or] at q
  exact q.2
theorem FH.lib {i : Nat} (H : FH g L h m ms) (hi : ms[i]? = some (d, p)) (F : Fr noHeap L h' m') (N : News noHeap L h' ([] ++ (d, ox') :: others h [L, d])) (hp : p' ox') : FH g L h' m' (ms.set i (d, p')) := by
  have hd := H.at hi
  have hk : ∀ a o, a ≠ L → a ≠ d → h.get? a = some o → h'.get? a = some o := fun a o h1 h2 e =>
    (N (a, o) (List.mem_cons_of_mem _ (mem_others.mpr ⟨by simp only [List.mem_cons, List.not_mem_nil, or_false, not_or]; exact ⟨h1, h2⟩, e⟩))).1
  have ho : h'.get? d = some ox' := (N (d, ox') (List.mem_cons_self ..)).1
  refine ⟨F.ns, fun b o e => hk b o (fun q => by rw [q, H.off] at e; cases e) (fun q => by rw [q, hd.2.2] at e; cases e) (H.keep b o e), H.off, fun q hq => ?_, by rw [set_map hi]; exact H.nodup⟩
  obtain ⟨j, hj⟩ := List.getElem?_of_mem hq
  rw [List.getElem?_set] at hj
  split at hj
  · rename_i e
    split at hj
    · cases hj; exact ⟨⟨_, ho, hp⟩, hd.2⟩
    · cases hj
  · rename_i ne
    have z := H.tur q (List.mem_of_getElem? hj)
    refine ⟨?_, z.2⟩
    obtain ⟨o', e', r'⟩ := z.1
    refine ⟨o', hk _ _ z.2.1 (fun q' => ne ?_) e', r'⟩
    have nd := H.nodup
    have h1 : (ms.map (·.1))[i]? = some d := by rw [List.getElem?_map, hi]; rfl
    have h2 : (ms.map (·.1))[j]? = some d := by rw [List.getElem?_map, hj, ← q']; rfl
    obtain ⟨l1, e1⟩ := List.getElem?_eq_some_iff.mp h1
    obtain ⟨l2, e2⟩ := List.getElem?_eq_some_iff.mp h2
    exact (List.getElem_inj nd).mp (e1.trans e2.symm)
/-- less stays: some objects of what stayed may turn -/
theorem FH.less {g' : Heap} {ms' : Mut} (H : FH g L h m ms') (k : g'.StaysIn g) (hm : ∀ p ∈ ms, (∃ o, g.get? p.1 = some o ∧ p.2 o) ∧ g'.get? p.1 = none) (nd : (ms.map (·.1)).Nodup) : FH g' L h m (ms ++ ms') := by
  have off : ∀ {a}, g.get? a = none → g'.get? a = none := fun {a} e => by
    cases q : g'.get? a with
    | none => rfl
    | some o => rw [k _ _ q] at e; cases e
  refine ⟨H.ns, stays_trans k H.keep, off H.off, fun p hp => ?_, ?_⟩
  · rcases List.mem_append.mp hp with hp | hp
    · obtain ⟨⟨o, e, r⟩, z⟩ := hm p hp
      exact ⟨⟨o, H.keep _ _ e, r⟩, (fun q => by rw [q, H.off] at e; cases e), z⟩
    · obtain ⟨a, b, c⟩ := H.tur p hp
      exact ⟨a, b, off c⟩
  · rw [List.map_append]
    refine List.nodup_append.mpr ⟨nd, H.nodup, fun a ha b hb e => ?_⟩
    obtain ⟨p, hp, rfl⟩ := List.mem_map.mp ha
    obtain ⟨q, hq, rfl⟩ := List.mem_map.mp hb
    obtain ⟨⟨o, e', _⟩, _⟩ := hm p hp
    rw [e, (H.tur q hq).2.2] at e'
    cases e'
theorem FX.less {g' : Heap} {ms' : Mut} (H : FX g L s₀ s m ms') (k : g'.StaysIn g) (hm : ∀ p ∈ ms, (∃ o, g.get? p.1 = some o ∧ p.2 o) ∧ g'.get? p.1 = none) (nd : (ms.map (·.1)).Nodup) : FX g' L s₀ s m (ms ++ ms') :=
  ⟨H.fh.less k hm nd, H.same⟩
/-- an object made meanwhile may turn from here on -/
theorem FX.adopt (H : FX g L s₀ s m ms) (e : (above g.objs.size s.heap).get? d = some o) (hp : p o) (hd : d ≠ L) (hm : ∀ q ∈ ms, q.1 ≠ d) : FX g L s₀ s m ((d, p) :: ms) :=
  ⟨⟨H.fh.ns, H.fh.keep, H.fh.off, fun q hq => by
    rcases List.mem_cons.mp hq with rfl | hq
    · exact ⟨⟨o, of_hideAll _ e, hp⟩, hd, Heap.get?_none_of_le (above_ge e)⟩
    · exact H.fh.tur q hq, List.nodup_cons.mpr ⟨fun hq => by obtain ⟨q, hq, e⟩ := List.mem_map.mp hq; exact hm q hq e, H.fh.nodup⟩⟩, H.same⟩
end

/-! ## attributes -/
section
variable {prog : Program} {w : World} {A : Around} {E : Value → Shared → Prop} {s s₀ : Shared} {g : Heap} {L : Addr} {m : Str → Option Value} {ms : Mut} {K : Frag} {x C dx p : Addr} {ox ox' od : Obj} {name : Str} {v : Value} {i j : Nat}
theorem fx_setSlot {Q : Unit → Shared → Prop} (H : FX g L s₀ s m ms) (X : K.In g) (I : InstAt s.heap x ox C (some od)) (hj : ms[j]? = some (x, (· = ox)))
    (hs : findIn K (.ref C) "__setattr__" = some (some (.builtin "object.__setattr__"))) (hp : plainOver K C = true) (ht : takerIn K C name = some (some (.ref p))) (hT : typeIn K (.ref p) = some (.type "member_descriptor")) (hi : slotIn K p C = some i) (hz : i < 1000)
    (e : { ox with slots := (ox.slots ++ Array.replicate (i + 1 - ox.slots.size) none).setIfInBounds i (some v) } = ox') (hf : ox'.isFreed = false)
    (h : ∀ s', FX g L s₀ s' m (ms.set j (x, (· = ox'))) → Q () s') : wpAny (model prog w) A (setAttr (.ref x) name v) Q E s := by
  have XX := X.keeps H.keep
  have hx := H.at hj
  obtain ⟨⟨o, ho, rfl⟩, hxL, hxg⟩ := hx
  exact set_plain XX I hs (osa_descr (s := { s with toks := s.toks + 1 }) KF.slot_mset XX I hp ht hT
    (slot_set (s := { s with toks := s.toks + 1 }) (lib_fr H.fh.ns) (lib_news ho hxL) XX I hi hz (fun _ h => nomatch h) lib_off e hf fun h' F' N' => h _ (H.to (H.fh.lib hj F' N' rfl))))
theorem fx_getSlot {expr : Bool} {Q : Value → Shared → Prop} (H : FX g L s₀ s m ms) (X : K.In g) (I : InstAt s.heap x ox C (some od)) (hg : plainGet K C name = true) (hc : isClsIn K C = true)
    (ha : findIn K (.ref C) name = some (some (.ref p))) (hn : specialIn K (.ref p) "__get__" = some (some (.builtin "member_descriptor.__get__"))) (ht : takesIn K (.ref p) = some true) (hp : slotIn K p C = some i)
    (hv : (ox.slots[i]?).join = some v) (hh : handedIn v = true) (h : ∀ s', FX g L s₀ s' m ms → Q v s') : wpAny (model prog w) A (getAttr (.ref x) name expr) Q E s :=
  get_bind (X.keeps H.keep) I (plainGet_of hg).1 (findObj_data hc ha hn ht) (plainGet_of hg).2 (wpAny_call (slot_get (s := { s with toks := s.toks + 1 }) (X.keeps H.keep) I hp hv (handed_on hh (h _ H.tok))))
theorem fx_setOwn {Q : Unit → Shared → Prop} {es : List DictEntry} {n : Nat} (H : FX g L s₀ s m ms) (X : K.In g) (I : InstAt s.heap x ox C (some (dictOf es n))) (hd : ox.dict = some dx) (hj : ms[j]? = some (dx, (· = dictOf es n)))
    (hs : findIn K (.ref C) "__setattr__" = some (some (.builtin "object.__setattr__"))) (hp : plainOver K C = true) (ht : takerIn K C name = some none) (hh : hasDictIn K C = true) (hl : (getL name es).isSome = true)
    (e : ∀ t, (putL name (PyData.keyHash w.params name) (.str name t) v es).length ≤ 1000)
    (h : ∀ s' t, FX g L s₀ s' m (ms.set j (dx, (· = dictOf (putL name (PyData.keyHash w.params name) (.str name t) v es) (putN name es n)))) → Q () s') : wpAny (model prog w) A (setAttr (.ref x) name v) Q E s := by
  have XX := X.keeps H.keep
  have hx := H.at hj
  obtain ⟨⟨o, ho, rfl⟩, hxL, hxg⟩ := hx
  exact set_plain XX I hs (osa_dict (s := { s with toks := s.toks + 1 }) (lib_fr H.fh.ns) (lib_news ho hxL) XX I hd hp ht hh hl (fun _ h => nomatch h) lib_off (by rw [putName_dict]) rfl (e _) fun h' F' N' => h _ _ (H.to (H.fh.lib hj F' N' rfl)))
theorem fx_getOwn {expr : Bool} {Q : Value → Shared → Prop} {attr : Option Value} {es : List DictEntry} {n : Nat} (H : FX g L s₀ s m ms) (X : K.In g) (I : InstAt s.heap x ox C (some (dictOf es n))) (hg : plainGet K C name = true) (hh : hasDictIn K C = true)
    (ha : findIn K (.ref C) name = some attr) (hn : noGet K attr = true) (hl : getL name es = some (some v)) (hv : handedIn v = true) (h : ∀ s', FX g L s₀ s' m ms → Q v s') :
    wpAny (model prog w) A (getAttr (.ref x) name expr) Q E s :=
  get_value (X.keeps H.keep) I (plainGet_of hg).1 (findObj_own hh ha hn hl) hv (h _ H.tok)
end

section
variable {prog : Program} {w : World} {A : Around} {E : Value → Shared → Prop} {s s₀ : Shared} {g : Heap} {L : Addr} {m : Str → Option Value} {ms : Mut} {K : Frag} {x C dx p d : Addr} {ox ox' od o : Obj} {name : Str} {v : Value} {i j : Nat}
theorem FX.exact (H : FX g L s₀ s m ms) (hi : ms[i]? = some (d, (· = o))) : s.heap.get? d = some o := let ⟨⟨_, e, r⟩, _⟩ := H.at hi; r ▸ e
theorem fx_setSlot2 {Q : Unit → Shared → Prop} (ox : Obj) (H : FX g L s₀ s m ms) (X : K.In g) (hj : ms[0]? = some (x, (· = ox))) (hj' : ms[1]? = some (dx, (· = od))) (hdx : ox.dict = some dx) (hcl : ox.cls = .ref C) (hno : notCls ox = true)
    (hs : findIn K (.ref C) "__setattr__" = some (some (.builtin "object.__setattr__"))) (hp : plainOver K C = true) (ht : takerIn K C name = some (some (.ref p))) (hT : typeIn K (.ref p) = some (.type "member_descriptor")) (hi : slotIn K p C = some i) (hz : i < 1000)
    (e : { ox with slots := (ox.slots ++ Array.replicate (i + 1 - ox.slots.size) none).setIfInBounds i (some v) } = ox') (hf : ox'.isFreed = false)
    (h : ∀ s', FX g L s₀ s' m (ms.set 0 (x, (· = ox'))) → Q () s') : wpAny (model prog w) A (setAttr (.ref x) name v) Q E s :=
  fx_setSlot H X ⟨H.exact hj, hcl, hno, by rw [hdx]; exact H.exact hj'⟩ hj hs hp ht hT hi hz e hf h
end

theorem FX.call {g : Heap} {L : Addr} {s₀ s₁ s' : Shared} {m : Str → Option Value} {ms : Mut} (H : FX g L s₀ s₁ m ms) (S : Same s₁ s') (k : s₁.heap.StaysIn s'.heap) : FX g L s₀ s' m ms := ⟨H.fh.grow k, H.same.trans S⟩

/-! ## what a call makes -/
section
variable {prog : Program} {w : World} {A : Around} {R : Result → Shared → Prop} {s : Shared} {n : Nat}
  {name qual : Str} {params : Arguments} {body : List Stmt} {scope : Scope} {dV kV doc pm cdv ct oc : Value} {an od : Option Addr} {osl : Array (Option Value)} {f C : Addr} {args : List Value} {binds : List (Str × Value)}
theorem AOk.under {C : Addr} {vals : List Value} (x : AOk n A) : AOk (n + 1) (A.under (.builtin "type.__call__" ⟨.ref C :: vals, []⟩)) := ⟨x.hh, by show A.depth + 1 ≤ n + 1; have := x.hd; omega, by show A.units + 1 ≤ 10 * (n + 1); have := x.hu; omega⟩
theorem fx_enterK (hA : AOk n A) (hn : n < 900) (W : Wd w s.heap)
    (ho : (KK w.params).lookup f = some ⟨oc, od, .func (fnOf name qual params body scope dV kV doc pm an cdv ct), osl⟩) (hcd : codeIn (KK w.params) cdv qual = true)
    (hbind : BindsTo s (fnOf name qual params body scope dV kV doc pm an cdv ct) ⟨args, []⟩ binds) (hloc : ∀ y ∈ binds, scope.names.lookup y.1 = some .local)
    (h : ∀ env L s' A', EV env scope L [] → AOk (n + 1) A' → L = s.heap.objs.size → FX s.heap L s s' (fun y => binds.reverse.lookup y) [] →
      wpAny (model prog w) A' (execs body env) (fun fl s' => R (.ok (.ret (match fl with | .ret v => v | _ => .none))) s') (fun _ _ => False) s')
    (hco : scope.isCoroutine = false) (hgen : scope.isGenerator = false) (hk : scope.kind = .function) (hcell : ∀ x ∈ scope.names, x.2 ≠ .cell) :
    codeAny (model prog w) A (.call (.ref f) ⟨args, []⟩) R s := by
  refine codeAny_call_def (fd := fnOf name qual params body scope dV kV doc pm an cdv ct) (body := body) (binds := binds) (room_of hA hn) (W.kin _ _ ho) rfl (nolimit_of W) (codeRec_of W.kin hcd) rfl hbind hcell hloc (fun h₁ hns hk₁ => ?_) hco hgen hk
  exact wpAny_mono (h (envX qual scope s.heap.objs.size f cdv []) s.heap.objs.size _ _ (EV.of ..) hA.deeper rfl ⟨⟨hns, hk₁, Heap.get?_none_of_le (Nat.le_refl _), (fun _ hp => nomatch hp), List.nodup_nil⟩, Same.mk' ..⟩) (fun fl s' hl => hl) fun _ _ x => x.elim
/-- a new object of a class -/
theorem fx_make {Q E : Value → Shared → Prop} {fI : Addr} (hA : AOk n A) (W : Wd w s.heap) (hm : makesIn (KK w.params) C = true)
    (hi : findIn (KK w.params) (.ref C) "__init__" = some (some (.ref fI))) (hf : typeIn (KK w.params) (.ref fI) = some (.type "function"))
    (h : ∀ x dx s' A', AOk (n + 1) A' → Same s s' → s.heap.StaysIn s'.heap → s.heap.objs.size = dx → x = s.heap.objs.size + 1 → s'.heap.get? x = some (instObj C dx) → s'.heap.get? dx = some emptyDict → s'.heap.objs.size = s.heap.objs.size + 2 →
      codeAny (model prog w) A' (.call (.ref fI) ⟨.ref x :: args, []⟩) (fun r s'' => r = .ok (.ret .none) ∧ Q (.ref x) s'') s') :
    wpAny (model prog w) A (call (.ref C) args) Q E s := by
  refine wpAny_call ?_
  obtain ⟨hh, gg, dd, t, os⟩ := s
  refine make_core (makes_of W.kin hm) (looks_findIn W.kin hi) (fun self => bind_fn W.kin self hf) (.inl rfl) ?_
  refine codeAny_mono (h (hh.objs.size + 1) hh.objs.size _ _ hA.under (Same.mkh _ _) (fun _ _ e => Heap.get?_push_of_some _ (Heap.get?_push_of_some _ e)) rfl rfl (by heap_get) (by heap_get) (by simp [Heap.size_push])) fun r s' z => ?_
  obtain ⟨rfl, z⟩ := z
  exact ⟨rfl, z⟩
end
section
variable {prog : Program} {w : World} {A : Around} {E : Value → Shared → Prop} {s s₀ : Shared} {g : Heap} {env : Env} {L : Addr} {m : Str → Option Value} {ms : Mut}
/-- a slice of a str -/
theorem fx_sliceS {value : Expr} {lower upper : Option Expr} {p pos : Pos} {Q : Value → Shared → Prop}
    (h : wpAny (model prog w) A (eval value env) (fun o s₁ => wpAny (model prog w) A (evalPart lower env) (fun vl s₂ => wpAny (model prog w) A (evalPart upper env) (fun vu s₃ =>
      ∃ x t lo hi g L s₀ m ms, o = .str x t ∧ x.length ≤ sizeLine ∧ IsPart vl lo ∧ IsPart vu hi ∧ FX g L s₀ s₃ m ms ∧
        ∀ s' t', FX g L s₀ s' m ms → Q (.str (Txt.slice x lo hi) t') s') E s₂) E s₁) E s)
    (ht : ∀ o r, letTemporaryGo value o r = pure () := by intro _ _; rfl) :
    wpAny (model prog w) A (eval (.Subscript value (.Slice lower upper none p) pos) env) Q E s := by
  refine wpAny_Subscript_str_slice (wpAny_mono h (fun o s₁ h₁ => wpAny_mono h₁ (fun vl s₂ h₂ => wpAny_mono h₂ (fun vu s₃ h₃ => ?_) fun _ _ x => x) fun _ _ x => x) fun _ _ x => x) ht
  obtain ⟨x, t, lo, hi, g, L, s₀, m, ms, rfl, hz, pl, pu, H, k⟩ := h₃
  have H1 := H.fh.push (o := { cls := .type "slice", data := .fields #[vl, vu, .none] }) rfl (p := fun _ => True) trivial
  have H2 := H1.drop (ms' := ms) (by simp)
  cases pl with
  | none => cases pu with
    | none => exact ⟨x, t, none, none, rfl, rfl, rfl, post_val_or_str ⟨Nat.le_trans (Txt.slice_le x _ _) hz, fun t' q => k _ _ (H.to H2)⟩⟩
    | int j tj => exact ⟨x, t, none, some (j, tj), rfl, rfl, rfl, post_val_or_str ⟨Nat.le_trans (Txt.slice_le x _ _) hz, fun t' q => k _ _ (H.to H2)⟩⟩
  | int i ti => cases pu with
    | none => exact ⟨x, t, some (i, ti), none, rfl, rfl, rfl, post_val_or_str ⟨Nat.le_trans (Txt.slice_le x _ _) hz, fun t' q => k _ _ (H.to H2)⟩⟩
    | int j tj => exact ⟨x, t, some (i, ti), some (j, tj), rfl, rfl, rfl, post_val_or_str ⟨Nat.le_trans (Txt.slice_le x _ _) hz, fun t' q => k _ _ (H.to H2)⟩⟩
end
theorem execs_append (env : Env) (a b : List Stmt) : execs (a ++ b) env = (do match ← execs a env with | .next => execs b env | f => pure f) := by
  induction a with
  | nil => rfl
  | cons st rest ih =>
    rw [List.cons_append, execs_cons, execs_cons, ih]
    show (exec st env).bind _ = ((exec st env).bind _).bind _
    rw [Sem.bind_eq_wrap, Sem.bind_eq_wrap, Sem.bind_eq_wrap, Sem.wrap_wrap]
    exact Sem.wrap_congr _ _ _ (fun f => by cases f <;> first | rfl | exact Sem.bind_eq_wrap _ _) (fun _ => rfl)

def forEndK (env : Env) (K : Flow → Sem Fin) (H : Value → Sem Fin) (gd : Bool → Bool) (lv : List Value → List Value) (r : Result) : Sem Fin :=
  ((match r with | .ok f => (.pure f : Sem Flow) | .error e => .raise e).onRaise fun (x : Value) => do
        if (← field x 1) == Value.none then unsupported "frame.own-activation:exception-without-traceback"
        setFlight x env.frame).wrap K H gd lv

section
variable {M : Model} {A : Around} {R : GenEnd} {Y : Protocol} {n : Nat} {s₀ : Shared} {c : Code} {fs : List Frame} {s : Shared} {env : Env}
  {K : Flow → Sem Fin} {H : Value → Sem Fin} {gd : Bool → Bool} {lv : List Value → List Value}
theorem seg_For {target iter : Expr} {body orelse : List Stmt} {pos : Pos}
    (h : wpAny M (A.over c fs) (eval iter env) (fun x s₁ => wpAny M (A.over c fs) (pyIter x) (fun it s₂ => ∀ p,
      Seg M A R Y n s₀ (.forLoop target it body orelse env) (M.den (.forLoop target it body orelse env)) (.ret (forEndK env K H gd lv) none (gd false) (lv []) c p [] :: fs) s₂)
        (fun _ _ => False) s₁) (fun _ _ => False) s) (hs : ∀ x, foldedSetIterable iter env x = pure x := by intro _; rfl) :
    Seg M A R Y n s₀ c ((exec (.For target iter body orelse pos) env).wrap K H gd lv) fs s := by
  rw [exec_For]
  refine seg_bind_wrap (wpAny_standAt ?_)
  refine seg_bind_wrap (wpAny_mono h (fun x s₁ h₁ => ?_) fun _ _ x => x.elim)
  refine seg_bind_wrap (wpAny_of_eq (hs x) ?_)
  refine seg_bind_wrap (wpAny_standAt ?_)
  refine seg_bind_wrap (wpAny_holding (wpAny_mono h₁ (fun it s₂ h₂ => ?_) fun _ _ x => x.elim))
  exact seg_call h₂
end
def GSince (C N : Addr) (s₀ s : Shared) : Prop := Same s₀ s ∧ ∀ b o, b < N → b ≠ C → s₀.heap.get? b = some o → s.heap.get? b = some o
def KeepOff (xs : List Addr) (N : Nat) (h h' : Heap) : Prop := N ≤ h'.objs.size ∧ ∀ b o, b ∉ xs → h.get? b = some o → h'.get? b = some o
def selProto (C N : Addr) (xs : List Addr) (pz : Nat → Bool) (vs : List Value) : Protocol := fun m s₀ v s kap =>
  (∃ i, (passing pz vs.length 0)[(passing pz vs.length 0).length - 1 - m]? = some i ∧ vs[i]? = some v) ∧ GSince C N s₀ s ∧ ∀ s'', KeepOff xs N s.heap s''.heap → kap (.send .none) s''
def selEnd (C N : Addr) : GenEnd := fun n s₀ r s₁ => r = .ok (.ret .none) ∧ n = 0 ∧ GSince C N s₀ s₁
def iterP (l : Addr) (i : Nat) (o : Obj) : Prop := o.cls = .type "list_iterator" ∧ o.data = .fields #[.ref l, .int i 0]
abbrev elemN : PySem.Str := Str.ofString "elem"
def TurnG (w : World) (g : Heap) (sc : Scope) (clos : List (PySem.Str × Addr)) (pre : List Stmt) (test : Expr) (vs : List Value) (pz : Nat → Bool) : Prop :=
  ∀ (A : Around) (env : Env) (C : Addr) (G : Heap) (s₀ s : Shared) (m : PySem.Str → Option Value) (ms : Mut) (i : Nat) (v : Value), A.handled = none → EV env sc C clos → g.StaysIn G → FX G C s₀ s m ms → m elemN = some v → vs[i]? = some v →
    wpAny (model Pg w) A (execs pre env) (fun f s₁ => f = .next ∧ wpAny (model Pg w) A (isTrue test env (eval test env)) (fun b s₂ => b = pz i ∧ ∃ m', FX G C s₀ s₂ m' ms ∧ m' elemN = some v) (fun _ _ => False) s₁) (fun _ _ => False) s
/-- what may be taken up again -/
theorem FX.again {g : Heap} {C N : Addr} {s₀ s s'' : Shared} {m : PySem.Str → Option Value} {ms : Mut} {xs : List Addr} (H : FX g C s₀ s m ms) (k : KeepOff xs N s.heap s''.heap) (hC : C ∉ xs) (hms : ∀ p ∈ ms, p.1 ∉ xs) :
    FX (hideAll s''.heap (C :: ms.map (·.1))) C s'' s'' m ms :=
  ⟨⟨H.fh.ns.at' fun o e => k.2 _ _ hC e, fun _ _ e => of_hideAll _ e, hideAll_none _ (.head _), fun p hp => by
    obtain ⟨⟨o, e, r⟩, hL, _⟩ := H.fh.tur p hp
    exact ⟨⟨o, k.2 _ _ (hms p hp) e, r⟩, hL, hideAll_none _ (.tail _ (List.mem_map_of_mem hp))⟩, H.fh.nodup⟩, Same.refl _⟩
theorem FX.base {g g' : Heap} {C : Addr} {s₀ s : Shared} {m : PySem.Str → Option Value} {ms : Mut} (H : FX g C s₀ s m ms) (k : g'.StaysIn g) : FX g' C s₀ s m ms := H.less (ms := []) k (fun _ h => nomatch h) List.nodup_nil

section
variable {w : World} {A : Around} {g : Heap} {sc : Scope} {clos : List (PySem.Str × Addr)} {pre : List Stmt} {test iter : Expr} {vs : List Value} {pz : Nat → Bool} {I l C N : Addr} {xs : List Addr} {env : Env} {px py : Pos} {ypos epos ipos fpos : Pos}
abbrev selBody (pre : List Stmt) (test : Expr) (py ypos epos ipos : Pos) : List Stmt := pre ++ [.If test [.Expr (.Yield (some (.Name elemN py)) ypos) epos] [] ipos]
theorem seg_sel (hh : A.handled = none) (hT : TurnG w g sc clos pre test vs pz) (V : EV env sc C clos) (hl : g.IsList l vs.toArray) (hg : ∀ b o, g.get? b = some o → b ∉ xs) (hC : C ∉ xs) (hxN : ∀ x ∈ xs, x < N) (hI : N ≤ I)
    (hloc : sc.names.lookup elemN = some .local) (hk : sc.kind = .function) (hco : sc.isCoroutine = false) {kF : Result → Sem Fin} {c₀ : Code} {p₀ : Pos}
    (hkF : ∀ s₀ s, GSince C N s₀ s → Seg (model Pg w) A (selEnd C N) (selProto C N xs pz vs) 0 s₀ c₀ (kF (.ok .next)) [] s) :
    ∀ (d i : Nat) (s₀ s : Shared) (m : PySem.Str → Option Value) (G : Heap), vs.length - i = d → i ≤ vs.length → g.StaysIn G → FX G C s₀ s m [(I, iterP l i)] → (∀ b o, b ≠ C → b ≠ I → s₀.heap.get? b = some o → G.get? b = some o) →
      Seg (model Pg w) A (selEnd C N) (selProto C N xs pz vs) (passing pz vs.length i).length s₀ (.forLoop (.Name elemN px) (.ref I) (selBody pre test py ypos epos ipos) [] env)
        ((model Pg w).den (.forLoop (.Name elemN px) (.ref I) (selBody pre test py ypos epos ipos) [] env)) [.ret kF none false [] c₀ p₀ []] s := by
  have since : ∀ {G : Heap} {s₀ s : Shared} {m : PySem.Str → Option Value} {i : Nat}, FX G C s₀ s m [(I, iterP l i)] → (∀ b o, b ≠ C → b ≠ I → s₀.heap.get? b = some o → G.get? b = some o) → GSince C N s₀ s := fun H hc =>
    ⟨H.same, fun b o hb hbC e => H.keep _ _ (hc b o hbC (fun q => absurd hb (by rw [q]; exact Nat.not_lt.mpr hI)) e)⟩
  have hIx : I ∉ xs := fun h => absurd (hxN I h) (Nat.not_lt.mpr hI)
  intro d
  induction d with
  | zero =>
    intro i s₀ s m G hd hi hgG H hc
    have hin : i = vs.length := by omega
    subst hin
    obtain ⟨⟨o, ho, hcls, hdata⟩, hIC, hIG⟩ := H.at (i := 0) rfl
    show Seg _ A _ _ _ s₀ _ ((forTurn (.Name elemN px) (.ref I) _ [] env).onRaise (fun x => do noteFrame x env; theTreesLotGoes x)) _ s
    unfold forTurn
    rw [Sem.onRaise_eq_wrap]
    refine seg_bind_wrap (wpAny_standAt ?_)
    refine seg_bind_wrap (wpAny_onRaise (wpAny_pyNext_list_end hh ⟨o, ho, hcls, hdata⟩ (hl.at fun o e => H.keep _ o (hgG _ o e)) (by simp) fun h₂ hx₂ => ?_))
    refine seg_again rfl ?_
    show Seg _ A _ _ _ s₀ _ (((execs [] env).onRaise _) >>= _) _ _
    rw [passing_end]
    refine seg_leaf (.ok .next) (hkF _ _ ⟨H.same.trans (Same.mkh ..), fun b o hb hbC e => ?_⟩)
    exact hx₂ _ _ (fun q => absurd hb (by rw [q]; exact Nat.not_lt.mpr hI)) ((since H hc).2 b o hb hbC e)
  | succ d ih =>
    intro i s₀ s m G hd hi hgG H hc
    have hlt : i < vs.length := by omega
    have hx : vs[i]? = some vs[i] := by simp [hlt]
    obtain ⟨⟨o, ho, hcls, hdata⟩, hIC, hIG⟩ := H.at (i := 0) rfl
    show Seg _ A _ _ _ s₀ _ ((forTurn (.Name elemN px) (.ref I) _ [] env).onRaise (fun x => do noteFrame x env; theTreesLotGoes x)) _ s
    unfold forTurn
    rw [Sem.onRaise_eq_wrap]
    refine seg_bind_wrap (wpAny_standAt ?_)
    refine seg_bind_wrap (wpAny_onRaise (wpAny_pyNext_list_item ⟨o, ho, hcls, hdata⟩ (hl.at fun o e => H.keep _ o (hgG _ o e)) (x := vs[i]) (by simp [hlt]) fun h₂ hI₂ hs₂ => ?_))
    have H2 : FX G C s₀ { s with heap := h₂ } m [(I, iterP l (i + 1))] := by
      obtain ⟨o', ho', hp'⟩ := hI₂
      exact H.to' (H.fh.upd (i := 0) rfl hs₂.extBut ho' hp')
    clear H
    refine seg_bind_wrap (wpAny_of_eq (rfl : letOwnedTupleGo (.Name elemN px) (.ref I) vs[i] = pure ()) ?_)
    refine seg_bind_wrap (wpAny_assign_Name (fx_st V H2 (fun s' H => ?_) hloc hk))
    clear H2
    rw [show selBody pre test py ypos epos ipos = pre ++ [.If test [.Expr (.Yield (some (.Name elemN py)) ypos) epos] [] ipos] from rfl, execs_append]
    rw [Sem.bind_eq_wrap', Sem.wrap_wrap, Sem.bind_eq_wrap', Sem.wrap_wrap]
    refine seg_wrap (wpAny_mono (hT (A.over _ _) env C G _ s' _ _ i vs[i] hh V hgG H (by simp [upd]) hx) (fun f s₁ h₁ => ?_) fun _ _ x => x.elim)
    obtain ⟨rfl, h₁⟩ := h₁
    dsimp only
    rw [execs_cons_wrap, exec_If]
    refine seg_bind_wrap (wpAny_standAt ?_)
    refine seg_bind_wrap (wpAny_mono h₁ (fun b s₂ h₂ => ?_) fun _ _ x => x.elim)
    obtain ⟨rfl, m', H', hm⟩ := h₂
    clear h₁ H
    have hdC : vs.length - (i + 1) = d := by omega
    cases hp : pz i with
    | false =>
      rw [passing_false hlt hp]
      simp only [Bool.false_eq_true, if_false]
      exact seg_again rfl (ih (i + 1) s₀ s₂ m' G hdC hlt hgG H' hc)
    | true =>
      rw [passing_true hlt hp, List.length_cons]
      simp only [if_true]
      rw [execs_cons_wrap]
      refine seg_Expr_Yield rfl rfl rfl (fx_ld V H' hm ?_ hloc hk (by decide)) (by rw [V.scope]; exact hco) (by unfold interactive; rw [V.scope, hk]; rfl)
      intro kap hkap
      refine ⟨⟨i, ?_, hx⟩, since H' hc, fun s'' hs'' => hkap .none s'' ?_⟩
      · have := passing_here (pz := pz) hlt hp
        simpa using this
      · have H3 := H'.again hs'' hC (fun p hp => by cases List.mem_singleton.mp hp; exact hIx)
        refine seg_again rfl (ih (i + 1) s'' s'' m' _ hdC hlt ?_ H3 fun b o hbC hbI e => ?_)
        · intro b o e
          refine hideAll_get _ (hs''.2 b o (hg b o e) (H'.keep _ _ (hgG _ _ e))) fun hm => ?_
          rcases List.mem_cons.mp hm with q | q
          · have := hgG _ _ e; rw [q, H'.fh.off] at this; cases this
          · cases List.mem_singleton.mp q; have := hgG _ _ e; rw [hIG] at this; cases this
        · exact hideAll_get _ e fun hm => by
            rcases List.mem_cons.mp hm with q | q
            · exact hbC q
            · exact hbI (List.mem_singleton.mp q)
end
abbrev resultN : PySem.Str := Str.ofString "result"
section
variable {w : World} {A : Around} {g : Heap} {sc : Scope} {clos : List (PySem.Str × Addr)} {pre : List Stmt} {test iter : Expr} {vs : List Value} {pz : Nat → Bool} {I l C N : Addr} {xs : List Addr} {env : Env} {px py pr : Pos} {ypos epos ipos fpos : Pos}
abbrev selFor (pre : List Stmt) (test : Expr) (px py pr ypos epos ipos fpos : Pos) : List Stmt := [.For (.Name elemN px) (.Name resultN pr) (selBody pre test py ypos epos ipos) [] fpos]
theorem seg_select (hh : A.handled = none) (hT : TurnG w g sc clos pre test vs pz) (V : EV env sc C clos) (hl : g.IsList l vs.toArray) (hg : ∀ b o, g.get? b = some o → b ∉ xs) (hC : C ∉ xs) (hxN : ∀ x ∈ xs, x < N) (hCN : C < N)
    (hloc : sc.names.lookup elemN = some .local) (hres : sc.names.lookup resultN = some .local) (hk : sc.kind = .function) (hco : sc.isCoroutine = false) {s : Shared} {m : PySem.Str → Option Value} {G : Heap}
    (hgG : g.StaysIn G) (H : FX G C s s m []) (hN : N ≤ s.heap.objs.size) (hc : ∀ b o, b ≠ C → s.heap.get? b = some o → G.get? b = some o) (hm : m resultN = some (.ref l)) :
    Seg (model Pg w) A (selEnd C N) (selProto C N xs pz vs) (passing pz vs.length 0).length s (.func (selFor pre test px py pr ypos epos ipos fpos) env)
      ((model Pg w).den (.func (selFor pre test px py pr ypos epos ipos fpos) env)) [] s := by
  refine seg_func ?_
  rw [execs_cons_wrap]
  refine seg_For (fx_ld V H hm ?_ hres hk (by decide)) (fun _ => rfl)
  refine wpAny_pyIter_list (hl.at fun o e => H.keep _ o (hgG _ o e)) fun p => ?_
  have H1 := H.fh.push (o := { cls := .type "list_iterator", dict := none, data := .fields #[.ref l, .int 0 0] }) rfl (p := iterP l 0) ⟨rfl, rfl⟩
  refine seg_sel hh hT V hl hg hC hxN hN hloc hk hco ?_ vs.length 0 s _ m G rfl (Nat.zero_le _) hgG (H.to' H1) (fun b o hbC _ e => hc b o hbC e)
  intro s₀ s hs
  exact seg_end (.ok (.ret .none)) ⟨rfl, rfl, hs⟩
/-- a generator that has told j of its values -/
def GenAtJ (w : World) (A : Around) (a : Addr) (gi : Nat) (C N : Addr) (xs : List Addr) (pz : Nat → Bool) (vs : List Value) (j : Nat) (s : Shared) : Prop :=
  s.heap.IsGen a gi ∧ ∃ gs, s.gens[gi]? = some gs ∧ ∀ s'' : Shared, KeepOff xs N s.heap s''.heap →
    gs.Goes (model Pg w) A.in1 (selEnd C N) (selProto C N xs pz vs) ((passing pz vs.length 0).length - j) (.send .none) s''
end
/-- the same, but for the one generator gi too -/
def SameX (gi : Nat) (s s' : Shared) : Prop := ∃ h tk gs, s' = { s with heap := h, toks := tk, gens := gs } ∧ (∀ (k : Nat) (x : GenState), k ≠ gi → s.gens[k]? = some x → gs[k]? = some x) ∧ ∀ (k : Nat) (x : GenState), k ≠ gi → gs[k]? = some x → s.gens[k]? = some x ∨ x.bare = true
theorem SameX.refl (gi : Nat) (s : Shared) : SameX gi s s := ⟨s.heap, s.toks, s.gens, rfl, fun _ _ _ e => e, fun _ _ _ e => .inl e⟩
theorem SameX.trans {gi : Nat} {a b c : Shared} (x : SameX gi a b) (y : SameX gi b c) : SameX gi a c := by
  obtain ⟨h, t, g, rfl, k1, k2⟩ := x; obtain ⟨h', t', g', rfl, k3, k4⟩ := y
  exact ⟨h', t', g', rfl, fun k q n e => k3 k q n (k1 k q n e), fun k q n e => (k4 k q n e).elim (fun e => k2 k q n e) .inr⟩
theorem Same.x {s s' : Shared} (gi : Nat) (x : Same s s') : SameX gi s s' := let ⟨h, t, g, e, k1, k2⟩ := x; ⟨h, t, g, e, fun k q _ e => k1 k q e, fun k q _ e => k2 k q e⟩
theorem SameX.setGen (gi : Nat) (s : Shared) (x : GenState) : SameX gi s (s.setGen gi x) :=
  ⟨s.heap, s.toks, (s.setGen gi x).gens, rfl, fun k q n e => by rw [(GenOnly.setGen s gi x).2 k n]; exact e, fun k q n e => .inl (by rw [(GenOnly.setGen s gi x).2 k n] at e; exact e)⟩
theorem SameX.end_ {gi : Nat} {s₀ s s' : Shared} (x : Same s₀ s) (hgi : s₀.gens[gi]? = none) (y : SameX gi s s') (hb : ∀ q, s'.gens[gi]? = some q → q.bare = true) : Same s₀ s' := by
  obtain ⟨h, t, g, rfl, k1, k2⟩ := x; obtain ⟨h', t', g', rfl, k3, k4⟩ := y
  refine ⟨h', t', g', rfl, fun k q e => k3 k q (fun z => by rw [z, hgi] at e; cases e) (k1 k q e), fun k q e => ?_⟩
  rcases Nat.decEq k gi with n | n
  · exact (k4 k q n e).elim (fun e => k2 k q e) .inr
  · exact .inr (hb q (by rw [n] at e; exact e))

section
variable {prog : Program} {w : World} {A : Around} {E : Value → Shared → Prop} {env : Env} {sc₀ : Scope} {L D C N : Addr} {cl₀ : List (PySem.Str × Addr)} {g : Heap} {m mc : PySem.Str → Option Value} {ms : Mut} {y : PySem.Str} {py : Pos} {Qs : Shared → Prop} {s' : Shared} {its : Array Value}
theorem post_set (V : EV env sc₀ L cl₀) (H' : FH g L s'.heap m ms) (hL : L < N) (hms : ∀ p ∈ ms, p.1 < N) (hg : ∀ b o, g.get? b = some o → b < N) (hD : N ≤ D) (hC : N ≤ C) (hCD : C ≠ D) (hn : s'.heap.Ns C mc) (hl : s'.heap.IsList D its)
    (hy : sc₀.names.lookup y = some .local) (hk₀ : sc₀.kind = .function)
    (done : ∀ s'', Same s' s'' → FH g L s''.heap (upd y (.ref D) m) ms → s''.heap.IsList D its → Qs s'') :
    compPost (model prog w) A E (some (assign (.Name y py) env)) (fun _ => Qs) (.ref D) C (.ok .next) s' := by
  show wpAny _ _ (assign (.Name y py) env (.ref D)) _ _ _
  refine wpAny_assign_Name (wpAny_storeName_local (by unfold Env.kindOf; rw [V.scope]; exact hy) (by rw [V.locals]; exact H'.ns) (fun h₂ hn₂ hs₂ => ?_) (by rw [V.scope, hk₀]; rfl))
  rw [V.locals] at hn₂ hs₂
  have H₂ := H'.set hn₂ hs₂
  have hCL : C ≠ L := Nat.ne_of_gt (Nat.lt_of_lt_of_le hL hC)
  refine ⟨mc, hn.sameBut hs₂ hCL, fun h₃ hs₃ => ?_⟩
  have kp : ∀ b o, b < N → h₂.get? b = some o → h₃.get? b = some o := fun b o hb e => (hs₃.2 b (Nat.ne_of_lt (Nat.lt_of_lt_of_le hb hC))).trans e
  have H₃ : FH g L h₃ (upd y (.ref D) m) ms :=
    ⟨H₂.ns.at' fun o e => kp L o hL e, fun b o e => kp b o (hg b o e) (H₂.keep b o e), H₂.off, fun p hp => let ⟨⟨o, e, r⟩, t⟩ := H₂.tur p hp; ⟨⟨o, kp _ _ (hms p hp) e, r⟩, t⟩, H₂.nodup⟩
  exact done _ ((Same.mk' _ h₂ _).trans (Same.mkh _ h₃)) H₃ ((hl.extBut hs₂.extBut (Nat.ne_of_gt (Nat.lt_of_lt_of_le hL hD))).extBut hs₃.extBut (Ne.symm hCD))
end

section
variable {w : World} {A : Around} {E : Value → Shared → Prop} {env genv : Env} {scope sc sc₀ : Scope} {cl cl₀ clos : List (PySem.Str × Addr)} {elt iter test : Expr} {pos px pe py pr ypos epos ipos fpos : Pos} {use : Option (Value → Sem Unit)} {Q : Value → Shared → Prop} {n gi : Nat}
  {x : PySem.Str} {L C ga l : Addr} {B : Heap} {s₀ s₁ : Shared} {pre : List Stmt} {vs : List Value} {pz : Nat → Bool} {m : PySem.Str → Option Value}
theorem comp_gen (F : Nat → Value → Prop) (hA : AOk n A) (hn : n < 900) (V : EV env sc₀ L cl₀) (W : Wd w B) (hB : B.StaysIn s₁.heap) (hCB : B.get? C = none) (hCs : C < s₁.heap.objs.size)
    (S : Same s₀ s₁) (hgi : s₀.gens[gi]? = none) (hgen : s₁.heap.IsGen ga gi) (hgaC : ga ≠ C) (hgs : s₁.gens[gi]? = some (.fresh (.func (selFor pre test pe py pr ypos epos ipos fpos) genv)))
    (Vg : EV genv sc C clos) (hNs : s₁.heap.Ns C m) (hm : m resultN = some (.ref l)) (hT : TurnG w B sc clos pre test vs pz) (hl : B.IsList l vs.toArray) (hsz : vs.length ≤ sizeLine)
    (hloc : sc.names.lookup elemN = some .local) (hres : sc.names.lookup resultN = some .local) (hk : sc.kind = .function) (hco : sc.isCoroutine = false)
    (hcell : ∀ y ∈ scope.names, y.2 ≠ .cell) (hkind : scope.kind = .function)
    (step : ∀ i v, vs[i]? = some v → ∀ (G : Heap) (env' : Env) (CC : Addr) (mc : PySem.Str → Option Value) (s' : Shared), B.StaysIn G → EV env' (relabelS scope sc₀) CC cl → FX G CC s' s' mc [] →
      wpAny (model Pg w) A (assign (.Name x px) env' v) (fun _ s₂ => wpAny (model Pg w) A (eval elt env') (fun y s₄ => (∃ mc', FX G CC s' s₄ mc' []) ∧ F i y) (fun _ _ => False) s₂) (fun _ _ => False) s')
    (done : ∀ D CC mc ys s', Same s₀ s' → B.StaysIn s'.heap → s₁.heap.objs.size ≤ D → s₁.heap.objs.size ≤ CC → CC ≠ D → s'.heap.Ns CC mc → s'.heap.IsList D (List.toArray ys) → Paired F (passing pz vs.length 0) ys →
      compPost (model Pg w) A E use Q (.ref D) CC (.ok .next) s') :
    CompI Pg w A E env scope cl elt (.Name x px) iter [] pos use Q (.ref ga) s₁ := by
  unfold CompI
  refine wpAny_pyIter_gen hgen ?_
  refine wpAny_newObj_type (wpAny_newFunctionEnv hcell (by intro y hy; simp at hy) (fun h₁ hns₁ hsb₁ => ?_) hkind)
  dsimp only at hns₁ hsb₁ ⊢
  generalize hH1 : s₁.heap.push { cls := .type "list", dict := none, data := .seq ([] : List Value).toArray } = H1 at hns₁ hsb₁ ⊢
  generalize hN : s₁.heap.objs.size = N₀ at *
  have z1 : H1.objs.size = N₀ + 1 := by rw [← hH1, Heap.size_push, hN]
  have old : ∀ b o, s₁.heap.get? b = some o → b < N₀ := fun b o e => hN ▸ Heap.lt_size e
  have up : s₁.heap.StaysIn h₁ := fun b o e => (hsb₁.2 b (by rw [z1]; exact Nat.ne_of_lt (Nat.lt_succ_of_lt (old b o e)))).trans (Heap.get?_push_of_some _ (by rw [← hH1]; exact Heap.get?_push_of_some _ e))
  have hzC : h₁.objs.size = N₀ + 2 := by rw [hsb₁.1, Heap.size_push, z1]
  have hD0 : h₁.IsList N₀ (List.toArray ([] : List Value)) := by
    refine ⟨_, (hsb₁.2 _ (by rw [z1]; exact Nat.ne_of_lt (Nat.lt_succ_self _))).trans (Heap.get?_push_of_some _ (by rw [← hH1, ← hN]; exact Heap.get?_push_size _ rfl)), rfl, 0, rfl⟩
  rw [z1] at hns₁
  have hCx : C ∉ [N₀, N₀ + 1] := by
    simp only [List.mem_cons, List.not_mem_nil, or_false, not_or]
    exact ⟨Nat.ne_of_lt hCs, Nat.ne_of_lt (Nat.lt_succ_of_lt hCs)⟩
  have hBN : ∀ b o, B.get? b = some o → b < N₀ := fun b o e => old b o (hB b o e)
  have hBx : ∀ b o, B.get? b = some o → b ∉ [N₀, N₀ + 1] := fun b o e => by
    have := hBN b o e
    simp only [List.mem_cons, List.not_mem_nil, or_false, not_or]
    exact ⟨Nat.ne_of_lt this, Nat.ne_of_lt (Nat.lt_succ_of_lt this)⟩
  have hxN : ∀ x ∈ [N₀, N₀ + 1], x < N₀ + 2 := fun x hx => by
    rcases List.mem_cons.mp hx with rfl | hx
    · exact Nat.lt_add_of_pos_right (by decide)
    · cases List.mem_singleton.mp hx; exact Nat.lt_succ_self _
  have hgaN : ga < N₀ := let ⟨o, _, _, e, _⟩ := hgen; old ga o e
  have loop : ∀ tk₀, codeAny (model Pg w) A (.compLoop (.ListComp elt [⟨.Name x px, iter, [], 0⟩] scope pos) 0 (.ref ga) (.ref N₀) (compEnvC scope cl (N₀ + 1) env)) (compPost (model Pg w) A E use Q (.ref N₀) (N₀ + 1)) { s₁ with heap := h₁, toks := tk₀ } := fun tk₀ => by
    have Vc : EV (compEnvC scope cl (N₀ + 1) env) (relabelS scope sc₀) (N₀ + 1) cl := relabel_of V scope ▸ V.comp
    generalize hK : (passing pz vs.length 0).length = K
    refine comp_loop (fun k s' => ∃ mc ys j, SameX gi s₁ s' ∧ j ≤ K ∧ k = K + 1 - j ∧ B.StaysIn s'.heap ∧ N₀ + 2 ≤ s'.heap.objs.size ∧
        GenAtJ w A ga gi C (N₀ + 2) [N₀, N₀ + 1] pz vs j s' ∧ s'.heap.IsList N₀ (List.toArray ys) ∧ s'.heap.Ns (N₀ + 1) mc ∧ ys.length = j ∧
        Paired F ((passing pz vs.length 0).take j) ys) ?_ (K + 1)
      ⟨_, [], 0, (Same.mk' ..).x gi, Nat.zero_le _, rfl, stays_trans hB up, Nat.le_of_eq hzC.symm, ⟨hgen.keeps up, _, hgs, fun s'' hs'' => ?_⟩, hD0, hns₁, rfl, .nil⟩
    · rintro k s' ⟨mc, ys, j, hS, hj, rfl, hk', hz, ⟨hG, gst, hgst, hgo⟩, hD, hC, hys, hP⟩
      have hNN : N₀ ≠ C := Nat.ne_of_gt hCs
      have hNC : N₀ + 1 ≠ C := Nat.ne_of_gt (Nat.lt_succ_of_lt hCs)
      have facts : ∀ {s₂ : Shared} {x : GenState}, GSince C (N₀ + 2) (s'.setGen gi .running) s₂ → SameX gi s₁ (s₂.setGen gi x) ∧ B.StaysIn s₂.heap ∧ s₂.heap.IsList N₀ (List.toArray ys) ∧ s₂.heap.Ns (N₀ + 1) mc ∧ s₂.heap.IsGen ga gi ∧ s₂.gens[gi]? = some .running := fun {s₂ x} h =>
        ⟨hS.trans ((SameX.setGen gi s' .running).trans ((h.1.x gi).trans (SameX.setGen gi s₂ x))), fun b o e => h.2 b o (Nat.lt_of_lt_of_le (hBN b o e) (Nat.le_add_right _ _)) (fun q => by rw [q, hCB] at e; cases e) (hk' b o e),
          hD.at fun o e => h.2 _ o (Nat.lt_add_of_pos_right (by decide)) hNN e, hC.at' fun o e => h.2 _ o (Nat.lt_succ_self _) hNC e,
          (let ⟨o, nm, qn, ho, r⟩ := hG; ⟨o, nm, qn, h.2 _ o (Nat.lt_of_lt_of_le hgaN (Nat.le_add_right _ _)) hgaC ho, r⟩), h.1.gens.1 _ _ (setGen_self hgst)⟩
      have szz : ∀ {h : Heap} {mc : PySem.Str → Option Value}, h.Ns (N₀ + 1) mc → N₀ + 2 ≤ h.objs.size := fun h => h.lt
      have hlim : s'.heap.NoLimit := (nolimit_of W).keeps hk'
      have Wg := W
      rcases Nat.lt_or_ge j K with hlt | hge
      · obtain ⟨q, hq⟩ : ∃ q, K - j = q + 1 := ⟨K - j - 1, by omega⟩
        rw [hK, hq] at hgo
        refine wpAny_pyNext_gen (P := fun n s₀ s₁ => n = 0 ∧ GSince C (N₀ + 2) s₀ s₁) hA.hh hlim (room_of hA hn) hG hgst (hgo _ ⟨hz, fun _ _ _ e => e⟩) (fun v s₂ gs' hv => ?_) (fun s₂ hp h' hk => absurd hp.1 (Nat.succ_ne_zero q))
        obtain ⟨⟨i, hi, hvi⟩, hsince, hkap⟩ := hv
        rw [hK, show K - 1 - (q + 1 - 1) = j by omega] at hi
        obtain ⟨a1, a2, a3, a4, a5, a6⟩ := facts (x := gs') hsince
        refine wpAny_of_eq (rfl : letOwnedTupleGo (.Name x px) (.ref ga) v = pure ()) ?_
        generalize hs₃ : s₂.setGen gi gs' = s₃ at a1 ⊢
        have hh3 : s₃.heap = s₂.heap := by rw [← hs₃]; rfl
        have hg3 : s₃.gens[gi]? = some gs' := by rw [← hs₃]; exact setGen_self a6
        rw [← hh3] at a2 a3 a4 a5
        have HG : FX (s₃.heap.hide (N₀ + 1)) (N₀ + 1) s₃ s₃ mc [] := ⟨⟨a4, fun _ _ e => Heap.of_hide e, Heap.hide_self _ _, (fun _ h => nomatch h), List.nodup_nil⟩, Same.refl _⟩
        have nhC : ∀ {b : Addr}, b ≠ N₀ + 1 → (s₃.heap.hide (N₀ + 1)).get? b = s₃.heap.get? b := fun h => Heap.hide_ne _ h
        refine wpAny_mono (step i v hvi _ _ _ _ s₃ (fun b o e => (nhC (Nat.ne_of_lt (Nat.lt_succ_of_lt (hBN b o e)))).trans (a2 b o e)) Vc HG) (fun _ s₄ h₄ => tests_nil ?_) fun _ _ x => x
        simp only [if_true]
        refine wpAny_mono h₄ (fun y s₅ h₅ => ?_) fun _ _ x => x
        obtain ⟨⟨mc', H⟩, hF⟩ := h₅
        have b3 : s₅.heap.IsList N₀ (List.toArray ys) := a3.at fun o e => H.keep _ o ((nhC (Nat.ne_of_lt (Nat.lt_succ_self _))).trans e)
        refine wpAny_list_append b3 (fun h₆ hl₆ hs₆ => ?_) (by rw [List.size_toArray, hys]; have : K ≤ vs.length := by { rw [← hK]; unfold passing; exact Nat.le_trans (List.length_filter_le _ _) (by simp) }; omega)
        have keep6 : ∀ b o, b ∉ [N₀, N₀ + 1] → s₂.heap.get? b = some o → h₆.get? b = some o := fun b o hb e => by
          simp only [List.mem_cons, List.not_mem_nil, or_false, not_or] at hb
          exact (hs₆.2 b hb.1).trans (H.keep _ _ ((nhC hb.2).trans (by rw [hh3]; exact e)))
        have c4 : h₆.Ns (N₀ + 1) mc' := H.fh.ns.sameBut hs₆ (Nat.ne_of_gt (Nat.lt_succ_self _))
        refine ⟨K + 1 - (j + 1), by omega, mc', ys ++ [y], j + 1, a1.trans ((H.same.trans (Same.mkh _ h₆)).x gi), hlt, rfl, fun b o e => keep6 b o (hBx b o e) (by rw [← hh3]; exact a2 b o e), szz c4, ⟨?_, gs', H.same.gens.1 _ _ hg3, fun s'' hs'' => ?_⟩, by simpa using hl₆, c4, by simp [hys], ?_⟩
        · obtain ⟨o, nm, qn, ho, r⟩ := a5
          exact ⟨o, nm, qn, keep6 _ _ (by simp only [List.mem_cons, List.not_mem_nil, or_false, not_or]; exact ⟨Nat.ne_of_lt hgaN, Nat.ne_of_lt (Nat.lt_succ_of_lt hgaN)⟩) (by rw [← hh3]; exact ho), r⟩
        · have := hkap s'' ⟨hs''.1, fun b o hb e => hs''.2 b o hb (keep6 b o hb e)⟩
          rw [hK, show K - (j + 1) = q by omega]
          exact this
        · rw [List.take_add_one, hi]
          exact Paired.snoc hP hF
      · have hjK : j = K := Nat.le_antisymm hj hge
        subst hjK
        rw [hK, Nat.sub_self] at hgo
        refine wpAny_pyNext_gen (P := fun n s₀ s₁ => n = 0 ∧ GSince C (N₀ + 2) s₀ s₁) hA.hh hlim (room_of hA hn) hG hgst (hgo _ ⟨hz, fun _ _ _ e => e⟩) (fun v s₂ gs' hv => ?_) (fun s₂ hp h' hk => ?_)
        · obtain ⟨_, hsince, hkap⟩ := hv
          obtain ⟨a1, a2, a3, a4, a5, a6⟩ := facts (x := gs') hsince
          exact (hkap s₂ ⟨szz a4, fun _ _ _ e => e⟩).elim
        · obtain ⟨_, hsince⟩ := hp
          obtain ⟨a1, a2, a3, a4, a5, a6⟩ := facts (x := .finished) hsince
          refine done N₀ (N₀ + 1) mc ys _ (SameX.end_ S hgi (a1.trans ((Same.mkh _ h').x gi)) fun q e => ?_) (stays_trans a2 hk) (Nat.le_refl _) (Nat.le_succ _) (Nat.ne_of_gt (Nat.lt_succ_self _)) (a4.keeps hk) (a3.at fun o e => hk _ o e) ?_
          · have e2 := setGen_self (x := .finished) a6
            rw [show (({ s₂.setGen gi .finished with heap := h' } : Shared)).gens[gi]? = some .finished from e2] at e
            cases e; rfl
          · rw [← hK, List.take_length] at hP; exact hP
    · have H0 : FX B C s₁ { s₁ with heap := h₁, toks := tk₀ } m [] := ⟨⟨hNs.keeps up, stays_trans hB up, hCB, (fun _ h => nomatch h), List.nodup_nil⟩, Same.mk' ..⟩
      have H1 := H0.again hs'' hCx (fun _ h => nomatch h)
      refine ⟨rfl, seg_select (A := A.in1) hA.hh hT Vg hl hBx hCx hxN (Nat.lt_of_lt_of_le hCs (Nat.le_add_right _ _)) hloc hres hk hco (fun b o e => ?_) H1 hs''.1 (fun b o hbC e => ?_) hm⟩
      · exact hideAll_get _ (hs''.2 b o (hBx b o e) (up _ _ (hB _ _ e))) (fun hm => by cases List.mem_singleton.mp hm; rw [hCB] at e; cases e)
      · exact hideAll_get _ e (fun hm => hbC (List.mem_singleton.mp hm))
  rw [show H1.objs.size = N₀ + 1 from z1]
  exact codeAny_compStart_list (loop _) (wpAny_pyIter_gen (s := { s₁ with heap := h₁, toks := _ }) (hgen.keeps up) (loop _))
end
abbrev contextN : PySem.Str := Str.ofString "context"
theorem TurnG.mono {w : World} {g g' : Heap} {sc : Scope} {clos : List (PySem.Str × Addr)} {pre : List Stmt} {test : Expr} {vs : List Value} {pz : Nat → Bool} (T : TurnG w g sc clos pre test vs pz) (k : g.StaysIn g') : TurnG w g' sc clos pre test vs pz :=
  fun A env C G s₀ s m ms i v hh V hG H hm hv => T A env C G s₀ s m ms i v hh V (stays_trans k hG) H hm hv
/-- a function that picks out of a list of elements -/
structure SelFn (fd : FuncData) (pre : List Stmt) (test : Expr) (pe py pr ypos epos ipos fpos : Pos) : Prop where
  body : fd.body = .stmts (selFor pre test pe py pr ypos epos ipos fpos)
  globals : fd.globals = mainGlobals
  builtins : fd.builtins = builtinsNs
  gen : fd.scope.isGenerator = true
  co : fd.scope.isCoroutine = false
  kind : fd.scope.kind = .function
  elem : fd.scope.names.lookup elemN = some .local
  result : fd.scope.names.lookup resultN = some .local
  context : fd.scope.names.lookup contextN = some .local
  cell' : (fd.scope.names.all fun x => x.2 != .cell) = true
  binds : ∀ (s : Shared) (l : Addr), BindsTo s fd ⟨[.none, .ref l], []⟩ [(contextN, .none), (resultN, .ref l)]
theorem SelFn.cell {fd : FuncData} {pre : List Stmt} {test : Expr} {pe py pr ypos epos ipos fpos : Pos} (F : SelFn fd pre test pe py pr ypos epos ipos fpos) : ∀ x ∈ fd.scope.names, x.2 ≠ .cell := fun x hx => by
  have := List.all_eq_true.mp F.cell' x hx
  simpa using this
def SelAt (w : World) (g : Heap) (a : Addr) (vs : List Value) (pz : Nat → Bool) : Prop :=
  ∃ fd pre test pe py pr ypos epos ipos fpos oc od sl, g.get? a = some ⟨oc, od, .func fd, sl⟩ ∧ SelFn fd pre test pe py pr ypos epos ipos fpos ∧ g.CodeRec fd.code fd.qualname ∧ TurnG w g fd.scope fd.closure pre test vs pz
theorem SelAt.fn {w : World} {g : Heap} {a : Addr} {vs : List Value} {pz : Nat → Bool} (X : SelAt w g a vs pz) {h : Heap} (k : g.StaysIn h) : FnAt a h := let ⟨fd, _, _, _, _, _, _, _, _, _, oc, od, sl, e, _⟩ := X; ⟨oc, od, fd, sl, k _ _ e⟩
def Ready (w : World) (g : Heap) (l : Addr) (vs : List Value) (pz : Nat → Bool) (s₀ s₁ : Shared) (ga : Addr) : Prop :=
  ∃ (gi : Nat) (C : Addr) (genv : Env) (sc : Scope) (clos : List (PySem.Str × Addr)) (pre : List Stmt) (test : Expr) (pe py pr ypos epos ipos fpos : Pos) (m : PySem.Str → Option Value),
    Same s₀ s₁ ∧ s₀.gens[gi]? = none ∧ s₀.heap.StaysIn s₁.heap ∧ s₀.heap.objs.size ≤ C ∧ C < s₁.heap.objs.size ∧ s₁.heap.IsGen ga gi ∧ ga ≠ C ∧ s₁.gens[gi]? = some (.fresh (.func (selFor pre test pe py pr ypos epos ipos fpos) genv)) ∧
    EV genv sc C clos ∧ s₁.heap.Ns C m ∧ m resultN = some (.ref l) ∧ TurnG w g sc clos pre test vs pz ∧
    sc.names.lookup elemN = some .local ∧ sc.names.lookup resultN = some .local ∧ sc.kind = .function ∧ sc.isCoroutine = false
theorem call_sel {w : World} {A : Around} {s : Shared} {n : Nat} {a l : Addr} {g : Heap} {vs : List Value} {pz : Nat → Bool} {Q E : Value → Shared → Prop}
   (hA : AOk n A) (hn : n < 900) (W : Wd w g) (hg : g.StaysIn s.heap) (X : SelAt w g a vs pz)
   (h : ∀ ga s', Ready w g l vs pz s s' ga → Q (.ref ga) s') : wpAny (model Pg w) A (call (.ref a) [.none, .ref l]) Q E s := by
  obtain ⟨fd, pre, test, pe, py, pr, ypos, epos, ipos, fpos, oc, od, sl, ho, F, hcd, hT⟩ := X
  refine wpAny_call ?_
  refine codeAny_call_generator (room_of hA hn) (hg _ _ ho) rfl F.co F.gen F.body (let ⟨c, oc, vs, tq, hc, hoc, r⟩ := hcd; ⟨c, oc, vs, tq, hc, hg _ _ hoc, r⟩) ?_
  refine F.binds s l _ _ _ _ ?_
  refine wpAny_newFunctionEnv F.cell (fun x hx => ?_) (fun h' hns hsb => ⟨?_, ?_⟩) F.kind
  · rcases List.mem_cons.mp hx with rfl | hx
    · exact F.context
    · cases List.mem_singleton.mp hx; exact F.result
  · exact ((nolimit_of W).keeps hg).fresh _ hsb
  · have k : s.heap.StaysIn h' := fun b o e => hsb.extBut b o (Nat.ne_of_lt (Heap.lt_size e)) (Heap.get?_push_of_some _ e)
    have hz : h'.objs.size = s.heap.objs.size + 1 := by rw [hsb.1, Heap.size_push]
    refine h _ _ ⟨s.gens.size, s.heap.objs.size, newEnv fd.scope s.heap.objs.size fd.globals fd.closure (fd.qualname ++ ".<locals>.") (some a) fd.code none fd.builtins, fd.scope, fd.closure, pre, test, pe, py, pr, ypos, epos, ipos, fpos,
      (fun x => [(contextN, .none), (resultN, .ref l)].reverse.lookup x), ⟨_, _, _, rfl, ?_⟩, by simp, fun b o e => Heap.get?_push_of_some _ (k b o e), Nat.le_refl _, by show s.heap.objs.size < (h'.push _).objs.size; rw [Heap.size_push, hz]; omega, ?_, ?_, by simp, ⟨rfl, rfl, F.globals, rfl, F.builtins⟩, hns.keeps fun b o e => Heap.get?_push_of_some _ e, rfl, hT, F.elem, F.result, F.kind, F.co⟩
    · refine ⟨fun k x e => ?_, fun k x e => ?_⟩
      · rw [Array.getElem?_push]; split
        · rename_i q; rw [q] at e; simp at e
        · exact e
      · rw [Array.getElem?_push] at e; split at e
        · cases e; exact .inr rfl
        · exact .inl e
    · exact ⟨_, _, _, Heap.get?_push_size _ rfl, rfl, rfl, rfl⟩
    · show h'.objs.size ≠ _; omega
section
variable {w : World} {A : Around} {E : Value → Shared → Prop} {env : Env} {scope sc₀ : Scope} {cl cl₀ : List (PySem.Str × Addr)} {elt iter : Expr} {pos px py : Pos} {n : Nat}
  {x y : PySem.Str} {L ga l : Addr} {g gs : Heap} {s s₀ s₁ : Shared} {vs : List Value} {pz : Nat → Bool} {m : PySem.Str → Option Value} {ms : Mut} {Qs : Shared → Prop}
theorem fx_gen_set (F : Nat → Value → Prop) (hA : AOk n A) (hn : n < 900) (V : EV env sc₀ L cl₀) (H : FX g L s₀ s m ms) (W : Wd w g) (R : Ready w gs l vs pz s s₁ ga) (hgs : gs.StaysIn s.heap) (hl : s.heap.IsList l vs.toArray) (hsz : vs.length ≤ sizeLine)
    (hcell : ∀ y ∈ scope.names, y.2 ≠ .cell) (hkind : scope.kind = .function) (hy : sc₀.names.lookup y = some .local) (hk₀ : sc₀.kind = .function)
    (step : ∀ i v, vs[i]? = some v → ∀ (G : Heap) (env' : Env) (CC : Addr) (mc : PySem.Str → Option Value) (s' : Shared), s.heap.StaysIn G → EV env' (relabelS scope sc₀) CC cl → FX G CC s' s' mc [] →
      wpAny (model Pg w) A (assign (.Name x px) env' v) (fun _ s₂ => wpAny (model Pg w) A (eval elt env') (fun y s₄ => (∃ mc', FX G CC s' s₄ mc' []) ∧ F i y) (fun _ _ => False) s₂) (fun _ _ => False) s')
    (done : ∀ D ys s', FX g L s₀ s' (upd y (.ref D) m) ms → s.heap.objs.size ≤ D → s'.heap.IsList D (List.toArray ys) → Paired F (passing pz vs.length 0) ys → Qs s') :
    CompI Pg w A E env scope cl elt (.Name x px) iter [] pos (some (assign (.Name y py) env)) (fun _ => Qs) (.ref ga) s₁ := by
  obtain ⟨gi, C, genv, sc, clos, pre, test, pe, py', pr, ypos, epos, ipos, fpos, mg, S, hgi, k₁, hle, hCs, hG, hne, hfr, Vg, hNs, hm, hT, h1, h2, h3, h4⟩ := R
  refine comp_gen (B := s.heap) F hA hn V (W.mono H.keep) k₁ (Heap.get?_none_of_le hle) hCs S hgi hG hne hfr Vg hNs hm (hT.mono hgs) hl hsz h1 h2 h3 h4 hcell hkind step fun D CC mc ys s' hS hB hD hCC hCD hn' hlist hP => ?_
  have hN : s.heap.objs.size ≤ s₁.heap.objs.size := Nat.le_of_lt (Nat.lt_of_le_of_lt hle hCs)
  exact post_set V (H.fh.grow hB) (Nat.lt_of_lt_of_le H.lt hN) (fun p hp => Nat.lt_of_lt_of_le (H.mlt p hp) hN) (fun b o e => Nat.lt_of_lt_of_le (Heap.lt_size (H.keep _ _ e)) hN) hD hCC hCD hn' hlist hy hk₀
    fun s'' hS' H' hl' => done D ys s'' ⟨H', H.same.trans (hS.trans hS')⟩ (Nat.le_trans hN hD) hl' hP
end
/-- g, and all that was made from address n on -/
def ext (g : Heap) (n : Nat) (h : Heap) : Heap := hideAll h ((List.range n).filter fun b => (g.get? b).isNone)
section
variable {g h h' : Heap} {n : Nat} {b : Addr} {o : Obj}
theorem ext_in : (ext g n h).StaysIn h := fun _ _ e => of_hideAll _ e
theorem ext_old (k : g.StaysIn h) : g.StaysIn (ext g n h) := fun b o e => hideAll_get _ (k b o e) fun hm => by
  have := (List.mem_filter.mp hm).2; rw [e] at this; cases this
theorem ext_new (e : h.get? b = some o) (hb : n ≤ b) : (ext g n h).get? b = some o := hideAll_get _ e fun hm => absurd (List.mem_range.mp (List.mem_filter.mp hm).1) (Nat.not_lt.mpr hb)
theorem ext_above : (above n h).StaysIn (ext g n h) := fun b o e => ext_new (of_hideAll _ e) (above_ge e)
theorem ext_off (e : g.get? b = none) (hb : b < n) : (ext g n h).get? b = none := hideAll_none _ (List.mem_filter.mpr ⟨List.mem_range.mpr hb, by rw [e]; rfl⟩)
theorem ext_keep (e : h.get? b = some o) (hb : (g.get? b).isSome = true ∨ n ≤ b) : (ext g n h).get? b = some o := hideAll_get _ e fun hm => by
  obtain ⟨h1, h2⟩ := List.mem_filter.mp hm
  rcases hb with q | q
  · rw [Option.isNone_iff_eq_none] at h2; rw [h2] at q; cases q
  · exact absurd (List.mem_range.mp h1) (Nat.not_lt.mpr q)
theorem ext_or (e : (ext g n h).get? b = some o) : (g.get? b).isSome = true ∨ n ≤ b := by
  rcases Nat.lt_or_ge b n with q | q
  · cases e2 : g.get? b with
    | none => rw [ext_off e2 q] at e; cases e
    | some _ => exact .inl rfl
  · exact .inr q
end
theorem ext_up {g h h' : Heap} {n n' : Nat} (k : (ext g n h).StaysIn h') (hn : n' ≤ n) : (ext g n h).StaysIn (ext g n' h') := fun b o e => ext_keep (k b o e) ((ext_or e).imp id (Nat.le_trans hn))
theorem ext_mono {g g' h : Heap} {n : Nat} (k : g.StaysIn g') : (ext g n h).StaysIn (ext g' n h) := fun b o e => ext_keep (ext_in b o e) ((ext_or e).imp (fun q => by obtain ⟨o', e'⟩ := Option.isSome_iff_exists.mp q; rw [k _ _ e']; rfl) id)
section
variable {g g' h h' : Heap} {L d : Addr} {m : Str → Option Value} {ms ms' : Mut} {o : Obj} {p p' : Obj → Prop} {s s' s₀ : Shared}
theorem FH.enl (H : FH g L h m ms) (k : g'.StaysIn h) (hL : g'.get? L = none) (hm : ∀ p ∈ ms, g'.get? p.1 = none) : FH g' L h m ms :=
  ⟨H.ns, k, hL, fun p hp => ⟨(H.tur p hp).1, (H.tur p hp).2.1, hm p hp⟩, H.nodup⟩
theorem FH.ext {i : Nat} (H : FH g L h m ms) (hi : ms[i]? = some (d, p)) (hx : Heap.ExtBut d h h') (ho : h'.get? d = some o) (hp : p' o) : FH (ext g h.objs.size h') L h' m (ms.set i (d, p')) := by
  have H' := H.upd hi hx ho hp
  refine H'.enl ext_in (ext_off H.off H.lt) fun q hq => ?_
  have hlt : q.1 < h.objs.size := by
    obtain ⟨j, hj⟩ := List.getElem?_of_mem hq
    rw [List.getElem?_set] at hj
    split at hj
    · split at hj
      · cases hj; exact H.mlt (d, p) (List.mem_of_getElem? hi)
      · cases hj
    · exact H.mlt _ (List.mem_of_getElem? hj)
  exact ext_off (H'.tur q hq).2.2 hlt
theorem FX.extend {i : Nat} (H : FX g L s₀ s m ms) (S : Same s s') (hi : ms[i]? = some (d, p)) (hx : Heap.ExtBut d s.heap s'.heap) (ho : s'.heap.get? d = some o) (hp : p' o) : FX (ext g s.heap.objs.size s'.heap) L s₀ s' m (ms.set i (d, p')) :=
  ⟨H.fh.ext hi hx ho hp, H.same.trans S⟩
end

/-! ## the table of the codes made in _prepare_tag -/
abbrev selQ : Str := Str.ofString "_prepare_tag.<locals>.select"
def tabP (g : Heap) (o : Obj) : Prop := ∃ ps, o = tabObj ps ∧ TriplesOk ps.toList ∧ ∀ pos cv, codeAmong pos ps.toList = some cv → g.CodeRec cv selQ
theorem recUp {g g' : Heap} {cv : Value} {q : Str} (x : g.CodeRec cv q) (k : g.StaysIn g') : g'.CodeRec cv q := let ⟨c, oc, vs, tq, hc, hoc, r⟩ := x; ⟨c, oc, vs, tq, hc, k _ _ hoc, r⟩
theorem tabP.up {g g' : Heap} {o : Obj} (x : tabP g o) (k : g.StaysIn g') : tabP g' o := let ⟨ps, a, b, c⟩ := x; ⟨ps, a, b, fun p v e => recUp (c p v e) k⟩
def TabOK (g h : Heap) : Prop := ∃ o, h.get? 30 = some o ∧ tabP g o
theorem among_snoc {pos : Pos} {a b : Int} {c cv : Value} : ∀ {l : List Value}, TriplesOk l → codeAmong pos (l ++ [rawInt a, rawInt b, c]) = some cv → codeAmong pos l = some cv ∨ cv = c
  | [], _, e => by
    simp only [List.nil_append, rawInt, codeAmong] at e
    split at e
    · cases e; exact .inr rfl
    · cases e
  | .int x tx :: .int y ty :: d :: rest, h, e => by
    simp only [List.cons_append, codeAmong] at e ⊢
    split at e
    · rename_i q; rw [if_pos q]; exact .inl e
    · rename_i q; rw [if_neg q]; exact among_snoc (l := rest) h e

section
variable {prog : Program} {w : World} {A : Around} {E : Value → Shared → Prop} {s s₀ : Shared} {g : Heap} {env : Env} {sc scope : Scope} {L : Addr} {cl clos : List (Str × Addr)} {m : Str → Option Value} {ms : Mut} {name : Str} {params : Arguments} {body : List Stmt} {pos : Pos} {firstLine : Nat}
theorem builtins_at {mg : Str → Option Value} {p loose mean mb} (T : Top p loose mean mg mb g) (k : g.StaysIn s.heap) (h30 : g.get? 30 = none) : s.heap.BuiltinsAt mg 30 := by
  obtain ⟨bm, ob, b1, b2, b3, b4, b5, b6⟩ := T.bmain
  refine ⟨bm, ob, b1, b2, fun q => ?_, fun q => ?_, k _ _ b3, b4, b5, b6⟩
  · obtain ⟨o, es, ep, e, hd, _⟩ := T.g
    rw [q, e] at b3; cases b3; rw [hd] at b6; cases b6
  · rw [q, h30] at b3; cases b3
theorem fx_mkfun {gt : Heap} {Q : Value → Shared → Prop} {i : Nat} (V : EV env sc L cl) (hcode : env.code = .ref 34) (H : FX g L s₀ s m ms) (W : Wd w g) (C : CodeHd g 34 30) (hi : ms[i]? = some (30, tabP gt)) (hgt : gt.StaysIn g) (hcl : closureFor scope env = pure clos)
    (h : ∀ f s' doc pm cv ctv, Same s s' → Heap.ExtBut 30 s.heap s'.heap → FX (ext g s.heap.objs.size s'.heap) L s₀ s' m (ms.set i (30, tabP (ext gt s.heap.objs.size s'.heap))) →
      (ext g s.heap.objs.size s'.heap).get? f = some { cls := .type "function", data := .func (fnX name selQ params body scope clos .none .none doc pm none cv ctv) } → (ext gt s.heap.objs.size s'.heap).CodeRec cv selQ → s.heap.objs.size ≤ f → Q (.ref f) s') :
    wpAny (model prog w) A (makeFunction name selQ params (.stmts body) scope env [] [] [] pos firstLine) Q E s := by
  obtain ⟨p, lo, me, mg, mb, T⟩ := W.top
  have h30 := (H.at hi).2.2
  obtain ⟨⟨o, ho, ps, rfl, hT, hall⟩, hL30, _⟩ := H.at hi
  have hg30 : mainGlobals ≠ 30 := by decide
  cases hf : codeAmong pos ps.toList with
  | some cv =>
    refine makeFunction_hit (c := 34) (P := 30) (mg := mg) (ps := ps) hcl V.globals (T.g.keeps H.keep) hcode (C.keeps H.keep) ho hT hf (builtins_at T H.keep h30) fun ctv doc h' tk hk hz => ?_
    have k : s.heap.StaysIn (h'.push { cls := .type "function", data := .func (fnX name selQ params body scope clos .none .none doc ((mg "__name__").getD .none) none cv ctv) }) := fun b o e => Heap.get?_push_of_some _ (hk _ _ e)
    have ko := ext_old (n := s.heap.objs.size) (stays_trans hgt (stays_trans H.keep k))
    exact h _ _ doc _ cv ctv (Same.mk' s _ _) (fun b o _ e => k b o e) (H.extend (Same.mk' s _ _) hi (fun b o _ e => k b o e) (k _ _ ho) ⟨ps, rfl, hT, fun q v e => recUp (hall q v e) ko⟩) (ext_new (Heap.get?_push_size _ rfl) hz) (recUp (hall _ _ hf) ko) hz
  | none =>
    refine makeFunction_K (c := 34) (P := 30) (mg := mg) (ps := ps) hcl V.globals (T.g.keeps H.keep) hcode (C.keeps H.keep) ho hT hf hg30 (builtins_at T H.keep h30) fun c' ctv doc h' tk hx hge hlt hrec htb => ?_
    have k : Heap.ExtBut 30 s.heap (h'.push (fnMade name selQ params body scope clos doc ((mg "__name__").getD .none) c' ctv)) := fun b o hb e => Heap.get?_push_of_some _ (hx _ _ hb e)
    have kg : g.StaysIn (h'.push (fnMade name selQ params body scope clos doc ((mg "__name__").getD .none) c' ctv)) := fun b o e => k b o (fun q => by rw [q, h30] at e; cases e) (H.keep _ _ e)
    have ko := ext_old (n := s.heap.objs.size) (stays_trans hgt kg)
    have hrec' : (ext gt s.heap.objs.size (h'.push (fnMade name selQ params body scope clos doc ((mg "__name__").getD .none) c' ctv))).CodeRec (.ref c') selQ := by
      obtain ⟨c₂, oc, vs, t, e2, hoc, hd, hv⟩ := hrec
      cases e2
      exact ⟨c', oc, vs, t, rfl, ext_new (Heap.get?_push_of_some _ hoc) hge, hd, hv⟩
    refine h _ _ doc _ (.ref c') ctv (Same.mk' s _ _) k (H.extend (Same.mk' s _ _) hi k (Heap.get?_push_of_some _ htb) ⟨_, rfl, ?_, fun q v e => ?_⟩) (ext_new (Heap.get?_push_size _ rfl) (Nat.le_of_lt (Nat.lt_of_le_of_lt hge hlt))) hrec' (Nat.le_of_lt (Nat.lt_of_le_of_lt hge hlt))
    · rw [Array.toList_append]; exact TriplesOk_snoc _ _ _ _ hT
    · rw [Array.toList_append] at e
      rcases among_snoc hT e with e | rfl
      · exact recUp (hall q v e) ko
      · exact hrec'
end
section
variable {prog : Program} {w : World} {A : Around} {E : Value → Shared → Prop} {s : Shared} {n : Nat} {g : Heap}
  {name qual : Str} {params : Arguments} {body : List Stmt} {scope : Scope} {dV kV doc pm cdv ct oc : Value} {an od : Option Addr} {osl : Array (Option Value)} {f : Addr} {args : List Value}
/-- a call that finds what stays (g) and what may turn (ms₀) -/
theorem fx_enterM {Q : Value → Shared → Prop} (cl : Nat → List (Str × Addr)) (ml : Str → Option Value) (ms : Nat → Mut) (binds : List (Str × Value)) (ms₀ : Mut) (hA : AOk n A) (hn : n < 900) (W : Wd w g) (hgs : g.StaysIn s.heap)
    (hms₀ : ∀ p ∈ ms₀, (∃ o, s.heap.get? p.1 = some o ∧ p.2 o) ∧ g.get? p.1 = none) (hnd₀ : (ms₀.map (·.1)).Nodup)
    (ho : (KK w.params).lookup f = some ⟨oc, od, .func (fnOf name qual params body scope dV kV doc pm an cdv ct), osl⟩) (hcd : codeIn (KK w.params) cdv qual = true)
    (hbind : BindsTo s (fnOf name qual params body scope dV kV doc pm an cdv ct) ⟨args, []⟩ binds)
    (hkind : (binds.all fun y => scope.names.lookup y.1 == some .local || scope.names.lookup y.1 == some .cell) = true)
    (hnd : ((cellsFrom 0 scope.names []).map (·.1)).Nodup)
    (hcl : ∀ L, cellsFrom (L + 1) scope.names [] = cl L) (hml : bindL (fun x => scope.names.lookup x) binds (fun _ => none) = ml)
    (hms : ∀ L, (cl L).map (fun q => (q.2, cellP (bindC (fun x => scope.names.lookup x) binds (fun _ => none) q.1))) = ms L)
    (h : ∀ env L s' A', EV env scope L (cl L) → AOk (n + 1) A' → L = s.heap.objs.size → FX g L s s' ml (ms₀ ++ ms L) → env.code = cdv → env.qual = qual ++ ".<locals>." →
      wpAny (model prog w) A' (execs body env) (fun fl s' => Q (match fl with | .ret v => v | _ => .none) s') (fun _ _ => False) s')
    (hco : scope.isCoroutine = false) (hgen : scope.isGenerator = false) (hk : scope.kind = .function) :
    wpAny (model prog w) A (call (.ref f) args) Q E s :=
  fh_enterC hA hn (W.mono hgs) ho hcd hbind hkind hnd hcl hml hms (fun env L h₁ A' tk V a e H hc hq => h env L _ A' V a e ((FX.mk H (Same.mk' ..)).less hgs hms₀ hnd₀) hc hq) hco hgen hk
end
theorem ix0 {α : Type} {a : α} {l : List α} : (a :: l)[0]? = some a := rfl
theorem ixs {α : Type} {a x : α} {l : List α} {i : Nat} (h : l[i]? = some x) : (a :: l)[i + 1]? = some x := h
theorem slice_mro : mroOf (.type "slice") = pure [.type "slice", .type "object"] := by rw [mroOf_type]; kernel_rfl
theorem slice_new : typeLookup (.type "slice") "__new__" = pure (some (.builtin "slice.__new__")) := by rw [typeLookup_type, builtinLookup_eq_fast]; kernel_rfl
theorem slice_init : Slot "slice" "__init__" "object.__init__" := .of (owner := "object") (n := "__init__") (by rw [typeLookup_type, builtinLookup_eq_fast]; kernel_rfl) (by decide +kernel) (by decide +kernel) (by decide +kernel) (.inl (by decide +kernel)) (by rw [isSubtype_type]; kernel_rfl)
theorem slice_called : TypeCalled "slice" "slice.__new__" "object.__init__" :=
  ⟨by decide +kernel, by decide +kernel, ⟨_, _, slice_mro⟩, madeBy_type slice_mro slice_new (by decide +kernel), by decide +kernel, by rw [isSubtype_type]; kernel_rfl, slice_init⟩
theorem slice_type2 (a b : Value) : checkTypeCall "slice" ⟨[a, b], []⟩ = pure () := by kernel_rfl
theorem slice_check2 (a b : Value) : checkBuiltinCall "slice.__new__" ⟨[.type "slice", a, b], []⟩ = pure () := by kernel_rfl
theorem slice_entry : entryFor table "slice.__new__" = some Builtin.«slice.__new__» := entryFor_of_tree (by kernel_rfl)
abbrev sliceObj (a b : Value) : Obj := { cls := .type "slice", data := .fields #[a, b, .none] }
theorem slice_meets (a b : Value) (hsub : isSubtype (.type "slice") (.type "slice") = pure true) :
    Meets (Builtin.«slice.__new__» ⟨[.type "slice", a, b], []⟩) (fun _ R s => R (.ok (.ret (.ref s.heap.objs.size))) { s with heap := s.heap.push (sliceObj a b) }) := by
  refine Meets.of_wp fun prog w A R s hs => ?_
  repeat (any_goals (first | assumption | wp_step))
  all_goals exact ⟨_, rfl, hs⟩
section
variable {prog : Program} {w : World} {A : Around} {E : Value → Shared → Prop} {s s₀ : Shared} {g : Heap} {L : Addr} {m : Str → Option Value} {ms : Mut}
theorem slice_call {a b : Value} {Q : Value → Shared → Prop} (h : Q (.ref s.heap.objs.size) { s with heap := s.heap.push (sliceObj a b) }) : wpAny (model prog w) A (call (.type "slice") [a, b]) Q E s :=
  callType_new slice_called (by decide) (slice_type2 _ _) (slice_check2 _ _) (fun obj => F.initArgs_range_2 obj _ _) slice_entry (slice_meets a b slice_called.sub) ⟨⟨_, Heap.get?_push_size _ rfl, rfl⟩, h⟩
end
section
variable {prog : Program} {w : World} {A : Around} {E : Value → Shared → Prop} {s s₀ : Shared} {g : Heap} {L a : Addr} {m : Str → Option Value} {ms : Mut} {x : Str} {t : Tok}
theorem fx_itemS {i : Int} {u : Tok} {Q : Value → Shared → Prop} (H : FX g L s₀ s m ms) (hr : fitsSsize i = true) (h1 : -(x.length : Int) ≤ i) (h2 : i < x.length) (h : ∀ s' t', FX g L s₀ s' m ms → Q (.str (Txt.item x i) t') s') :
    ItemOn (model prog w) A E (.str x t) (.int i u) Q s := SB.item hr (charAt_isSome h1 h2) (h _ _ H.tok)
theorem fx_subS {l u : Option (Int × Tok)} {Q : Value → Shared → Prop} (H : FX g L s₀ s m ms) (hs : s.heap.IsSlice a l u none) (hsz : x.length ≤ sizeLine) (h : ∀ s' t', FX g L s₀ s' m ms → Q (.str (Txt.slice x (l.map (·.1)) (u.map (·.1))) t') s') :
    ItemOn (model prog w) A E (.str x t) (.ref a) Q s :=
  ⟨"str", _, F.slot_str_getitem.lookup, typeIs_str _ _ _, wpAny_getItem_str_slice (l := l) (u := u) (st := none) hs rfl (by
    cases l <;> cases u <;> exact post_val_or_str ⟨Nat.le_trans (Txt.slice_le x _ _) hsz, fun t' k => h _ t' H.tok⟩)⟩
theorem fx_sliceC {b c : Value} {Q : Value → Shared → Prop} (H : FX g L s₀ s m ms) (h : ∀ a s', FX g L s₀ s' m ((a, (· = sliceObj b c)) :: ms) → s.heap.objs.size ≤ a → Q (.ref a) s') :
    wpAny (model prog w) A (call (.type "slice") [b, c]) Q E s := slice_call (h _ _ (H.to' (H.fh.push rfl rfl)) (Nat.le_refl _))
theorem fx_isiS {Q : Value → Shared → Prop} (H : FX g L s₀ s m ms) (h : ∀ s', FX g L s₀ s' m ms → Q (.bool true) s') : wpAny (model prog w) A (call (.builtin "isinstance") [.str x t, .type "str"]) Q E s := IsiPair.str_str (h _ H)
theorem fx_isiN {Q : Value → Shared → Prop} (H : FX g L s₀ s m ms) (h : ∀ s', FX g L s₀ s' m ms → Q (.bool false) s') : wpAny (model prog w) A (call (.builtin "isinstance") [.none, .type "str"]) Q E s := IsiPair.NoneType_str (h _ H.tok)
theorem swapped_of {env : Env} {sc : Scope} {cl : List (Str × Addr)} {ts : List Expr} {v : Expr} {r : Option (List Str)} (V : EV env sc L cl) (h : swappedStores ts v { (default : Env) with scope := sc } = pure r) : swappedStores ts v env = pure r := by
  rw [← h]; unfold swappedStores Env.blockKind Env.kindOf; rw [V.scope]
end
section
variable {prog : Program} {w : World} {A : Around} {E : Value → Shared → Prop} {s s₀ : Shared} {g : Heap} {env : Env} {sc : Scope} {L l : Addr} {cl : List (Str × Addr)} {m : Str → Option Value} {ms : Mut} {target iter : Expr} {body : List Stmt} {pos : Pos} {n : Nat}
theorem FX.upd {h' : Heap} {d : Addr} {p p' : Obj → Prop} {o : Obj} {i : Nat} (H : FX g L s₀ s m ms) (hi : ms[i]? = some (d, p)) (hx : Heap.ExtBut d s.heap h') (ho : h'.get? d = some o) (hp : p' o) : FX g L s₀ { s with heap := h' } m (ms.set i (d, p')) := H.to' (H.fh.upd hi hx ho hp)
/-- a loop over a list: what holds at its i-th turn, over what stays (G), the names and what may turn -/
theorem fx_for_list {Q : Flow → Shared → Prop} (vs : List Value) (P : Nat → Heap → (Str → Option Value) → Mut → Prop) (hA : AOk n A) (H : FX g L s₀ s m ms) (hl : g.IsList l vs.toArray) (hP : P 0 g m ms)
    (step : ∀ i v, vs[i]? = some v → ∀ G m ms I s, g.StaysIn G → P i G m ms → FX G L s₀ s m ((I, iterP l (i + 1)) :: ms) →
      wpAny (model prog w) A (assign target env v) (fun _ s₂ => wpAny (model prog w) A (execs body env) (fun f s₃ => match f with
        | .next | .cont => ∃ G' m' ms', G.StaysIn G' ∧ P (i + 1) G' m' ms' ∧ FX G' L s₀ s₃ m' ((I, iterP l (i + 1)) :: ms')
        | .brk => Q .next s₃
        | .ret v => Q (.ret v) s₃) (fun _ _ => False) s₂) (fun _ _ => False) s)
    (done : ∀ G m ms s, g.StaysIn G → P vs.length G m ms → FX G L s₀ s m ms → Q .next s) :
    wpAny (model prog w) A (pyIter (.ref l)) (fun it s₂ => codeAny (model prog w) A (.forLoop target it body [] env) (fun r s' => match r with | .ok f => Q f s' | .error e => cameBackBy (model prog w) A env E e s') s₂) E s := by
  refine wpAny_pyIter_list (hl.at fun o e => H.keep _ _ e) ?_
  have H1 := H.to' (H.fh.push (o := { cls := .type "list_iterator", dict := none, data := .fields #[.ref l, .int 0 0] }) rfl (p := iterP l 0) ⟨rfl, rfl⟩)
  generalize hI : s.heap.objs.size = I at H1
  refine for_loop (fun k s' => ∃ G m ms i, k = vs.length + 1 - i ∧ i ≤ vs.length ∧ g.StaysIn G ∧ P i G m ms ∧ FX G L s₀ s' m ((I, iterP l i) :: ms)) ?_ (vs.length + 1) ⟨g, m, ms, 0, rfl, Nat.zero_le _, stays_refl _, hP, H1⟩
  rintro k s' ⟨G, m, ms, i, rfl, hi, hG, hP, H⟩
  obtain ⟨⟨o, ho, hcls, hdata⟩, hIL, hIG⟩ := H.at (i := 0) rfl
  have hl' : s'.heap.IsList l vs.toArray := hl.at fun o e => H.keep _ _ (hG _ _ e)
  rcases Nat.lt_or_ge i vs.length with hlt | hge
  · have hx : vs[i]? = some vs[i] := by simp [hlt]
    refine wpAny_pyNext_list_item ⟨o, ho, hcls, hdata⟩ hl' (x := vs[i]) (by simp [hlt]) fun h₂ hI₂ hs₂ => ?_
    refine let_list (s := { s' with heap := h₂ }) hI₂ ?_
    obtain ⟨o', ho', hp'⟩ := hI₂
    have H2 : FX G L s₀ { s' with heap := h₂ } m ((I, iterP l (i + 1)) :: ms) := H.upd (i := 0) rfl hs₂.extBut ho' hp'
    refine wpAny_mono (step i _ hx G m ms I _ hG hP H2) (fun _ s₂ h₂ => wpAny_mono h₂ (fun f s₃ h₃ => ?_) fun _ _ x => x) fun _ _ x => x
    cases f with
    | next => obtain ⟨G', m', ms', hk, hP', H'⟩ := h₃; exact ⟨vs.length + 1 - (i + 1), by omega, G', m', ms', i + 1, rfl, hlt, stays_trans hG hk, hP', H'⟩
    | cont => obtain ⟨G', m', ms', hk, hP', H'⟩ := h₃; exact ⟨vs.length + 1 - (i + 1), by omega, G', m', ms', i + 1, rfl, hlt, stays_trans hG hk, hP', H'⟩
    | brk => exact h₃
    | ret v => exact h₃
  · have hin : i = vs.length := Nat.le_antisymm hi hge
    subst hin
    refine wpAny_pyNext_list_end hA.hh ⟨o, ho, hcls, hdata⟩ hl' (by simp) fun h₂ hx₂ => ?_
    refine done G m ms _ hG hP ?_
    have H3 := H.drop (List.Sublist.cons _ (List.Sublist.refl _))
    refine ⟨⟨H.fh.ns.extBut hx₂ (Ne.symm hIL), fun b o e => hx₂ b o (fun q => by rw [q, hIG] at e; cases e) (H.keep _ _ e), H.fh.off, fun p hp => ?_, H3.fh.nodup⟩, H.same.trans (Same.mkh _ _)⟩
    obtain ⟨⟨o, e, r⟩, z⟩ := H3.fh.tur p hp
    exact ⟨⟨o, hx₂ _ _ (fun q => by
      have := (List.nodup_cons.mp H.fh.nodup).1
      exact this (List.mem_map.mpr ⟨p, hp, q⟩)) e, r⟩, z⟩
end
def dictP (prog : Program) (w : World) (kvs : List (Str × Value)) (o : Obj) : Prop := ∃ es ep, o.ExactDict ∧ o.data = .dict es ep ∧ KeysOf (strKind prog w) es ∧ Pairs (strKind prog w) es.toList kvs ∧ (kvs.map (·.1)).Nodup
theorem lib_all {h : Heap} {L : Addr} : News noHeap L h (others h [L]) := fun p hp => by
  obtain ⟨a, o⟩ := p
  obtain ⟨q, e⟩ := mem_others.mp hp
  exact ⟨e, fun z => q (List.mem_singleton.mpr z), noHeap_none _⟩
section
variable {prog : Program} {w : World} {A : Around} {E : Value → Shared → Prop} {s s₀ : Shared} {g : Heap} {env : Env} {sc : Scope} {L l b d : Addr} {cl : List (Str × Addr)} {m : Str → Option Value} {ms : Mut} {pos : Pos} {n : Nat} {h' : Heap} {o : Obj} {p : Obj → Prop}
theorem dictP.of {kvs : List (Str × Value)} (x : s.heap.DictOf (strKind prog w) d kvs) : ∃ o, s.heap.get? d = some o ∧ dictP prog w kvs o := let ⟨o, es, ep, e, a, b, c, f, g⟩ := x; ⟨o, e, es, ep, a, b, c, f, g⟩
theorem dictP.is {kvs : List (Str × Value)} (e : s.heap.get? d = some o) (x : dictP prog w kvs o) : s.heap.DictOf (strKind prog w) d kvs := let ⟨es, ep, a, b, c, f, g⟩ := x; ⟨o, es, ep, e, a, b, c, f, g⟩
theorem FX.dict {kvs : List (Str × Value)} {i : Nat} (H : FX g L s₀ s m ms) (hi : ms[i]? = some (d, dictP prog w kvs)) : s.heap.DictOf (strKind prog w) d kvs := let ⟨⟨_, e, r⟩, _⟩ := H.at hi; dictP.is e r
/-- a new object, all else as it was -/
theorem FX.lib1 (H : FX g L s₀ s m ms) (F : Fr noHeap L h' m) (N : News noHeap L h' ((s.heap.objs.size, o) :: others s.heap [L])) (hp : p o) : FX g L s₀ { s with heap := h' } m ((s.heap.objs.size, p) :: ms) := by
  have hk : ∀ a o, a ≠ L → s.heap.get? a = some o → h'.get? a = some o := fun a o h1 e => (N (a, o) (List.mem_cons_of_mem _ (mem_others.mpr ⟨by simpa using h1, e⟩))).1
  refine ⟨⟨F.ns, fun b o e => hk b o (fun q => by rw [q, H.fh.off] at e; cases e) (H.keep _ _ e), H.fh.off, fun q hq => ?_, List.nodup_cons.mpr ⟨fun hq => ?_, H.fh.nodup⟩⟩, H.same.trans (Same.mkh _ _)⟩
  · rcases List.mem_cons.mp hq with rfl | hq
    · exact ⟨⟨o, (N _ (List.mem_cons_self ..)).1, hp⟩, Nat.ne_of_gt H.lt, by
        cases e : g.get? s.heap.objs.size with
        | none => rfl
        | some o' => exact absurd (Heap.lt_size (H.keep _ _ e)) (Nat.lt_irrefl _)⟩
    · obtain ⟨⟨o', e, r⟩, z⟩ := H.fh.tur q hq
      exact ⟨⟨o', hk _ _ z.1 e, r⟩, z⟩
  · obtain ⟨q, hq, e⟩ := List.mem_map.mp hq
    exact absurd (H.mlt q hq) (by rw [e]; exact Nat.lt_irrefl _)
theorem FX.imp {p' : Obj → Prop} {i : Nat} (H : FX g L s₀ s m ms) (hi : ms[i]? = some (d, p)) (hp : ∀ o, p o → p' o) : FX g L s₀ s m (ms.set i (d, p')) := by
  obtain ⟨⟨o, e, r⟩, _⟩ := H.at hi
  exact ⟨H.fh.upd hi (fun _ _ _ e => e) e (hp o r), H.same⟩
theorem fx_addL {vs ws : List Value} {Q : Value → Shared → Prop} (H : FX g L s₀ s m ms) (hl : s.heap.IsList l vs.toArray) (hb : s.heap.IsList b ws.toArray) (hsz : vs.length + ws.length ≤ sizeLine)
    (h : ∀ a s', FX g L s₀ s' m ((a, listP (vs ++ ws)) :: ms) → s.heap.objs.size ≤ a → Q (.ref a) s') : wpAny (model prog w) A (binaryOp .Add (.ref l) (.ref b)) Q E s :=
  add_lists (lib_fr H.fh.ns) lib_all hl hb (fun h' F N => h _ _ (H.lib1 F N ⟨0, rfl⟩) (Nat.le_refl _)) hsz
theorem fx_dict0 {Q : Value → Shared → Prop} (H : FX g L s₀ s m ms) (h : ∀ a s', FX g L s₀ s' m ((a, dictP prog w []) :: ms) → s.heap.objs.size ≤ a → Q (.ref a) s') : wpAny (model prog w) A (eval (.Dict [] [] pos) env) Q E s :=
  wpAny_Dict_empty (h _ _ (H.to' (H.fh.push rfl ⟨#[], 0, ⟨rfl, rfl, rfl⟩, rfl, (fun _ he => by simp at he), Pairs.nil, List.nodup_nil⟩)) (Nat.le_refl _))
theorem fx_setD {kvs : List (Str × Value)} {k : Str} {tk : Tok} {v : Value} {i : Nat} {Q : Unit → Shared → Prop} (H : FX g L s₀ s m ms) (hi : ms[i]? = some (d, dictP prog w kvs)) (hsz : kvs.length ≤ sizeLine) (hk : k ∉ kvs.map (·.1))
    (h : ∀ s', FX g L s₀ s' m (ms.set i (d, dictP prog w (kvs ++ [(k, v)]))) → Q () s') : wpAny (model prog w) A (setItem (.ref d) (.str k tk) v) Q E s := by
  refine wpAny_setItem_pairs (knd := strKind prog w) (k := k) (strKind_is prog w k tk) (H.dict hi) (fun h' hd hs => ?_) hsz
  have e : stored kvs k v = kvs ++ [(k, v)] := by
    unfold stored
    rw [if_neg]
    intro hq
    obtain ⟨q, hq, e⟩ := List.any_eq_true.mp hq
    exact hk (List.mem_map.mpr ⟨q, hq, of_decide_eq_true e⟩)
  rw [e] at hd
  obtain ⟨o, ho, hp⟩ := dictP.of (s := { s with heap := h', toks := s.toks + 1 }) hd
  exact h _ (H.to (H.fh.upd hi hs.extBut ho hp))
theorem fx_neR {a : Value} {v : Value} {da db : PyData} {as bs : List Addr} {Q : Value → Shared → Prop} (hA : AOk n A) (hn : n < 900) (ra : Reads s.heap a da as) (rb : Reads s.heap v db bs) (ha : PySem.SeqAt.shaped da = true) (hb : PySem.SeqAt.shaped db = true)
    (h : Q (.bool (!PyData.eqv da db)) s) : wpAny (model prog w) A (compareOp .NotEq a v) Q E s := ne_dataH ra rb ha hb (by have := hA.hu; simp only [cLine]; omega) h
theorem fx_eqR {a : Value} {v : Value} {da db : PyData} {as bs : List Addr} {Q : Value → Shared → Prop} (hA : AOk n A) (hn : n < 900) (ra : Reads s.heap a da as) (rb : Reads s.heap v db bs) (ha : PySem.SeqAt.shaped da = true) (hb : PySem.SeqAt.shaped db = true)
    (h : Q (.bool (PyData.eqv da db)) s) : wpAny (model prog w) A (compareOp .Eq a v) Q E s := eq_dataH ra rb ha hb (by have := hA.hu; simp only [cLine]; omega) h
end
theorem fx_itemL {prog : Program} {w : World} {A : Around} {E : Value → Shared → Prop} {s : Shared} {l : Addr} {items : Array Value} {v : Value} {k : Int} {t : Tok} {Q : Value → Shared → Prop} (hl : s.heap.IsList l items) (h0 : 0 ≤ k) (hf : k < 2 ^ 63) (hx : items[k.toNat]? = some v) (h : Q v s) :
    ItemOn (model prog w) A E (.ref l) (.int k t) Q s := ⟨"list", _, slot_list_getitem.lookup, hl.typeIs, wpAny_getItem_list hl h0 hf hx h⟩
set_option hygiene false in
local macro_rules | `(tactic| walk_at "kf") => `(tactic| (have hk := And.intro (rfl : PySem.Challenge.rw_wf0048_01 = PySem.Challenge.rw_wf0048_01) W.kin; revert hk; k_fill; intro hk; clear hk))
set_option hygiene false in
local macro_rules | `(tactic| walk_at "enterC") => `(tactic| ((case ho => k_is); (case hcd => k_is); (case hbind => exact BindsTo.of_eq rfl); (case hkind => rfl); (case hnd => decide); (case hcl => (intro L; rfl)); (case hml => rfl); (case hms => (intro L; rfl)); (case hco => rfl); (case hgen => rfl); (case hk => rfl); intro env L s₁ A' V hA' hL H))
set_option hygiene false in
local macro_rules | `(tactic| walk_at "enter") => `(tactic| ((case ho => k_is); (case hcd => k_is); (case hbind => exact BindsTo.of_eq rfl); (case hloc => exact locs rfl); (case hco => rfl); (case hgen => rfl); (case hk => rfl); (case hcell => decide); intro env L s₁ A' V hA' hL H))
set_option hygiene false in
local macro_rules | `(tactic| walk_at "ix") => `(tactic| (repeat (first | exact ix0 | apply ixs)))
set_option hygiene false in
local macro_rules | `(tactic| walk_at "name") => `(tactic| first
  | ((with_reducible refine' fx_ld V H ?hv ?_ ?hl ?hk ?hd); (case hl => rfl); (case hv => first | rfl | assumption); (case hk => rfl); (case hd => decide))
  | ((with_reducible refine' fx_gl V H W ?e ?_ ?hl ?hk ?hd); (case hl => rfl); (case e => k_is); (case hk => rfl); (case hd => decide))
  | ((with_reducible refine' fx_bi V H W ?e ?hv ?_ ?hl ?hk ?hd ?hn); (case hl => rfl); (case e => k_is); (case hv => first | boot_fast | exact PyProof.Rows.Boot.«slice» | exact PyProof.Rows.Boot.«range» | exact PyProof.Rows.Boot.«dict»); (case hk => rfl); (case hd => decide); (case hn => decide))
  | ((with_reducible refine' fx_ldfg V H ?hc ?hi ?_ ?hl ?hk ?hd ?hn); (case hl => rfl); (case hc => rfl); (case hi => assumption); (case hk => rfl); (case hd => decide); (case hn => decide))
  | ((with_reducible refine' fx_ldc V H ?hc ?hi ?_ ?hl ?hk ?hd); (case hl => rfl); (case hc => rfl); (case hi => walk_at "ix"); (case hk => rfl); (case hd => decide))
  | ((with_reducible refine' fx_ldcg V H ?hc ?hi ?_ ?hl ?hk ?hd); (case hl => rfl); (case hc => rfl); (case hi => assumption); (case hk => rfl); (case hd => decide)))
set_option hygiene false in
local macro_rules | `(tactic| walk_at "s1") => `(tactic| first
  | ((with_reducible refine execs_K ?_); intro Kq hKq)
  | ((with_reducible refine' Back.go ?hk ?_); (case hk => assumption))
  | ((with_reducible refine' Rest.next ?hk ?_); (case hk => assumption))
  | ((with_reducible refine' Rest.ret ?hk ?_); (case hk => assumption))
  | with_reducible refine wpAny_execs_nil ?_
  | with_reducible refine wpAny_BinOp ?_
  | ((with_reducible refine' wpAny_Compare1 ?_ ?hm); (case hm => rfl))
  | ((with_reducible refine fx_int H ?_); clear H; intro s₁ _ H)
  | ((with_reducible refine fx_str H ?_); clear H; intro s₁ _ H)
  | with_reducible refine Constant_bool ?_
  | with_reducible refine Constant_none ?_
  | with_reducible refine UnaryOp_ ?_
  | with_reducible refine isTrue_not ?_
  | with_reducible refine isTrue_and_nil ?_
  | with_reducible refine isTrue_or_nil ?_
  | with_reducible refine isTrue_and ?_
  | with_reducible refine isTrue_or ?_
  | ((with_reducible refine' wpAny_isTrue_Compare1 ?_ ?hm); (case hm => rfl))
  | with_reducible refine BoolOp_one ?_
  | with_reducible refine BoolOp_and ?_
  | with_reducible refine BoolOp_or ?_
  | with_reducible refine wpAny_If ?_
  | with_reducible refine wpAny_Return_some ?_
  | with_reducible refine Tuple_ ?_
  | with_reducible refine List_ ?_
  | ((with_reducible refine' spliced_more ?_ ?he); (case he => rfl))
  | with_reducible refine spliced_none ?_
  | with_reducible refine wpAny_evalPart_some ?_
  | with_reducible refine wpAny_evalPart_none ?_
  | ((with_reducible refine' MethodCall_ ?_ ?he); (case he => rfl))
  | ((with_reducible refine' Call_ ?_ ?he); (case he => rfl))
  | with_reducible refine Attribute_name ?_
  | walk_at "name"
  | ((with_reducible refine fx_add H ?_); clear H; intro s₁ _ H)
  | ((with_reducible refine fx_sub H ?_); clear H; intro s₁ _ H)
  | ((with_reducible refine fx_and H ?_); clear H; intro s₁ _ H)
  | ((with_reducible refine' fx_fdiv H ?hb ?hs ?_); (case hb => decide); (case hs => decide); clear H; intro s₁ _ H)
  | ((with_reducible refine' fx_mod H ?hb ?_); (case hb => decide); clear H; intro s₁ _ H)
  | ((with_reducible refine fx_xor H ?_); clear H; intro s₁ _ H)
  | ((with_reducible refine fx_neg H ?_); clear H; intro s₁ _ H)
  | with_reducible refine PyProof.Rows.eq_int ?_
  | with_reducible refine PyProof.Rows.eq_str ?_
  | with_reducible refine PySem.EqNone.eq_none_str ?_
  | with_reducible refine PySem.EqNone.eq_str_none ?_
  | with_reducible refine PyProof.Rows.ne_str ?_
  | with_reducible refine PyProof.Rows.ne_int ?_
  | with_reducible refine PyProof.Rows.lt_int ?_
  | with_reducible refine PyProof.Rows.truthy_int ?_
  | ((with_reducible refine fx_isiS H ?_); clear H; intro s₁ H)
  | ((with_reducible refine fx_isiN H ?_); clear H; intro s₁ H)
  | with_reducible refine wpAny_truthy_bool ?_
  | ((with_reducible refine' PyProof.Rows.callWith_builtin1 ?_ ?he ?hp); (case he => rfl); (case hp => rfl))
  | ((with_reducible refine' PyProof.Rows.callWith_method1 ?_ ?he ?hp); (case he => rfl); (case hp => rfl))
  | ((with_reducible refine' PyProof.Rows.callWith_type1 ?_ ?he ?hp); (case he => rfl); (case hp => rfl))
  | with_reducible refine PySem.GM.join ?_
  | with_reducible rw [if_pos (rfl : true = true)]
  | with_reducible rw [if_neg Bool.false_ne_true]
  | ((with_reducible refine' PyProof.Rows.isTrue_plain ?_ ?he); (case he => rfl))
  | ((with_reducible refine' wpAny_Assign_Name ?_ ?hs); (case hs => rfl)))
set_option hygiene false in
local macro_rules | `(tactic| walk_at "st") => `(tactic| ((with_reducible refine' fx_st V H ?_ ?hl ?hk); (case hl => rfl); (case hk => rfl); clear H; intro s₁ H))
set_option hygiene false in
local macro_rules | `(tactic| walk_at "compset") => `(tactic| ((case hcell => decide); (case hkind => rfl); (case hy => rfl); (case hk => rfl)))
set_option hygiene false in
local macro_rules | `(tactic| walk_at "setslot") => `(tactic| ((case hj => exact rfl); (case hj' => exact rfl); (case hdx => rfl); (case hcl => rfl); (case hno => rfl); (case hs => k_is); (case hp => k_is); (case ht => k_is); (case hT => k_is); (case hi => k_is); (case hz => decide); (case he => rfl); (case hf => rfl); clear H; intro s₁ H; dsimp only [List.set] at H))
set_option hygiene false in
local macro_rules | `(tactic| walk_at "asg") => `(tactic| ((repeat' (walk_at "s1")); refine plainObj_wpAny_Assign_Attribute ?_ (by rfl); repeat' (walk_at "s1")))
set_option hygiene false in
local macro_rules | `(tactic| walk_at "callK") => `(tactic| ((with_reducible refine' fh_callK W ?hk ?_ ?he ?hp); (case hk => k_is); (case he => rfl); (case hp => rfl); repeat' (walk_at "s1")))
set_option hygiene false in
local macro_rules | `(tactic| walk_at "sliceS") => `(tactic| ((with_reducible refine' fx_sliceS ?_ ?ht); (case ht => (intro _ _; rfl)); (repeat' (walk_at "s1")); refine ⟨_, _, _, _, _, _, _, _, _, rfl, ?_, by first | exact .none | exact .int _ _, by first | exact .none | exact .int _ _, H, ?_⟩; rotate_left; clear H; intro s₁ _ H))
set_option hygiene false in
local macro_rules | `(tactic| walk_at "enterM") => `(tactic| ((case ho => k_is); (case hcd => k_is); (case hbind => exact BindsTo.of_eq rfl); (case hkind => rfl); (case hnd => decide); (case hcl => (intro L; rfl)); (case hml => rfl); (case hms => (intro L; rfl)); (case hco => rfl); (case hgen => rfl); (case hk => rfl); intro env L s₁ A' V hA' hL H hcode hqual))
set_option hygiene false in
local macro_rules | `(tactic| walk_at "stc") => `(tactic| ((with_reducible refine' fx_stc V H ?hc ?hi ?_ ?hl ?hk); (case hl => rfl); (case hc => rfl); (case hi => walk_at "ix"); (case hk => rfl); clear H; intro s₁ H; dsimp only [List.set] at H))
set_option hygiene false in
local macro_rules | `(tactic| walk_at "nl") => `(tactic| ((with_reducible refine' fx_list H ?_ ?hsz); (case hsz => simp [sizeLine]); clear H; intro aa s₁ H _))
set_option hygiene false in
local macro_rules | `(tactic| walk_at "nx") => `(tactic| ((try dsimp only); (try ((with_reducible refine' Rest.next ?hk ?_); (case hk => assumption)))))
set_option maxHeartbeats 2000000 in
theorem law_sum_c {w : World} {A : Around} {s : Shared} {n : Nat} {l : Addr} {T : List Tag} {c : Nat} {tk : Tok} {Q E : Value → Shared → Prop}
   (hA : AOk n A) (hn : n < 500) (W : Wd w s.heap) (hT : IsTags s.heap l T) (hS : Small T)
   (hret : ∀ a s' t1 t2, Same s s' → s.heap.StaysIn s'.heap → (above s.heap.objs.size s'.heap).IsTuple a #[.int (sizeOf' T c) t1, .int (countOf T c) t2] → Q (.ref a) s') :
   wpAny (model Pg w) A (call (.ref 219) [.ref l, .int c tk]) Q E s := by
  walk_at "kf"
  refine' fx_enterC (fun L => [(Str.ofString "chosen", L + 1)]) (fun y => if y = Str.ofString "tags" then some (.ref l) else none) (fun L => [(L + 1, cellP (some (.int c tk)))])
    [(Str.ofString "tags", .ref l), (Str.ofString "chosen", .int c tk)] hA (by omega) W ?ho ?hcd ?hbind ?hkind ?hnd ?hcl ?hml ?hms ?h ?hco ?hgen ?hk
  walk_at "enterC"
  obtain ⟨vs, hvs, hlen, hat⟩ := hT
  obtain ⟨g, H, k₁, cell, -, -⟩ := H.settle
  have cell : g.IsCell (L + 1) (some (.int c tk)) := cell 0 _ _ rfl
  have W := W.mono k₁
  walk_at "s1"
  refine fh_comp_assign (swaps_of V (by rfl) (by rfl) (by rfl)) (clos_of V (by rfl)) (by rfl) (by decide) ?_
  refine fx_slice ?_
  repeat' (walk_at "s1")
  refine ⟨l, vs.toArray, some (7 : Nat), none, _, _, _, _, _, rfl, H.glist (hvs.at fun o e => k₁ _ o e), ?_, .int _ _, .none, H, ?_⟩
  · have := hS.len; simp only [List.size_toArray, sizeLine]; omega
  clear H; intro a s₁ H _
  have H₁ := H
  rw [slicePick_from'] at H
  refine fx_comp_set (vs.drop 7) (fun i => (T[7 + i]?).any (hits c)) (fun i y _ => ∃ t tk, T[7 + i]? = some t ∧ y = .str t.1 tk) (fun _ _ _ _ f _ => f) hA' V H (by simpa using H.list (i := 0) rfl) ?hsz ?hcell ?hkind ?hy ?hk ?step ?done
  walk_at "compset"
  case hsz => have := hS.len; simp only [List.length_drop, sizeLine]; omega
  case step =>
    intro i v hi G env C mc s hG V H₀
    have H := H₀
    rw [List.getElem?_drop] at hi
    obtain ⟨t, ht⟩ : ∃ t, T[7 + i]? = some t := by
      have : 7 + i < vs.length := (List.getElem?_eq_some_iff.mp hi).1
      exact ⟨T[7 + i]'(by omega), by simp [show 7 + i < T.length by omega]⟩
    obtain ⟨b, tk1, tk2, hb, hbl⟩ := hat _ _ ht
    rw [hb] at hi; cases hi
    have hgG : g.StaysIn G := stays_trans H₁.keep hG
    have W := W.mono hgG
    have cell : G.IsCell (L + 1) (some (.int c tk)) := let ⟨o, e, r⟩ := cell; ⟨o, hgG _ o e, r⟩
    refine test_K ?_
    intro Kt hKt
    refine fx_unpack hA' H (hbl.at fun o e => H.keep _ o (hgG _ o (k₁ _ o e))) rfl rfl ?_
    clear H; intro s₁ H _
    refine in_order ?_
    walk_at "st"
    refine in_order ?_
    walk_at "st"
    refine in_order_nil ?_
    refine tests_one (isTrue_plain ?_)
    repeat' (walk_at "s1")
    refine ⟨by rw [hits_int]; simp only [ht, Option.any_some], ?_⟩
    split
    · walk_at "name"
      exact ⟨⟨_, H⟩, t, tk1, ht, rfl⟩
    · exact ⟨_, H⟩
  case done =>
    intro D ys s₂ H₂ hD hDl hP
    rw [show (vs.drop 7).length = (T.drop 7).length by simp [hlen]] at hP
    have P2 := range_filter_get (T.drop 7) (hits c) _ (fun i a e => by rw [List.getElem?_drop] at e; rw [e]; rfl) hP
      (G := fun (t : Tag) y => ∃ tk : Tok, y = Value.str t.1 tk) (fun i a y e f => by rw [List.getElem?_drop] at e; obtain ⟨t, tk, e', rfl⟩ := f; rw [e] at e'; cases e'; exact ⟨tk, rfl⟩)
    have hS2 := strs_of P2
    have hsm := hS.names c
    have hly : ys.length = (namesOf T c).length := (paired_len P2).symm
    obtain ⟨g', H, k₂, -, up, -⟩ := H₂.settle
    have W := W.mono k₂
    have hDg : g'.IsList D ys.toArray := hDl.at fun o e => up _ H₁.lt _ o e
    repeat' (walk_at "s1")
    refine fx_join H (H.glist hDg) (by simpa using hS2) ?_ ?_
    · simp only [List.map_map, List.length_map]
      have e : (List.map ((fun x : Str => x.length) ∘ fun x : Tag => x.1) (List.filter (hits c) (List.drop 7 T))).sum ≤ 4096 := hsm.2
      have e2 : (List.filter (hits c) (List.drop 7 T)).length ≤ 64 := hsm.1
      have e3 : (Str.ofString "").length = 0 := rfl
      rw [e3]; omega
    clear H; intro s₁ _ H
    have ej : (Txt.join (Str.ofString "") ((List.filter (hits c) (List.drop 7 T)).map (·.1))).length = sizeOf' T c := by
      rw [show Str.ofString "" = Str.empty from rfl, len_join, List.map_map]; rfl
    walk_at "s1"
    refine fx_lenS H (by rw [ej]; have := hsm.2; unfold sizeOf'; omega) ?_
    rw [ej]
    clear H; intro s₁ _ H
    repeat' (walk_at "s1")
    refine fx_len H (H.glist hDg) (by rw [List.size_toArray]; omega) ?_
    rw [show ys.toArray.size = countOf T c by rw [List.size_toArray]; exact hly]
    clear H; intro s₁ _ H
    repeat' (walk_at "s1")
    have hlt := H.lt
    refine fx_tuple H ?_ (by simp [sizeLine])
    clear H; intro a s₁ H hge
    repeat' (walk_at "s1")
    obtain ⟨⟨o, e, q1, n', q2⟩, -⟩ := H.at (i := 0) rfl
    exact hret a s₁ _ _ H.same (stays_trans k₁ (stays_trans k₂ H.keep)) ⟨o, above_get e (hL ▸ Nat.le_trans (Nat.le_of_lt hlt) hge), q1, n', q2⟩
abbrev statObj (dx : Addr) (t sz ct : Value) : Obj := { cls := .ref 117, dict := some dx, data := .plain, slots := #[some ct, some sz, some t] }
abbrev diffObj (dx : Addr) (t sz sd ct cd : Value) : Obj := { cls := .ref 176, dict := some dx, data := .plain, slots := #[some ct, some cd, some sz, some sd, some t] }
def StatAt (h : Heap) (x : Addr) (t sz ct : Value) : Prop := ∃ dx, h.get? x = some (statObj dx t sz ct) ∧ h.get? dx = some emptyDict
def DiffAt (h : Heap) (x : Addr) (t sz sd ct cd : Value) : Prop := ∃ dx, h.get? x = some (diffObj dx t sz sd ct cd) ∧ h.get? dx = some emptyDict
set_option maxHeartbeats 2000000 in
theorem stat_new {w : World} {A : Around} {s : Shared} {n : Nat} {t sz ct : Value} {Q E : Value → Shared → Prop}
   (hA : AOk n A) (hn : n < 500) (W : Wd w s.heap)
   (hret : ∀ x s', Same s s' → s.heap.StaysIn s'.heap → StatAt (above s.heap.objs.size s'.heap) x t sz ct → Q (.ref x) s') :
   wpAny (model Pg w) A (call (.ref 117) [t, sz, ct]) Q E s := by
  have hW := W
  walk_at "kf"
  refine' fx_make (C := 117) (fI := 78) hA W ?hm ?hi ?hf ?_
  case hm => k_is
  case hi => k_is
  case hf => k_is
  intro x dx s' A' hA' S k hdx hx ex edx hsz
  have W := W.mono k
  refine' fx_enterK (binds := [(Str.ofString "self", .ref x), (Str.ofString "traceback", t), (Str.ofString "size", sz), (Str.ofString "count", ct)]) (n := n + 1) hA' (by omega) W ?ho ?hcd ?hbind ?hloc ?h ?hco ?hgen ?hk ?hcell
  walk_at "enter"
  have H := H.less (ms := [(x, (· = instObj 117 dx)), (dx, (· = emptyDict))]) k (by
    intro p hp
    rcases List.mem_cons.mp hp with rfl | hp
    · exact ⟨⟨_, ex, rfl⟩, Heap.get?_none_of_le (by rw [hx]; exact Nat.le_succ _)⟩
    · cases List.mem_singleton.mp hp
      exact ⟨⟨_, edx, rfl⟩, Heap.get?_none_of_le (Nat.le_of_eq hdx)⟩) (by simp [hx, ← hdx])
  rw [List.append_nil] at H
  walk_at "asg"
  refine' fx_setSlot2 (instObj 117 dx) (p := 120) (i := 2) H hW.kin ?hj ?hj' ?hdx ?hcl ?hno ?hs ?hp ?ht ?hT ?hi ?hz ?he ?hf ?_
  walk_at "setslot"
  walk_at "asg"
  refine' fx_setSlot2 ({ instObj 117 dx with slots := #[none, none, some t] }) (p := 119) (i := 1) H hW.kin ?hj ?hj' ?hdx ?hcl ?hno ?hs ?hp ?ht ?hT ?hi ?hz ?he ?hf ?_
  walk_at "setslot"
  walk_at "asg"
  refine' fx_setSlot2 ({ instObj 117 dx with slots := #[none, some sz, some t] }) (p := 118) (i := 0) H hW.kin ?hj ?hj' ?hdx ?hcl ?hno ?hs ?hp ?ht ?hT ?hi ?hz ?he ?hf ?_
  walk_at "setslot"
  (repeat' (walk_at "s1")); refine ⟨rfl, hret x s₁ (S.trans H.same) H.keep ⟨dx, above_get (H.exact (i := 0) rfl) (by rw [hx]; exact Nat.le_succ _), above_get (H.exact (i := 1) rfl) (Nat.le_of_eq hdx)⟩⟩
set_option maxHeartbeats 2000000 in
theorem diff_new {w : World} {A : Around} {s : Shared} {n : Nat} {t sz sd ct cd : Value} {Q E : Value → Shared → Prop}
   (hA : AOk n A) (hn : n < 500) (W : Wd w s.heap)
   (hret : ∀ x s', Same s s' → s.heap.StaysIn s'.heap → DiffAt (above s.heap.objs.size s'.heap) x t sz sd ct cd → Q (.ref x) s') :
   wpAny (model Pg w) A (call (.ref 176) [t, sz, sd, ct, cd]) Q E s := by
  have hW := W
  walk_at "kf"
  refine' fx_make (C := 176) (fI := 137) hA W ?hm ?hi ?hf ?_
  case hm => k_is
  case hi => k_is
  case hf => k_is
  intro x dx s' A' hA' S k hdx hx ex edx hsz
  have W := W.mono k
  refine' fx_enterK (binds := [(Str.ofString "self", .ref x), (Str.ofString "traceback", t), (Str.ofString "size", sz), (Str.ofString "size_diff", sd), (Str.ofString "count", ct), (Str.ofString "count_diff", cd)]) (n := n + 1) hA' (by omega) W ?ho ?hcd ?hbind ?hloc ?h ?hco ?hgen ?hk ?hcell
  walk_at "enter"
  have H := H.less (ms := [(x, (· = instObj 176 dx)), (dx, (· = emptyDict))]) k (by
    intro p hp
    rcases List.mem_cons.mp hp with rfl | hp
    · exact ⟨⟨_, ex, rfl⟩, Heap.get?_none_of_le (by rw [hx]; exact Nat.le_succ _)⟩
    · cases List.mem_singleton.mp hp
      exact ⟨⟨_, edx, rfl⟩, Heap.get?_none_of_le (Nat.le_of_eq hdx)⟩) (by simp [hx, ← hdx])
  rw [List.append_nil] at H
  walk_at "asg"
  refine' fx_setSlot2 (instObj 176 dx) (p := 181) (i := 4) H hW.kin ?hj ?hj' ?hdx ?hcl ?hno ?hs ?hp ?ht ?hT ?hi ?hz ?he ?hf ?_
  walk_at "setslot"
  walk_at "asg"
  refine' fx_setSlot2 ({ instObj 176 dx with slots := #[none, none, none, none, some t] }) (p := 179) (i := 2) H hW.kin ?hj ?hj' ?hdx ?hcl ?hno ?hs ?hp ?ht ?hT ?hi ?hz ?he ?hf ?_
  walk_at "setslot"
  walk_at "asg"
  refine' fx_setSlot2 ({ instObj 176 dx with slots := #[none, none, some sz, none, some t] }) (p := 180) (i := 3) H hW.kin ?hj ?hj' ?hdx ?hcl ?hno ?hs ?hp ?ht ?hT ?hi ?hz ?he ?hf ?_
  walk_at "setslot"
  walk_at "asg"
  refine' fx_setSlot2 ({ instObj 176 dx with slots := #[none, none, some sz, some sd, some t] }) (p := 177) (i := 0) H hW.kin ?hj ?hj' ?hdx ?hcl ?hno ?hs ?hp ?ht ?hT ?hi ?hz ?he ?hf ?_
  walk_at "setslot"
  walk_at "asg"
  refine' fx_setSlot2 ({ instObj 176 dx with slots := #[some ct, none, some sz, some sd, some t] }) (p := 178) (i := 1) H hW.kin ?hj ?hj' ?hdx ?hcl ?hno ?hs ?hp ?ht ?hT ?hi ?hz ?he ?hf ?_
  walk_at "setslot"
  (repeat' (walk_at "s1")); refine ⟨rfl, hret x s₁ (S.trans H.same) H.keep ⟨dx, above_get (H.exact (i := 0) rfl) (by rw [hx]; exact Nat.le_succ _), above_get (H.exact (i := 1) rfl) (Nat.le_of_eq hdx)⟩⟩
abbrev ctxDict (hash : Int) (tk : Tok) (v : Value) : Obj := dictOf [⟨hash, .str (Str.ofString "root") tk, v⟩] 1
abbrev elemDict (hash hash2 : Int) (tk tk2 : Tok) (v : Value) : Obj := dictOf [⟨hash, .str (Str.ofString "root") tk, .none⟩, ⟨hash2, .str (Str.ofString "tag") tk2, v⟩] 2
def ElemAt (h : Heap) (x : Addr) (v : Value) : Prop := ∃ dx hash hash2 tk tk2, h.get? x = some (instObj 52 dx) ∧ h.get? dx = some (elemDict hash hash2 tk tk2 v)
theorem ElemAt.keeps {h h' : Heap} {x : Addr} {v : Value} (X : ElemAt h x v) (k : h.StaysIn h') : ElemAt h' x v := let ⟨dx, a, b, c, d, e, f⟩ := X; ⟨dx, a, b, c, d, k _ _ e, k _ _ f⟩
set_option maxHeartbeats 2000000 in
theorem ctx_new {w : World} {A : Around} {s : Shared} {n : Nat} {v : Value} {Q E : Value → Shared → Prop}
   (hA : AOk n A) (hn : n < 500) (W : Wd w s.heap)
   (hret : ∀ x dx s' hash tk, Same s s' → s.heap.StaysIn s'.heap → s.heap.objs.size = dx → x = s.heap.objs.size + 1 → s'.heap.get? x = some (instObj 52 dx) → s'.heap.get? dx = some (ctxDict hash tk v) → Q (.ref x) s') :
   wpAny (model Pg w) A (call (.ref 52) [v]) Q E s := by
  have hW := W
  walk_at "kf"
  refine' fx_make (C := 52) (fI := 49) hA W ?hm ?hi ?hf ?_
  case hm => k_is
  case hi => k_is
  case hf => k_is
  intro x dx s' A' hA' S k hdx hx ex edx hsz
  have W := W.mono k
  refine' fx_enterK (binds := [(Str.ofString "self", .ref x), (Str.ofString "root", v)]) (n := n + 1) hA' (by omega) W ?ho ?hcd ?hbind ?hloc ?h ?hco ?hgen ?hk ?hcell
  walk_at "enter"
  have H := H.less (ms := [(x, (· = instObj 52 dx)), (dx, (· = emptyDict))]) k (by
    intro p hp
    rcases List.mem_cons.mp hp with rfl | hp
    · exact ⟨⟨_, ex, rfl⟩, Heap.get?_none_of_le (by rw [hx]; exact Nat.le_succ _)⟩
    · cases List.mem_singleton.mp hp
      exact ⟨⟨_, edx, rfl⟩, Heap.get?_none_of_le (Nat.le_of_eq hdx)⟩) (by simp [hx, ← hdx])
  rw [List.append_nil] at H
  walk_at "asg"
  refine' fx_setOwn (es := []) (n := 0) (C := 52) (dx := dx) (j := 1) H hW.kin ⟨H.exact (i := 0) rfl, rfl, rfl, H.exact (i := 1) rfl⟩ rfl ?hj ?hs ?hp ?ht ?hh ?hl ?he ?_
  case hj => rfl
  case hs => k_is
  case hp => k_is
  case ht => k_is
  case hh => k_is
  case hl => rfl
  case he => intro t; show 1 ≤ 1000; decide
  clear H; intro s₁ t H
  dsimp only [List.set] at H
  (repeat' (walk_at "s1")); refine ⟨rfl, hret x dx s₁ _ t (S.trans H.same) H.keep hdx hx (H.exact (i := 0) rfl) (H.exact (i := 1) rfl)⟩
set_option maxHeartbeats 2000000 in
theorem law_element_c {w : World} {A : Around} {s : Shared} {n : Nat} {v : Value} {Q E : Value → Shared → Prop}
   (hA : AOk n A) (hn : n < 490) (W : Wd w s.heap)
   (hret : ∀ x s', Same s s' → s.heap.StaysIn s'.heap → ElemAt (above s.heap.objs.size s'.heap) x v → Q (.ref x) s') :
   wpAny (model Pg w) A (call (.ref 209) [v]) Q E s := by
  walk_at "kf"
  refine' fx_enter (binds := [(Str.ofString "tag", v)]) hA (by omega) W ?ho ?hcd ?hbind ?hloc ?h ?hco ?hgen ?hk ?hcell
  walk_at "enter"
  repeat' (walk_at "s1")
  walk_at "callK"
  refine ⟨H.keep, ctx_new hA' (by omega) (W.mono H.keep) ?_⟩
  intro x dx s₂ hash tk S k hdx hx ex edx
  have hlt := H.lt
  have hge : s.heap.objs.size ≤ s₁.heap.objs.size := hL ▸ Nat.le_of_lt hlt
  replace H := H.call S k
  replace H := H.adopt (p := (· = ctxDict hash tk .none)) (above_get edx (by rw [← hdx]; exact hge)) rfl (by rw [← hdx]; exact Nat.ne_of_gt hlt) (fun _ h => nomatch h)
  replace H := H.adopt (p := (· = instObj 52 dx)) (above_get ex (by rw [hx]; exact Nat.le_succ_of_le hge)) rfl (by rw [hx]; exact Nat.ne_of_gt (Nat.lt_succ_of_lt hlt)) (fun q hq => by cases List.mem_singleton.mp hq; rw [hx, ← hdx]; exact Nat.ne_of_lt (Nat.lt_succ_self _))
  walk_at "st"
  walk_at "asg"
  refine' fx_setOwn (es := [⟨hash, .str (Str.ofString "root") tk, .none⟩]) (n := 1) (C := 52) (dx := dx) (j := 1) H W.kin ⟨H.exact (i := 0) rfl, rfl, rfl, H.exact (i := 1) rfl⟩ rfl ?hj ?hs ?hp ?ht ?hh ?hl ?he ?_
  case hj => rfl
  case hs => k_is
  case hp => k_is
  case ht => k_is
  case hh => k_is
  case hl => rfl
  case he => intro t; show 2 ≤ 1000; decide
  clear H; intro s₁ t H
  dsimp only [List.set] at H
  walk_at "nx"
  repeat' (walk_at "s1")
  exact hret x s₁ H.same H.keep ⟨dx, _, _, _, _, above_get (H.exact (i := 0) rfl) (by rw [hx]; exact Nat.le_succ_of_le hge), above_get (H.exact (i := 1) rfl) (by rw [← hdx]; exact hge)⟩
def sl03 (t : PySem.Str) : PySem.Str := Txt.slice t none (some 3)
def slm2 (t : PySem.Str) : PySem.Str := Txt.slice t (some (-2)) none
def isWild (t : PySem.Str) : Bool := sl03 t == Str.ofString "{*}" || slm2 t == Str.ofString "}*"
set_option maxHeartbeats 2000000 in
theorem is_wild_c {w : World} {A : Around} {s : Shared} {n : Nat} {t : PySem.Str} {tk : Tok} {Q E : Value → Shared → Prop}
   (hA : AOk n A) (hn : n < 500) (W : Wd w s.heap) (hz : t.length ≤ 64)
   (hret : ∀ s', Same s s' → s.heap.StaysIn s'.heap → Q (.bool (isWild t)) s') :
   wpAny (model Pg w) A (call (.ref 28) [.str t tk]) Q E s := by
  walk_at "kf"
  refine' fx_enter (binds := [(Str.ofString "tag", .str t tk)]) hA (by omega) W ?ho ?hcd ?hbind ?hloc ?h ?hco ?hgen ?hk ?hcell
  walk_at "enter"
  repeat' (walk_at "s1")
  walk_at "sliceS"
  rotate_left
  · simp only [sizeLine]; omega
  repeat' (walk_at "s1")
  split
  · rename_i e
    rw [show (Txt.slice t none (some 3) == Str.ofString "{*}") = isWild t by rw [e]; unfold isWild sl03; rw [e]; rfl]
    repeat' (walk_at "s1")
    exact hret _ H.same H.keep
  · rename_i e
    repeat' (walk_at "s1")
    walk_at "sliceS"
    rotate_left
    · simp only [sizeLine]; omega
    repeat' (walk_at "s1")
    rw [show (Txt.slice t (some (-2)) none == Str.ofString "}*") = isWild t by unfold isWild sl03; rw [Bool.not_eq_true] at e; rw [e]; rfl]
    repeat' (walk_at "s1")
    exact hret _ H.same H.keep
set_option maxHeartbeats 2000000 in
theorem codeHd34 {w : World} {g : Heap} (W : Wd w g) : CodeHd g 34 30 := by
  walk_at "kf"
  exact ⟨_, _, _, _, _, _, _, _, _, W.kin 34 _ (by k_is), rfl, rfl, rfl, rfl, rfl, rfl, rfl, rfl, by decide⟩
section
variable {w : World} {A : Around} {E : Value → Shared → Prop} {s s₀ s₁ s' : Shared} {g : Heap} {env : Env} {sc scope : Scope} {L n₁ : Addr} {cl clos : List (Str × Addr)} {m : Str → Option Value} {ms : Mut} {params : Arguments} {body : List Stmt} {pos : Pos} {h₁ : Heap}
abbrev selN : Str := Str.ofString "select"
theorem def_sel {Q : Flow → Shared → Prop} (i : Nat) (V : EV env sc L cl) (hcode : env.code = .ref 34) (hqual : env.qual = Str.ofString "_prepare_tag" ++ Str.ofString ".<locals>.") (H : FX (s₀.heap.hide 30) L s₀ s m ms) (hi : ms[i]? = some (30, tabP g)) (W : Wd w (s₀.heap.hide 30)) (hg : g.StaysIn (s₀.heap.hide 30)) (hs : s₀.heap.objs.size ≤ s.heap.objs.size) (hcl : closureFor scope env = pure clos)
    (hd0 : params.defaults = []) (hk0 : params.kw_defaults = []) (ha : annTrees params none env = []) (hl : sc.names.lookup selN = some .local) (hk : sc.kind = .function)
    (h : ∀ f s' doc pm cv ctv n₁ h₁, s₀.heap.objs.size ≤ n₁ → (s₀.heap.hide 30).StaysIn h₁ → FX (ext (s₀.heap.hide 30) n₁ h₁) L s₀ s' (fun y => if y = selN then some (.ref f) else m y) (ms.set i (30, tabP (ext g n₁ h₁))) →
      (ext (s₀.heap.hide 30) n₁ h₁).get? f = some { cls := .type "function", data := .func (fnX selN selQ params body scope clos .none .none doc pm none cv ctv) } → (ext g n₁ h₁).CodeRec cv selQ → n₁ ≤ f → Q .next s') :
    wpAny (model Pg w) A (exec (.FunctionDef selN params body [] none [] scope none selN pos) env) Q E s := by
  refine nestDef_K hd0 hk0 ha ?_
  rw [show qualnameIn env selN selN = selQ by unfold qualnameIn Env.kindOf; rw [V.scope, hl, hqual]; rfl]
  refine fx_mkfun (i := i) V hcode H W (codeHd34 W) hi hg hcl fun f s' doc pm cv ctv hS hx H' ho hrec hge => ?_
  exact fx_st V H' (fun s'' H'' => h f s'' doc pm cv ctv _ _ hs (fun b o e => hx b o (fun q => by rw [q, Heap.hide_self] at e; cases e) (H.keep _ _ e)) H'' ho hrec hge) hl hk
/-- what _prepare_tag leaves -/
theorem prep_end {f : Addr} {fd : FuncData} {vs : List Value} {pz : Nat → Bool} {pre : List Stmt} {test : Expr} {pe py pr ypos epos ipos fpos : Pos} (i : Nat) (hg0 : g.StaysIn (s.heap.hide 30)) (hn : s.heap.objs.size ≤ n₁) (hk₁ : (s.heap.hide 30).StaysIn h₁) (H : FX (ext (s.heap.hide 30) n₁ h₁) L s s' m ms) (hi : ms[i]? = some (30, tabP (ext g n₁ h₁)))
    (ho : (ext (s.heap.hide 30) n₁ h₁).get? f = some { cls := .type "function", data := .func fd }) (hrec : (ext g n₁ h₁).CodeRec fd.code fd.qualname) (hf : n₁ ≤ f) (F : SelFn fd pre test pe py pr ypos epos ipos fpos)
    (hT : TurnG w (ext g s.heap.objs.size s'.heap) fd.scope fd.closure pre test vs pz) :
    Heap.ExtBut 30 s.heap s'.heap ∧ TabOK (ext g s.heap.objs.size s'.heap) s'.heap ∧ SelAt w (ext g s.heap.objs.size s'.heap) f vs pz := by
  have up : (ext g n₁ h₁).StaysIn (ext g s.heap.objs.size s'.heap) := ext_up (stays_trans (ext_mono hg0) H.keep) hn
  obtain ⟨⟨o, e, r⟩, -⟩ := H.at hi
  exact ⟨fun b o hb e => H.keep b o (ext_old hk₁ b o ((Heap.hide_ne _ hb).trans e)), ⟨o, e, r.up up⟩, fd, pre, test, pe, py, pr, ypos, epos, ipos, fpos, _, _, _, ext_new (H.keep _ _ ho) (Nat.le_trans hn hf), F, recUp hrec up, hT⟩
/-- elements, with their tags -/
def Els (g : Heap) (vs : List Value) (tg : Nat → Value) : Prop := ∀ i v, vs[i]? = some v → ∃ x, v = .ref x ∧ ElemAt g x (tg i) ∧ (tg i = .none ∨ ∃ u k, tg i = .str u k ∧ 1 ≤ u.length ∧ u.length ≤ 64)
theorem Els.keeps {h : Heap} {vs : List Value} {tg : Nat → Value} (x : Els g vs tg) (k : g.StaysIn h) : Els h vs tg := fun i v e => let ⟨a, b, c, d⟩ := x i v e; ⟨a, b, c.keeps k, d⟩
end

def passS (t u : PySem.Str) : Bool :=
  if t == Str.ofString "{*}*" then true
  else if t == Str.ofString "{}*" then Txt.item u 0 != Str.ofString "{"
  else if Txt.slice t none (some 3) == Str.ofString "{*}" then u == Txt.slice t (some 3) none || Txt.slice u (some (-((Txt.slice t (some 2) none).length : Int))) none == Txt.slice t (some 2) none
  else Txt.slice u none (some ((Txt.slice t none (some (-1))).length : Int)) == Txt.slice t none (some (-1))
def passes (t : PySem.Str) : Value → Bool
  | .str u _ => passS t u
  | _ => false
set_option maxHeartbeats 2000000 in
theorem fx_tag {w : World} {A : Around} {E : Value → Shared → Prop} {s s₀ : Shared} {g : Heap} {L x : Addr} {m : Str → Option Value} {ms : Mut} {v : Value} {b : Bool} {Q : Value → Shared → Prop} (H : FX g L s₀ s m ms) (W : Wd w g) (X : ElemAt g x v) (hv : handedIn v = true)
    (h : ∀ s', FX g L s₀ s' m ms → Q v s') : wpAny (model Pg w) A (getAttr (.ref x) (Str.ofString "tag") b) Q E s := by
  obtain ⟨dx, h1, h2, t1, t2, e1, e2⟩ := X
  walk_at "kf"
  refine' fx_getOwn (C := 52) (attr := none) (es := [⟨h1, .str (Str.ofString "root") t1, .none⟩, ⟨h2, .str (Str.ofString "tag") t2, v⟩]) (n := 2) H W.kin ⟨H.keep _ _ e1, rfl, rfl, H.keep _ _ e2⟩ ?hg ?hh ?ha ?hn ?hl hv h
  case hg => k_is
  case hh => k_is
  case ha => k_is
  case hn => k_is
  case hl => rfl
set_option maxHeartbeats 2000000 in
theorem prepare_c {w : World} {A : Around} {s : Shared} {n : Nat} {g : Heap} {t : PySem.Str} {tk : Tok} {vs : List Value} {pz : Nat → Bool} {Q E : Value → Shared → Prop}
   (hA : AOk n A) (hn : n < 500) (W : Wd w g) (hgs : g.StaysIn s.heap) (h30 : g.get? 30 = none) (hT : TabOK g s.heap) (hw : isWild t = true) (hz : t.length ≤ 64) {tg : Nat → Value} (El : Els g vs tg) (hpz : ∀ i, pz i = passes t (tg i))
   (hret : ∀ a s', Same s s' → Heap.ExtBut 30 s.heap s'.heap → TabOK (ext g s.heap.objs.size s'.heap) s'.heap → SelAt w (ext g s.heap.objs.size s'.heap) a vs pz → Q (.ref a) s') :
   wpAny (model Pg w) A (call (.ref 35) [.str t tk]) Q E s := by
  have hWg := W
  have hg0 : g.StaysIn (s.heap.hide 30) := fun b o e => (Heap.hide_ne _ (fun q => by rw [q, h30] at e; cases e)).trans (hgs _ _ e)
  have W := W.mono hg0
  have Wb := W
  have C := codeHd34 W
  walk_at "kf"
  refine' fx_enterM (fun L => [(Str.ofString "suffix", L + 7), (Str.ofString "ns_only", L + 6), (Str.ofString "ns", L + 5), (Str.ofString "no_ns", L + 4), (Str.ofString "_str", L + 3), (Str.ofString "_isinstance", L + 2), (Str.ofString "tag", L + 1)]) (fun y => none)
    (fun L => [(L + 7, cellP none), (L + 6, cellP none), (L + 5, cellP none), (L + 4, cellP none), (L + 3, cellP none), (L + 2, cellP none), (L + 1, cellP (some (.str t tk)))])
    [(Str.ofString "tag", .str t tk)] [(30, tabP g)] hA (by omega) W (fun _ _ e => Heap.of_hide e) ?h0 ?h00 ?ho ?hcd ?hbind ?hkind ?hnd ?hcl ?hml ?hms ?h ?hco ?hgen ?hk
  case h0 => intro p hp; cases List.mem_singleton.mp hp; exact ⟨hT, Heap.hide_self _ _⟩
  case h00 => simp
  walk_at "enterM"
  rw [List.cons_append, List.nil_append] at H
  walk_at "s1"
  refine Assign_Tuple ?_ (by rfl) (swapped_of V (by rfl))
  repeat' (walk_at "s1")
  refine fx_tuple H ?_ (by simp [sizeLine])
  clear H; intro a s₁ H hge
  obtain ⟨⟨o, ho, q1, n', q2⟩, -⟩ := H.at (i := 0) rfl
  refine fx_unpackT hA' H ⟨o, ho, q1, n', q2⟩ rfl rfl ?_
  clear H; intro s₁ H _
  refine in_order ?_
  walk_at "stc"
  refine in_order ?_
  walk_at "stc"
  refine in_order_nil ?_
  walk_at "nx"
  repeat' (walk_at "s1")
  replace H := H.drop (List.Sublist.cons _ (List.Sublist.refl _))
  have hge0 : s.heap.objs.size ≤ s₁.heap.objs.size := hL ▸ Nat.le_of_lt H.lt
  split
  · (rename_i ht)
    walk_at "s1"
    refine def_sel 0 V hcode hqual H rfl W hg0 (hL ▸ Nat.le_of_lt H.lt) (clos_of V (by rfl)) rfl rfl rfl rfl rfl ?_
    clear H; intro f s₁ doc pm cv ctv n₁ h₁ hn₁ hk₁ H ho hrec hf
    dsimp only [List.set] at H
    walk_at "nx"
    repeat' (walk_at "s1")
    refine (fun (h : _ ∧ _ ∧ _) => hret f s₁ H.same h.1 h.2.1 h.2.2) (prep_end (pre := []) 0 hg0 hn₁ hk₁ H rfl ho hrec hf ⟨rfl, rfl, rfl, rfl, rfl, rfl, rfl, rfl, rfl, rfl, fun _ _ => BindsTo.of_eq rfl⟩ ?_)
    have kE : g.StaysIn (ext g s.heap.objs.size s₁.heap) := ext_old (stays_trans hg0 (stays_trans (ext_old hk₁) H.keep))
    have c2 : (ext g s.heap.objs.size s₁.heap).IsCell (L + 2) _ := let ⟨⟨o, e, r⟩, _⟩ := H.at (i := 6) rfl; ⟨o, ext_new e (hL ▸ Nat.le_add_right _ _), r⟩
    have c3 : (ext g s.heap.objs.size s₁.heap).IsCell (L + 3) _ := let ⟨⟨o, e, r⟩, _⟩ := H.at (i := 5) rfl; ⟨o, ext_new e (hL ▸ Nat.le_add_right _ _), r⟩
    intro A env C G s₀ s m ms i v hh V hG H hm hv
    obtain ⟨x, rfl, Ex, htg⟩ := El i v hv
    have W := hWg.mono (stays_trans kE hG)
    have Ex := Ex.keeps (stays_trans kE hG)
    have c2 : G.IsCell _ _ := let ⟨o, e, r⟩ := c2; ⟨o, hG _ _ e, r⟩
    have c3 : G.IsCell _ _ := let ⟨o, e, r⟩ := c3; ⟨o, hG _ _ e, r⟩
    (repeat' (walk_at "s1")); refine ⟨rfl, ?_⟩
    refine isTrue_plain ?_
    repeat' (walk_at "s1")
    refine fx_tag H W Ex (by rcases htg with e | ⟨u, k, e, _⟩ <;> rw [e] <;> rfl) ?_
    clear H; intro s₁ H
    rw [show pz i = passes t (tg i) from hpz i]
    rcases htg with e | ⟨u, k, e, _⟩
    · rw [e]
      repeat' (walk_at "s1")
      exact ⟨rfl, m, H, hm⟩
    · rw [e]
      repeat' (walk_at "s1")
      exact ⟨by show true = passS t u; unfold passS; rw [if_pos ht], m, H, hm⟩
  · (rename_i ht1)
    repeat' (walk_at "s1")
    split
    · (rename_i ht)
      walk_at "s1"
      refine def_sel 0 V hcode hqual H rfl W hg0 (hL ▸ Nat.le_of_lt H.lt) (clos_of V (by rfl)) rfl rfl rfl rfl rfl ?_
      clear H; intro f s₁ doc pm cv ctv n₁ h₁ hn₁ hk₁ H ho hrec hf
      dsimp only [List.set] at H
      walk_at "nx"
      repeat' (walk_at "s1")
      refine (fun (h : _ ∧ _ ∧ _) => hret f s₁ H.same h.1 h.2.1 h.2.2) (prep_end (pre := [_]) 0 hg0 hn₁ hk₁ H rfl ho hrec hf ⟨rfl, rfl, rfl, rfl, rfl, rfl, rfl, rfl, rfl, rfl, fun _ _ => BindsTo.of_eq rfl⟩ ?_)
      have kE : g.StaysIn (ext g s.heap.objs.size s₁.heap) := ext_old (stays_trans hg0 (stays_trans (ext_old hk₁) H.keep))
      have c2 : (ext g s.heap.objs.size s₁.heap).IsCell (L + 2) _ := let ⟨⟨o, e, r⟩, _⟩ := H.at (i := 6) rfl; ⟨o, ext_new e (hL ▸ Nat.le_add_right _ _), r⟩
      have c3 : (ext g s.heap.objs.size s₁.heap).IsCell (L + 3) _ := let ⟨⟨o, e, r⟩, _⟩ := H.at (i := 5) rfl; ⟨o, ext_new e (hL ▸ Nat.le_add_right _ _), r⟩
      intro A env C G s₀ s m ms i v hh V hG H hm hv
      obtain ⟨x, rfl, Ex, htg⟩ := El i v hv
      have W := hWg.mono (stays_trans kE hG)
      have Ex := Ex.keeps (stays_trans kE hG)
      have c2 : G.IsCell _ _ := let ⟨o, e, r⟩ := c2; ⟨o, hG _ _ e, r⟩
      have c3 : G.IsCell _ _ := let ⟨o, e, r⟩ := c3; ⟨o, hG _ _ e, r⟩
      repeat' (walk_at "s1")
      refine fx_tag H W Ex (by rcases htg with e | ⟨u, k, e, _⟩ <;> rw [e] <;> rfl) ?_
      clear H; intro s₁ H
      walk_at "st"
      walk_at "nx"
      (repeat' (walk_at "s1")); refine ⟨rfl, ?_⟩
      rw [show pz i = passes t (tg i) from hpz i]
      replace hm := (show (if elemN = Str.ofString "el_tag" then some (tg i) else m elemN) = some (.ref x) from (if_neg (by decide)).trans hm)
      rcases htg with e | ⟨u, k, e, hu1, hu2⟩
      · rw [e] at H hm ⊢
        repeat' (walk_at "s1")
        exact ⟨rfl, _, H, hm⟩
      · rw [e] at H hm ⊢
        repeat' (walk_at "s1")
        refine Subscript_Constant ?_
        repeat' (walk_at "s1")
        refine fx_itemS H (by decide) (by omega) (by omega) ?_
        clear H; intro s₁ _ H
        repeat' (walk_at "s1")
        rw [show passes t (.str u k) = (Txt.item u 0 != Str.ofString "{") by show passS t u = _; unfold passS; rw [if_neg ht1, if_pos ht]]
        split
        · (rename_i e2)
          repeat' (walk_at "s1")
          exact ⟨e2.symm, _, H, hm⟩
        · (rename_i e2)
          exact ⟨(Bool.eq_false_iff.mpr e2).symm, _, H, hm⟩
    · (rename_i ht2)
      repeat' (walk_at "s1")
      walk_at "sliceS"
      rotate_left
      · simp only [sizeLine]; omega
      repeat' (walk_at "s1")
      split
      · (rename_i ht)
        repeat' (walk_at "s1")
        walk_at "sliceS"
        rotate_left
        · simp only [sizeLine]; omega
        repeat' (walk_at "s1")
        walk_at "stc"
        walk_at "nx"
        repeat' (walk_at "s1")
        refine fx_lenS H (by have := Txt.slice_le t (some 2) none; omega) ?_
        clear H; intro s₁ _ H
        repeat' (walk_at "s1")
        have hge1 : s.heap.objs.size ≤ s₁.heap.objs.size := hL ▸ Nat.le_of_lt H.lt
        refine fx_sliceC H ?_
        clear H; intro aS s₁ H hgeS
        walk_at "stc"
        walk_at "nx"
        repeat' (walk_at "s1")
        walk_at "sliceS"
        rotate_left
        · simp only [sizeLine]; omega
        repeat' (walk_at "s1")
        walk_at "stc"
        walk_at "nx"
        walk_at "s1"
        refine def_sel 1 V hcode hqual H rfl W hg0 (hL ▸ Nat.le_of_lt H.lt) (clos_of V (by rfl)) rfl rfl rfl rfl rfl ?_
        clear H; intro f s₁ doc pm cv ctv n₁ h₁ hn₁ hk₁ H ho hrec hf
        dsimp only [List.set] at H
        walk_at "nx"
        repeat' (walk_at "s1")
        refine (fun (h : _ ∧ _ ∧ _) => hret f s₁ H.same h.1 h.2.1 h.2.2) (prep_end (pre := [_]) 1 hg0 hn₁ hk₁ H rfl ho hrec hf ⟨rfl, rfl, rfl, rfl, rfl, rfl, rfl, rfl, rfl, rfl, fun _ _ => BindsTo.of_eq rfl⟩ ?_)
        have kE : g.StaysIn (ext g s.heap.objs.size s₁.heap) := ext_old (stays_trans hg0 (stays_trans (ext_old hk₁) H.keep))
        have c1 : (ext g s.heap.objs.size s₁.heap).IsCell (L + 1) _ := let ⟨⟨o, e, r⟩, _⟩ := H.at (i := 8) rfl; ⟨o, ext_new e (hL ▸ Nat.le_add_right _ _), r⟩
        have c2 : (ext g s.heap.objs.size s₁.heap).IsCell (L + 2) _ := let ⟨⟨o, e, r⟩, _⟩ := H.at (i := 7) rfl; ⟨o, ext_new e (hL ▸ Nat.le_add_right _ _), r⟩
        have c3 : (ext g s.heap.objs.size s₁.heap).IsCell (L + 3) _ := let ⟨⟨o, e, r⟩, _⟩ := H.at (i := 6) rfl; ⟨o, ext_new e (hL ▸ Nat.le_add_right _ _), r⟩
        have c4 : (ext g s.heap.objs.size s₁.heap).IsCell (L + 4) _ := let ⟨⟨o, e, r⟩, _⟩ := H.at (i := 5) rfl; ⟨o, ext_new e (hL ▸ Nat.le_add_right _ _), r⟩
        have c7 : (ext g s.heap.objs.size s₁.heap).IsCell (L + 7) _ := let ⟨⟨o, e, r⟩, _⟩ := H.at (i := 2) rfl; ⟨o, ext_new e (hL ▸ Nat.le_add_right _ _), r⟩
        have cs : (ext g s.heap.objs.size s₁.heap).get? aS = some _ := ext_new (H.exact (i := 0) rfl) (Nat.le_trans hge1 hgeS)
        intro A env C G s₀ s m ms i v hh V hG H hm hv
        obtain ⟨x, rfl, Ex, htg⟩ := El i v hv
        have W := hWg.mono (stays_trans kE hG)
        have Ex := Ex.keeps (stays_trans kE hG)
        have c1 : G.IsCell _ _ := let ⟨o, e, r⟩ := c1; ⟨o, hG _ _ e, r⟩
        have c2 : G.IsCell _ _ := let ⟨o, e, r⟩ := c2; ⟨o, hG _ _ e, r⟩
        have c3 : G.IsCell _ _ := let ⟨o, e, r⟩ := c3; ⟨o, hG _ _ e, r⟩
        have c4 : G.IsCell _ _ := let ⟨o, e, r⟩ := c4; ⟨o, hG _ _ e, r⟩
        have c7 : G.IsCell _ _ := let ⟨o, e, r⟩ := c7; ⟨o, hG _ _ e, r⟩
        have cs := hG _ _ cs
        repeat' (walk_at "s1")
        refine fx_tag H W Ex (by rcases htg with e | ⟨u, k, e, _⟩ <;> rw [e] <;> rfl) ?_
        clear H; intro s₁ H
        walk_at "st"
        walk_at "nx"
        (repeat' (walk_at "s1")); refine ⟨rfl, ?_⟩
        rw [show pz i = passes t (tg i) from hpz i]
        replace hm := (show (if elemN = Str.ofString "el_tag" then some (tg i) else m elemN) = some (.ref x) from (if_neg (by decide)).trans hm)
        rcases htg with e | ⟨u, k, e, hu1, hu2⟩
        · rw [e] at H hm ⊢
          repeat' (walk_at "s1")
          exact ⟨rfl, _, H, hm⟩
        · rw [e] at H hm ⊢
          rw [show passes t (.str u k) = (u == Txt.slice t (some 3) none || Txt.slice u (some (-((Txt.slice t (some 2) none).length : Int))) none == Txt.slice t (some 2) none) by show passS t u = _; unfold passS; rw [if_neg ht1, if_neg ht2, if_pos ht]]
          repeat' (walk_at "s1")
          split
          · (rename_i e2)
            exact ⟨by rw [e2]; rfl, _, H, hm⟩
          · (rename_i e2)
            rw [Bool.eq_false_iff.mpr e2, Bool.false_or]
            repeat' (walk_at "s1")
            refine Subscript_Name ?_
            repeat' (walk_at "s1")
            refine fx_subS (l := some (_, _)) (u := none) H ⟨_, H.keep _ _ cs, rfl, rfl⟩ (by simp only [sizeLine]; omega) ?_
            clear H; intro s₁ _ H
            dsimp only [Option.map]
            repeat' (walk_at "s1")
            split
            · (rename_i e3)
              repeat' (walk_at "s1")
              exact ⟨e3.symm, _, H, hm⟩
            · (rename_i e3)
              repeat' (walk_at "s1")
              exact ⟨(Bool.eq_false_iff.mpr e3).symm, _, H, hm⟩
      · (rename_i ht3)
        repeat' (walk_at "s1")
        walk_at "sliceS"
        rotate_left
        · simp only [sizeLine]; omega
        repeat' (walk_at "s1")
        have ht4 : (Txt.slice t (some (-2)) none == Str.ofString "}*") = true := by
          unfold isWild sl03 slm2 at hw
          rw [Bool.eq_false_iff.mpr ht3, Bool.false_or] at hw
          exact hw
        rw [if_pos ht4]
        repeat' (walk_at "s1")
        walk_at "sliceS"
        rotate_left
        · simp only [sizeLine]; omega
        repeat' (walk_at "s1")
        walk_at "stc"
        walk_at "nx"
        repeat' (walk_at "s1")
        refine fx_lenS H (by have := Txt.slice_le t none (some (-1)); omega) ?_
        clear H; intro s₁ _ H
        repeat' (walk_at "s1")
        have hge1 : s.heap.objs.size ≤ s₁.heap.objs.size := hL ▸ Nat.le_of_lt H.lt
        refine fx_sliceC H ?_
        clear H; intro aS s₁ H hgeS
        walk_at "stc"
        walk_at "nx"
        walk_at "s1"
        refine def_sel 1 V hcode hqual H rfl W hg0 (hL ▸ Nat.le_of_lt H.lt) (clos_of V (by rfl)) rfl rfl rfl rfl rfl ?_
        clear H; intro f s₁ doc pm cv ctv n₁ h₁ hn₁ hk₁ H ho hrec hf
        dsimp only [List.set] at H
        walk_at "nx"
        repeat' (walk_at "s1")
        refine (fun (h : _ ∧ _ ∧ _) => hret f s₁ H.same h.1 h.2.1 h.2.2) (prep_end (pre := [_]) 1 hg0 hn₁ hk₁ H rfl ho hrec hf ⟨rfl, rfl, rfl, rfl, rfl, rfl, rfl, rfl, rfl, rfl, fun _ _ => BindsTo.of_eq rfl⟩ ?_)
        have kE : g.StaysIn (ext g s.heap.objs.size s₁.heap) := ext_old (stays_trans hg0 (stays_trans (ext_old hk₁) H.keep))
        have c2 : (ext g s.heap.objs.size s₁.heap).IsCell (L + 2) _ := let ⟨⟨o, e, r⟩, _⟩ := H.at (i := 7) rfl; ⟨o, ext_new e (hL ▸ Nat.le_add_right _ _), r⟩
        have c3 : (ext g s.heap.objs.size s₁.heap).IsCell (L + 3) _ := let ⟨⟨o, e, r⟩, _⟩ := H.at (i := 6) rfl; ⟨o, ext_new e (hL ▸ Nat.le_add_right _ _), r⟩
        have c5 : (ext g s.heap.objs.size s₁.heap).IsCell (L + 5) _ := let ⟨⟨o, e, r⟩, _⟩ := H.at (i := 4) rfl; ⟨o, ext_new e (hL ▸ Nat.le_add_right _ _), r⟩
        have c6 : (ext g s.heap.objs.size s₁.heap).IsCell (L + 6) _ := let ⟨⟨o, e, r⟩, _⟩ := H.at (i := 3) rfl; ⟨o, ext_new e (hL ▸ Nat.le_add_right _ _), r⟩
        have cs : (ext g s.heap.objs.size s₁.heap).get? aS = some _ := ext_new (H.exact (i := 0) rfl) (Nat.le_trans hge1 hgeS)
        intro A env C G s₀ s m ms i v hh V hG H hm hv
        obtain ⟨x, rfl, Ex, htg⟩ := El i v hv
        have W := hWg.mono (stays_trans kE hG)
        have Ex := Ex.keeps (stays_trans kE hG)
        have c2 : G.IsCell _ _ := let ⟨o, e, r⟩ := c2; ⟨o, hG _ _ e, r⟩
        have c3 : G.IsCell _ _ := let ⟨o, e, r⟩ := c3; ⟨o, hG _ _ e, r⟩
        have c5 : G.IsCell _ _ := let ⟨o, e, r⟩ := c5; ⟨o, hG _ _ e, r⟩
        have c6 : G.IsCell _ _ := let ⟨o, e, r⟩ := c6; ⟨o, hG _ _ e, r⟩
        have cs := hG _ _ cs
        repeat' (walk_at "s1")
        refine fx_tag H W Ex (by rcases htg with e | ⟨u, k, e, _⟩ <;> rw [e] <;> rfl) ?_
        clear H; intro s₁ H
        walk_at "st"
        walk_at "nx"
        (repeat' (walk_at "s1")); refine ⟨rfl, ?_⟩
        rw [show pz i = passes t (tg i) from hpz i]
        replace hm := (show (if elemN = Str.ofString "el_tag" then some (tg i) else m elemN) = some (.ref x) from (if_neg (by decide)).trans hm)
        rcases htg with e | ⟨u, k, e, hu1, hu2⟩
        · rw [e] at H hm ⊢
          repeat' (walk_at "s1")
          exact ⟨rfl, _, H, hm⟩
        · rw [e] at H hm ⊢
          rw [show passes t (.str u k) = (Txt.slice u none (some ((Txt.slice t none (some (-1))).length : Int)) == Txt.slice t none (some (-1))) by show passS t u = _; unfold passS; rw [if_neg ht1, if_neg ht2, if_neg ht3]]
          repeat' (walk_at "s1")
          refine Subscript_Name ?_
          repeat' (walk_at "s1")
          refine fx_subS (l := none) (u := some (_, _)) H ⟨_, H.keep _ _ cs, rfl, rfl⟩ (by simp only [sizeLine]; omega) ?_
          clear H; intro s₁ _ H
          dsimp only [Option.map]
          repeat' (walk_at "s1")
          split
          · (rename_i e3)
            repeat' (walk_at "s1")
            exact ⟨e3.symm, _, H, hm⟩
          · (rename_i e3)
            repeat' (walk_at "s1")
            exact ⟨(Bool.eq_false_iff.mpr e3).symm, _, H, hm⟩
structure TagsOK (T : List Tag) : Prop where
  small : Small T
  nodup : (T.map (·.1)).Nodup
  short : ∀ t ∈ T, PySem.PyData.strOk t.1 = true ∧ 1 ≤ t.1.length
  sel : ∀ t ∈ T, ∀ u ∈ T.drop 7, (if isWild t.1 = true then passS t.1 u.1 else u.1 == t.1) = hits t.2 u
  single : ∀ u ∈ T.drop 7, ∀ c b, (hits c u && hits b u) = hits (c &&& b) u
  full : ∀ t ∈ T, ∀ c, hits c t = (countOf T (c &&& t.2) != 0)
def rowOf (T : List Tag) (c : Nat) (h : Heap) (t : Tag) (kv : PySem.Str × Value) : Prop :=
  ∃ (x : Addr) (tk t1 t2 : Tok), kv = (t.1, .ref x) ∧ StatAt h x (.str t.1 tk) (.int (sizeOf' T (c &&& t.2)) t1) (.int (countOf T (c &&& t.2)) t2)
def GroupAt (w : World) (h : Heap) (d : Addr) (T : List Tag) (c : Nat) : Prop := ∃ kvs, h.DictOf (strKind Pg w) d kvs ∧ Paired (rowOf T c h) (T.filter (hits c)) kvs
theorem StatAt.keeps {h h' : Heap} {x : Addr} {t sz ct : Value} (X : StatAt h x t sz ct) (k : h.StaysIn h') : StatAt h' x t sz ct := let ⟨dx, a, b⟩ := X; ⟨dx, k _ _ a, k _ _ b⟩
theorem rowOf.keeps {T : List Tag} {c : Nat} {h h' : Heap} {t : Tag} {kv : PySem.Str × Value} (x : rowOf T c h t kv) (k : h.StaysIn h') : rowOf T c h' t kv := let ⟨x, tk, t1, t2, e, s⟩ := x; ⟨x, tk, t1, t2, e, s.keeps k⟩
theorem names_and {T : List Tag} (ok : TagsOK T) (c b : Nat) : (namesOf T c).filter (hits b) = namesOf T (c &&& b) := by
  unfold namesOf
  rw [List.filter_filter]
  refine List.filter_congr fun u hu => ?_
  rw [← ok.single u hu c b, Bool.and_comm]
theorem found_eq {T : List Tag} (ok : TagsOK T) {t : Tag} (ht : t ∈ T) (c : Nat) : (namesOf T c).filter (fun u => if isWild t.1 = true then passS t.1 u.1 else u.1 == t.1) = namesOf T (c &&& t.2) := by
  rw [← names_and ok]
  refine List.filter_congr fun u hu => ok.sel t ht u ?_
  exact (List.mem_filter.mp hu).1
theorem els_of {h : Heap} {x0 : Addr} {l : List Tag} {ys : List Value} (P : Paired (fun (t : Tag) y => ∃ (x : Addr) (tk : Tok), y = Value.ref x ∧ ElemAt h x (.str t.1 tk)) l ys) (El0 : ElemAt h x0 .none) (hs : ∀ t ∈ l, 1 ≤ t.1.length ∧ t.1.length ≤ 64) :
    ∃ tg : Nat → Value, Els h (.ref x0 :: ys) tg ∧ tg 0 = .none ∧ ∀ i t, l[i]? = some t → ∃ k, tg (i + 1) = .str t.1 k := by
  have : ∃ tvs : List Value, (∀ (j : Nat) (y : Value), ys[j]? = some y → ∃ (x : Addr) (t : Tag) (k : Tok), l[j]? = some t ∧ y = Value.ref x ∧ tvs[j]? = some (Value.str t.1 k) ∧ ElemAt h x (Value.str t.1 k)) ∧ ∀ (j : Nat) (t : Tag), l[j]? = some t → ∃ k : Tok, tvs[j]? = some (Value.str t.1 k) := by
    clear hs
    induction P with
    | nil => exact ⟨[], fun j y e => by simp at e, fun j t e => by simp at e⟩
    | @cons t y l ys f _ ih =>
      obtain ⟨tvs, h1, h2⟩ := ih
      obtain ⟨x, tk, rfl, El⟩ := f
      refine ⟨Value.str t.1 tk :: tvs, fun j y e => ?_, fun j u e => ?_⟩
      · cases j with
        | zero => cases e; exact ⟨x, t, tk, rfl, rfl, rfl, El⟩
        | succ j => exact h1 j y e
      · cases j with
        | zero => cases e; exact ⟨tk, rfl⟩
        | succ j => exact h2 j u e
  obtain ⟨tvs, h1, h2⟩ := this
  refine ⟨fun i => ((Value.none :: tvs)[i]?).getD .none, fun i v e => ?_, rfl, fun i t e => ?_⟩
  · cases i with
    | zero => cases e; exact ⟨x0, rfl, El0, .inl rfl⟩
    | succ i =>
      obtain ⟨x, t, k, e1, rfl, e2, El⟩ := h1 i v e
      have e3 : (((Value.none :: tvs)[i + 1]?).getD Value.none) = .str t.1 k := by rw [List.getElem?_cons_succ, e2]; rfl
      refine ⟨x, rfl, ?_, .inr ⟨t.1, k, e3, hs t (List.mem_of_getElem? e1)⟩⟩
      show ElemAt h x (((Value.none :: tvs)[i + 1]?).getD Value.none)
      rw [e3]; exact El
  · obtain ⟨k, e2⟩ := h2 i t e
    exact ⟨k, by show (((Value.none :: tvs)[i + 1]?).getD Value.none) = _; rw [List.getElem?_cons_succ, e2]; rfl⟩
theorem found_strs {l : List Tag} {tg : Nat → Value} {q : Tag → Bool} {p : Nat → Bool} {ys : List Value} (h : ∀ i t, l[i]? = some t → ∃ k, tg (i + 1) = .str t.1 k) (hp0 : p 0 = false) (hp : ∀ i t, l[i]? = some t → p (i + 1) = q t)
    (P : Paired (fun i y => y = tg i) ((List.range (l.length + 1)).filter p) ys) : StrsAre ys ((l.filter q).map (·.1)) := by
  have P2 := range_filter_get ((none : Option Tag) :: l.map some) (fun o => o.any q) p (fun i a e => by
      cases i with
      | zero => cases e; exact hp0
      | succ i =>
        rw [List.getElem?_cons_succ, List.getElem?_map] at e
        obtain ⟨t, e1, rfl⟩ := Option.map_eq_some_iff.mp e
        exact hp i t e1) (G := fun (o : Option Tag) y => ∀ t, o = some t → ∃ k, y = Value.str t.1 k) (by simpa using P) (fun i a y e f t ea => by
      cases i with
      | zero => cases e; cases ea
      | succ i =>
        rw [List.getElem?_cons_succ, List.getElem?_map] at e
        obtain ⟨u, e1, rfl⟩ := Option.map_eq_some_iff.mp e
        cases ea
        obtain ⟨k, hk⟩ := h i _ e1
        exact ⟨k, f.trans hk⟩)
  have e : ((none : Option Tag) :: l.map some).filter (fun o => o.any q) = (l.filter q).map some := by
    rw [List.filter_cons_of_neg (by simp), List.filter_map]
    rfl
  rw [e] at P2
  clear e P hp hp0 h
  generalize l.filter q = l' at P2
  induction l' generalizing ys with
  | nil => cases P2; exact .nil
  | cons t r ih =>
    cases P2 with
    | cons f P2 =>
      obtain ⟨k, rfl⟩ := f t rfl
      exact .cons _ _ (ih P2)
theorem ext_ext {g G h : Heap} {n n' : Nat} (hn : n ≤ n') : (ext (ext g n G) n' h).StaysIn (ext g n (ext G n' h)) := fun b o e => by
  have e1 := ext_in b o e
  rcases ext_or e with q | q
  · obtain ⟨o', e'⟩ := Option.isSome_iff_exists.mp q
    exact ext_keep (ext_keep e1 (.inl (by rw [ext_in _ _ e']; rfl))) (ext_or e')
  · exact ext_keep (ext_keep e1 (.inr q)) (.inr (Nat.le_trans hn q))
theorem ext_grow {g G G' : Heap} {n : Nat} (k : G.StaysIn G') : (ext g n G).StaysIn (ext g n G') := fun b o e => ext_keep (k _ _ (ext_in b o e)) (ext_or e)
theorem above_keep {n n' : Nat} {h h' : Heap} (k : (above n h).StaysIn h') (hn : n' ≤ n) : (above n h).StaysIn (above n' h') := fun b o e => above_get (k b o e) (Nat.le_trans hn (above_ge e))
theorem reads_strs {h : Heap} {D : Addr} {fs : List Value} {ss : List PySem.Str} (hl : h.IsList D fs.toArray) (hs : StrsAre fs ss) : Reads h (.ref D) (.list (ss.map .str)) [D] := by
  obtain ⟨o, e, hc, n, hd⟩ := hl
  have all : ∀ {fs : List Value} {ss : List PySem.Str}, StrsAre fs ss → ReadsAll h fs (ss.map PyData.str) [] := by
    intro fs ss hs
    induction hs with
    | nil => exact .nil
    | cons x t _ ih => exact ReadsAll.cons (as := []) (bs := []) (.str _ _) ih
  exact Reads.list e hc hd (by simpa using all hs)
theorem eqv_strs_nil (ss : List PySem.Str) : PyData.eqv (.list (ss.map .str)) (.list []) = ss.isEmpty := by cases ss <;> simp [PyData.eqv, PyData.eqvAll]
theorem shaped_strs {ss : List PySem.Str} (h : ∀ x ∈ ss, PyData.strOk x = true) : PySem.SeqAt.shaped (.list (ss.map .str)) = true := by
  have h1 : PyData.canLayAll0 (ss.map .str) = true := by
    induction ss with
    | nil => rfl
    | cons x r ih => simp only [List.map_cons, PyData.canLayAll0, PyData.canLay0, Bool.and_eq_true]; exact ⟨h x (by simp), ih fun y hy => h y (List.mem_cons_of_mem _ hy)⟩
  have h2 : PyData.depthAll (ss.map .str) = 0 := by
    clear h h1
    induction ss with
    | nil => rfl
    | cons x r ih => simp [PyData.depthAll, PyData.depth, ih]
  unfold PySem.SeqAt.shaped
  simp only [PyData.canLay0, h1, PyData.depth, h2]
  rfl
theorem rows_keys {T : List Tag} {c : Nat} {h : Heap} {l : List Tag} {kvs : List (PySem.Str × Value)} (P : Paired (rowOf T c h) l kvs) : kvs.map (·.1) = l.map (·.1) := by
  induction P with
  | nil => rfl
  | cons f _ ih => obtain ⟨x, tk, t1, t2, rfl, _⟩ := f; simp [ih]
theorem fresh_key {T : List Tag} (nd : (T.map (·.1)).Nodup) {i : Nat} {t : Tag} (ht : T[i]? = some t) (q : Tag → Bool) : t.1 ∉ ((T.take i).filter q).map (·.1) := fun hm => by
  obtain ⟨u, hu, e⟩ := List.mem_map.mp hm
  have hu := (List.mem_filter.mp hu).1
  have hT : T = T.take i ++ (t :: T.drop (i + 1)) := by
    obtain ⟨hlt, rfl⟩ := List.getElem?_eq_some_iff.mp ht
    rw [← List.drop_eq_getElem_cons hlt, List.take_append_drop]
  rw [hT, List.map_append] at nd
  exact (List.nodup_append.mp nd).2.2 _ (List.mem_map_of_mem hu) _ (List.mem_map_of_mem (List.mem_cons_self ..)) e
theorem take_filter {T : List Tag} {i : Nat} {t : Tag} (ht : T[i]? = some t) (q : Tag → Bool) : (T.take (i + 1)).filter q = (T.take i).filter q ++ (if q t = true then [t] else []) := by
  rw [List.take_add_one, ht, List.filter_append]
  simp [List.filter_cons]
abbrev viewObj (d : Addr) : Obj := { cls := .type "dict_items", data := .fields #[.ref d] }
def itP (d : Addr) (i n ep : Nat) (o : Obj) : Prop := ∃ ok ov, o = { cls := .type "dict_itemiterator", dict := none, data := .fields #[.none, .bool false, .ref d, .int i 0, .int n 0, .int ep 0, ok, ov], slots := #[] }
section
variable {prog : Program} {w : World} {A : Around} {E : Value → Shared → Prop} {s s₀ : Shared} {g : Heap} {env : Env} {sc : Scope} {L d v : Addr} {cl : List (Str × Addr)} {m : Str → Option Value} {ms : Mut} {pos : Pos} {n : Nat} {kvs : List (Str × Value)} {elts : List Expr} {kk : Nat} {tpos : Pos} {body : List Stmt} {k : Str} {tk : Tok} {pl : Sem Bool}
theorem fx_getM {Q : Value × List Value → Shared → Prop} {name : Str} {id : String} (hD : s.heap.DictOf (strKind prog w) d kvs) (slot : Slot "dict" name id) (hty : typeOf (.builtin id) = pure (.type "method_descriptor")) (h : Q (.builtin id, [.ref d]) s) :
    wpAny (model prog w) A (getMethod (.ref d) name pl) Q E s := getMethod_builtin hD.typeIs PySem.F.plainAttrs_dict slot hty hD.mapOf.noDict h
theorem fx_items {Q : Value → Shared → Prop} (H : FX g L s₀ s m ms) (hD : s.heap.DictOf (strKind prog w) d kvs) (hdS : (d == sysModules) = false) (h : ∀ v s', FX g L s₀ s' m ((v, (· = viewObj d)) :: ms) → Q (.ref v) s') :
    wpAny (model prog w) A (call (.builtin "dict.items") [.ref d]) Q E s :=
  call_meetsIn PySem.F.slot_dict_items hD.typeIs PySem.F.entry_dict_items (PySem.F.args_dict_items_1 _) (meets_dict_items (strKind prog w) d hdS) ⟨⟨kvs, hD⟩, h _ _ (H.to' (H.fh.push rfl rfl))⟩
theorem fx_popHit {i : Nat} {x dflt : Value} {Q : Value → Shared → Prop} (H : FX g L s₀ s m ms) (hi : ms[i]? = some (d, dictP prog w kvs)) (hsz : kvs.length ≤ sizeLine) (hv : valueAt kvs k = some x)
    (h : ∀ s', FX g L s₀ s' m (ms.set i (d, dictP prog w (without kvs k))) → Q x s') : wpAny (model prog w) A (call (.builtin "dict.pop") [.ref d, .str k tk, dflt]) Q E s :=
  call_meetsIn PySem.F.slot_dict_pop (H.dict hi).typeIs PySem.F.entry_dict_pop (PySem.F.args_dict_pop_3 _ _ _) (meets_dict_pop_there (strKind prog w) d (strKind_is prog w k tk) [dflt] (.inr ⟨dflt, rfl⟩) rfl)
    ⟨kvs, x, H.dict hi, hsz, hv, fun h' hd hs => by
      obtain ⟨o, ho, hp⟩ := dictP.of (s := { s with heap := h', toks := s.toks + 1 }) hd
      exact h _ (H.to (H.fh.upd hi hs.extBut ho hp))⟩
theorem fx_popMiss {i : Nat} {dflt : Value} {Q : Value → Shared → Prop} (H : FX g L s₀ s m ms) (hi : ms[i]? = some (d, dictP prog w kvs)) (hdS : (d == sysModules) = false) (hv : valueAt kvs k = none)
    (h : ∀ s', FX g L s₀ s' m ms → Q dflt s') : wpAny (model prog w) A (call (.builtin "dict.pop") [.ref d, .str k tk, dflt]) Q E s :=
  call_meetsIn PySem.F.slot_dict_pop (H.dict hi).typeIs PySem.F.entry_dict_pop (PySem.F.args_dict_pop_3 _ _ _) (meets_dict_pop_default (strKind prog w) d (strKind_is prog w k tk) hdS rfl dflt) ⟨kvs, H.dict hi, hv, h _ H.tok⟩
/-- a loop over a dict's items -/
theorem fx_for_items {ep : Nat} {Q : Flow → Shared → Prop} (P : Nat → Heap → (Str → Option Value) → Mut → Prop) (hA : AOk n A) (H : FX g L s₀ s m ((v, (· = viewObj d)) :: ms)) (hd : g.DictAt (strKind prog w) d kvs ep) (hP : P 0 g m ms)
    (step : ∀ i k x tk, kvs[i]? = some (k, x) → ∀ G m ms I s a, g.StaysIn G → P i G m ms → FX G L s₀ s m ((I, itP d (i + 1) kvs.length ep) :: ms) → s.heap.IsTuple a #[.str k tk, x] →
      wpAny (model prog w) A (assign (.Tuple elts kk tpos) env (.ref a)) (fun _ s₂ => wpAny (model prog w) A (execs body env) (fun f s₃ => match f with
        | .next | .cont => ∃ G' m' ms', G.StaysIn G' ∧ P (i + 1) G' m' ms' ∧ FX G' L s₀ s₃ m' ((I, itP d (i + 1) kvs.length ep) :: ms')
        | .brk => Q .next s₃
        | .ret v => Q (.ret v) s₃) (fun _ _ => False) s₂) (fun _ _ => False) s)
    (done : ∀ G m ms s, g.StaysIn G → P kvs.length G m ms → FX G L s₀ s m ms → Q .next s) :
    wpAny (model prog w) A (pyIter (.ref v)) (fun it s₂ => codeAny (model prog w) A (.forLoop (.Tuple elts kk tpos) it body [] env) (fun r s' => match r with | .ok f => Q f s' | .error e => cameBackBy (model prog w) A env E e s') s₂) E s := by
  have hdk : ∀ {h : Heap}, g.StaysIn h → h.DictAt (strKind prog w) d kvs ep := fun k => hd.at fun o e => k _ o e
  refine wpAny_pyIter_items (knd := strKind prog w) ⟨_, H.exact (i := 0) rfl, rfl, rfl⟩ (hdk H.keep) ?_
  have H1 := (H.drop (List.Sublist.cons _ (List.Sublist.refl _))).to' ((H.drop (List.Sublist.cons _ (List.Sublist.refl _))).fh.push (o := { cls := .type "dict_itemiterator", data := .fields #[.none, .bool false, .ref d, .int 0 0, .int kvs.length 0, .int ep 0, .none, .none] }) rfl (p := itP d 0 kvs.length ep) ⟨_, _, rfl⟩)
  generalize hI : s.heap.objs.size = I at H1
  refine for_loop (fun k s' => ∃ G m ms i, k = kvs.length + 1 - i ∧ i ≤ kvs.length ∧ g.StaysIn G ∧ P i G m ms ∧ FX G L s₀ s' m ((I, itP d i kvs.length ep) :: ms)) ?_ (kvs.length + 1) ⟨g, m, ms, 0, rfl, Nat.zero_le _, stays_refl _, hP, H1⟩
  rintro k s' ⟨G, m, ms, i, rfl, hi, hG, hP, H⟩
  obtain ⟨⟨o, ho, ok, ov, rfl⟩, hIL, hIG⟩ := H.at (i := 0) rfl
  have hdd := hdk (stays_trans hG H.keep)
  rcases Nat.lt_or_ge i kvs.length with hlt | hge
  · obtain ⟨⟨k, x⟩, hx⟩ : ∃ p, kvs[i]? = some p := ⟨kvs[i], by simp [hlt]⟩
    refine wpAny_pyNext_items_item (knd := strKind prog w) ho hdd hx fun key h₁ hkey heo ht₁ hz₁ hk₁ => ?_
    obtain ⟨tk, rfl⟩ := Value.isStrOf_shape hkey
    refine wpAny_letOwnedTupleGo_items (s := { s' with heap := h₁ }) heo fun h₂ he₂ hs₂ => ?_
    have hII : I < s'.heap.objs.size := Heap.lt_size ho
    have hx2 : Heap.ExtBut I s'.heap h₂ := fun b o hb e => (hs₂.2 b hb).trans (hk₁ b o hb e)
    have H2 : FX G L s₀ { s' with heap := h₂ } m ((I, itP d (i + 1) kvs.length ep) :: ms) := H.upd (i := 0) rfl hx2 he₂ ⟨_, _, rfl⟩
    have ht₂ : h₂.IsTuple s'.heap.objs.size #[.str k tk, x] := ⟨_, (hs₂.2 _ (Nat.ne_of_gt hII)).trans ht₁, rfl, _, rfl⟩
    refine wpAny_mono (step i k x tk hx G m ms I _ _ hG hP H2 ht₂) (fun _ s₂ h₂ => wpAny_mono h₂ (fun f s₃ h₃ => ?_) fun _ _ x => x) fun _ _ x => x
    cases f with
    | next => obtain ⟨G', m', ms', hk, hP', H'⟩ := h₃; exact ⟨kvs.length + 1 - (i + 1), by omega, G', m', ms', i + 1, rfl, hlt, stays_trans hG hk, hP', H'⟩
    | cont => obtain ⟨G', m', ms', hk, hP', H'⟩ := h₃; exact ⟨kvs.length + 1 - (i + 1), by omega, G', m', ms', i + 1, rfl, hlt, stays_trans hG hk, hP', H'⟩
    | brk => exact h₃
    | ret v => exact h₃
  · have hin : i = kvs.length := Nat.le_antisymm hi hge
    subst hin
    refine wpAny_pyNext_items_end (knd := strKind prog w) hA.hh ho hdd (by simp) fun h₂ hx₂ => ?_
    refine done G m ms _ hG hP ?_
    have H3 := H.drop (List.Sublist.cons _ (List.Sublist.refl _))
    refine ⟨⟨H.fh.ns.extBut hx₂ (Ne.symm hIL), fun b o e => hx₂ b o (fun q => by rw [q, hIG] at e; cases e) (H.keep _ _ e), H.fh.off, fun p hp => ?_, H3.fh.nodup⟩, H.same.trans (Same.mkh _ _)⟩
    obtain ⟨⟨o, e, r⟩, z⟩ := H3.fh.tur p hp
    exact ⟨⟨o, hx₂ _ _ (fun q => by
      have := (List.nodup_cons.mp H.fh.nodup).1
      exact this (List.mem_map.mpr ⟨p, hp, q⟩)) e, r⟩, z⟩
end
def diffOf (T : List Tag) (c1 c2 : Nat) (h : Heap) (t : Tag) (y : Value) : Prop :=
  ∃ (x : Addr) (tk t1 t2 t3 t4 : Tok), y = .ref x ∧ DiffAt h x (.str t.1 tk) (.int (sizeOf' T (c2 &&& t.2)) t1) (.int ((sizeOf' T (c2 &&& t.2) : Int) - (sizeOf' T (c1 &&& t.2) : Int)) t2)
    (.int (countOf T (c2 &&& t.2)) t3) (.int ((countOf T (c2 &&& t.2) : Int) - (countOf T (c1 &&& t.2) : Int)) t4)
theorem DiffAt.keeps {h h' : Heap} {x : Addr} {t sz sd ct cd : Value} (X : DiffAt h x t sz sd ct cd) (k : h.StaysIn h') : DiffAt h' x t sz sd ct cd := let ⟨dx, a, b⟩ := X; ⟨dx, k _ _ a, k _ _ b⟩
theorem diffOf.keeps {T : List Tag} {c1 c2 : Nat} {h h' : Heap} {t : Tag} {y : Value} (x : diffOf T c1 c2 h t y) (k : h.StaysIn h') : diffOf T c1 c2 h' t y := let ⟨x, tk, a, b, c, d, e, s⟩ := x; ⟨x, tk, a, b, c, d, e, s.keeps k⟩
section
variable {T : List Tag} {c : Nat} {h : Heap} {l : List Tag} {kvs : List (PySem.Str × Value)}
theorem value_hit (P : Paired (rowOf T c h) l kvs) (nd : (l.map (·.1)).Nodup) {t : Tag} (ht : t ∈ l) : ∃ x, valueAt kvs t.1 = some (.ref x) ∧ rowOf T c h t (t.1, .ref x) := by
  induction P with
  | nil => cases ht
  | @cons u kv l kvs f _ ih =>
    obtain ⟨x, tk, t1, t2, rfl, S⟩ := f
    rcases List.mem_cons.mp ht with rfl | ht
    · refine ⟨x, ?_, x, tk, t1, t2, rfl, S⟩
      unfold valueAt; rw [List.find?_cons_of_pos (by simp)]; rfl
    · obtain ⟨y, hy, r⟩ := ih (List.nodup_cons.mp nd).2 ht
      refine ⟨y, ?_, r⟩
      have : u.1 ≠ t.1 := fun e => (List.nodup_cons.mp nd).1 (List.mem_map.mpr ⟨t, ht, e.symm⟩)
      unfold valueAt at hy ⊢; rw [List.find?_cons_of_neg (by simpa using this)]; exact hy
theorem value_miss (P : Paired (rowOf T c h) l kvs) {k : PySem.Str} (hk : k ∉ l.map (·.1)) : valueAt kvs k = none := by
  induction P with
  | nil => rfl
  | @cons u kv l kvs f _ ih =>
    obtain ⟨x, tk, t1, t2, rfl, S⟩ := f
    simp only [List.map_cons, List.mem_cons, not_or] at hk
    have := ih hk.2
    unfold valueAt at this ⊢; rw [List.find?_cons_of_neg (by simpa using Ne.symm hk.1)]; exact this
theorem without_rows (P : Paired (rowOf T c h) l kvs) (k : PySem.Str) : Paired (rowOf T c h) (l.filter fun t => decide (t.1 ≠ k)) (without kvs k) := by
  induction P with
  | nil => exact .nil
  | @cons u kv l kvs f _ ih =>
    have e : kv.1 = u.1 := by obtain ⟨x, tk, t1, t2, rfl, S⟩ := f; rfl
    unfold without at ih ⊢
    by_cases q : u.1 = k
    · rw [List.filter_cons_of_neg (by simpa using q), List.filter_cons_of_neg (by rw [e]; simpa using q)]; exact ih
    · rw [List.filter_cons_of_pos (by simpa using q), List.filter_cons_of_pos (by rw [e]; simpa using q)]; exact .cons f ih
end
/-- what is left of the first group after i turns -/
def leftOf (T : List Tag) (c1 c2 i : Nat) : List Tag := (T.filter (hits c1)).filter fun t => decide (t.1 ∉ ((T.filter (hits c2)).take i).map (·.1))
theorem leftOf_zero (T : List Tag) (c1 c2 : Nat) : leftOf T c1 c2 0 = T.filter (hits c1) := by
  unfold leftOf; rw [List.take_zero]; simp
theorem leftOf_succ {T : List Tag} {c1 c2 i : Nat} {t : Tag} (ht : (T.filter (hits c2))[i]? = some t) : leftOf T c1 c2 (i + 1) = (leftOf T c1 c2 i).filter fun u => decide (u.1 ≠ t.1) := by
  unfold leftOf
  conv => rhs; rw [List.filter_filter]
  rw [List.take_add_one, ht]
  refine List.filter_congr fun u _ => ?_
  simp only [Option.toList_some, List.map_append, List.map_cons, List.map_nil, List.mem_append, List.mem_singleton, not_or, ne_eq]
  by_cases q : u.1 = t.1 <;> simp [q]
theorem key_inj {T : List Tag} (nd : (T.map (·.1)).Nodup) {t u : Tag} (ht : t ∈ T) (hu : u ∈ T) (e : t.1 = u.1) : t = u := by
  induction T with
  | nil => cases ht
  | cons x r ih =>
    simp only [List.map_cons, List.nodup_cons] at nd
    rcases List.mem_cons.mp ht with rfl | ht <;> rcases List.mem_cons.mp hu with rfl | hu
    · rfl
    · exact absurd (List.mem_map.mpr ⟨u, hu, e.symm⟩) nd.1
    · exact absurd (show u.1 ∈ r.map (·.1) from List.mem_map.mpr ⟨t, ‹t ∈ r›, e⟩) nd.1
    · exact ih nd.2 ht hu
theorem leftOf_nodup {T : List Tag} (nd : (T.map (·.1)).Nodup) (c1 c2 i : Nat) : ((leftOf T c1 c2 i).map (·.1)).Nodup :=
  (((List.filter_sublist).trans (List.filter_sublist)).map _).nodup nd
theorem leftOf_mem {T : List Tag} (nd : (T.map (·.1)).Nodup) {c1 c2 i : Nat} {t : Tag} (ht : (T.filter (hits c2))[i]? = some t) : hits c1 t = true → t ∈ leftOf T c1 c2 i := fun h1 => by
  have htT := (List.mem_filter.mp (List.mem_of_getElem? ht)).1
  refine List.mem_filter.mpr ⟨List.mem_filter.mpr ⟨htT, h1⟩, ?_⟩
  have nd2 : ((T.filter (hits c2)).map (·.1)).Nodup := ((List.filter_sublist).map _).nodup nd
  have := fresh_key nd2 ht (fun _ => true)
  rw [List.filter_eq_self.mpr (fun _ _ => rfl)] at this
  exact decide_eq_true this
theorem leftOf_out {T : List Tag} (nd : (T.map (·.1)).Nodup) {c1 c2 i : Nat} {t : Tag} (ht : t ∈ T) (h1 : hits c1 t = false) : t.1 ∉ (leftOf T c1 c2 i).map (·.1) := fun hm => by
  obtain ⟨u, hu, e⟩ := List.mem_map.mp hm
  obtain ⟨hu1, _⟩ := List.mem_filter.mp hu
  obtain ⟨hu2, hu3⟩ := List.mem_filter.mp hu1
  rw [key_inj nd ht hu2 e.symm, hu3] at h1
  cases h1
theorem leftOf_end {T : List Tag} (nd : (T.map (·.1)).Nodup) (c1 c2 : Nat) : leftOf T c1 c2 (T.filter (hits c2)).length = T.filter fun t => hits c1 t && !hits c2 t := by
  unfold leftOf
  rw [List.take_length, List.filter_filter]
  refine List.filter_congr fun t ht => ?_
  have : (decide (t.1 ∉ (T.filter (hits c2)).map (·.1))) = !hits c2 t := by
    cases h2 : hits c2 t with
    | true => simp only [Bool.not_true, decide_eq_false_iff_not, Classical.not_not]; exact List.mem_map_of_mem (List.mem_filter.mpr ⟨ht, h2⟩)
    | false =>
      simp only [Bool.not_false, decide_eq_true_eq]
      intro hm
      obtain ⟨u, hu, e⟩ := List.mem_map.mp hm
      obtain ⟨hu2, hu3⟩ := List.mem_filter.mp hu
      rw [key_inj nd ht hu2 e.symm, hu3] at h2
      cases h2
  rw [this, Bool.and_comm]
theorem zero_of_miss {T : List Tag} (ok : TagsOK T) {t : Tag} (ht : t ∈ T) {c : Nat} (h : hits c t = false) : countOf T (c &&& t.2) = 0 ∧ sizeOf' T (c &&& t.2) = 0 := by
  have := ok.full t ht c
  rw [h] at this
  have h0 : countOf T (c &&& t.2) = 0 := by simpa using this.symm
  refine ⟨h0, ?_⟩
  unfold countOf at h0
  unfold sizeOf'
  rw [List.eq_nil_of_length_eq_zero h0]; rfl
theorem paired_get {α β : Type} {F : α → β → Prop} {l : List α} {ys : List β} (P : Paired F l ys) : ∀ (i : Nat) (y : β), ys[i]? = some y → ∃ a, l[i]? = some a ∧ F a y := by
  induction P with
  | nil => intro i y e; simp at e
  | cons f _ ih =>
    intro i y e
    cases i with
    | zero => cases e; exact ⟨_, rfl, f⟩
    | succ i => exact ih i y e
theorem leftOf_step {T : List Tag} {c1 c2 i : Nat} {t : Tag} {g : Heap} {cur : List (PySem.Str × Value)} (ht : (T.filter (hits c2))[i]? = some t) (P : Paired (rowOf T c1 g) (leftOf T c1 c2 i) cur) : Paired (rowOf T c1 g) (leftOf T c1 c2 (i + 1)) (without cur t.1) := by
  rw [leftOf_succ ht]; exact without_rows P _
theorem without_out {T : List Tag} {c : Nat} {h : Heap} {l : List Tag} {kvs : List (PySem.Str × Value)} (P : Paired (rowOf T c h) l kvs) {k : PySem.Str} (hk : k ∉ l.map (·.1)) : without kvs k = kvs := without_of_not_mem _ _ (by rw [rows_keys P]; exact hk)
theorem diffOf.mk {T : List Tag} {c1 c2 : Nat} {h : Heap} {t : Tag} {x : Addr} {tk t1 t2 t3 t4 : Tok} {a b c d : Int} (D : DiffAt h x (.str t.1 tk) (.int a t1) (.int b t2) (.int c t3) (.int d t4)) (ha : a = (sizeOf' T (c2 &&& t.2) : Int)) (hb : b = (sizeOf' T (c2 &&& t.2) : Int) - (sizeOf' T (c1 &&& t.2) : Int))
    (hc : c = (countOf T (c2 &&& t.2) : Int)) (hd : d = (countOf T (c2 &&& t.2) : Int) - (countOf T (c1 &&& t.2) : Int)) : diffOf T c1 c2 h t (.ref x) := by
  subst ha hb hc hd; exact ⟨x, tk, t1, t2, t3, t4, rfl, D⟩
set_option maxHeartbeats 2000000 in
theorem group_c {w : World} {A : Around} {s : Shared} {n : Nat} {g : Heap} {l : Addr} {T : List Tag} {c : Nat} {tk : Tok} {Q E : Value → Shared → Prop}
   (hA : AOk n A) (hn : n < 450) (W : Wd w g) (hgs : g.StaysIn s.heap) (h30 : g.get? 30 = none) (hT : TabOK g s.heap) (hTags : IsTags g l T) (ok : TagsOK T)
   (hret : ∀ d s', Same s s' → Heap.ExtBut 30 s.heap s'.heap → TabOK (ext g s.heap.objs.size s'.heap) s'.heap → s.heap.objs.size ≤ d → GroupAt w (above s.heap.objs.size s'.heap) d T c → Q (.ref d) s') :
   wpAny (model Pg w) A (call (.ref 214) [.ref l, .int c tk]) Q E s := by
  have hWg := W
  have hg0 : g.StaysIn (s.heap.hide 30) := fun b o e => (Heap.hide_ne _ (fun q => by rw [q, h30] at e; cases e)).trans (hgs _ _ e)
  have W := W.mono hg0
  walk_at "kf"
  refine' fx_enterM (fun L => [(Str.ofString "tag", L + 2), (Str.ofString "chosen", L + 1)]) (fun y => if y = Str.ofString "tags" then some (.ref l) else none)
    (fun L => [(L + 2, cellP none), (L + 1, cellP (some (.int c tk)))])
    [(Str.ofString "tags", .ref l), (Str.ofString "chosen", .int c tk)] [(30, tabP g)] hA (by omega) W (fun _ _ e => Heap.of_hide e) ?h0 ?h00 ?ho ?hcd ?hbind ?hkind ?hnd ?hcl ?hml ?hms ?h ?hco ?hgen ?hk
  case h0 => intro p hp; cases List.mem_singleton.mp hp; exact ⟨hT, Heap.hide_self _ _⟩
  case h00 => simp
  walk_at "enterM"
  rw [List.cons_append, List.nil_append] at H
  repeat' (walk_at "s1")
  walk_at "callK"
  refine ⟨stays_trans hg0 H.keep |> fun _ => H.keep, law_element_c hA' (by omega) (W.mono H.keep) ?_⟩
  intro x0 s' S k El0
  have hlt0 := H.lt
  have hms0 := H.mlt
  replace H := H.call S k
  obtain ⟨g1, H, k1, -, up1, -⟩ := H.rebase (List.Sublist.refl _)
  have El0 : ElemAt (above s.heap.objs.size g1) x0 .none := El0.keeps (above_keep (up1 _ hlt0 hms0) (hL ▸ Nat.le_of_lt hlt0))
  have W := W.mono k1
  repeat' (walk_at "s1")
  refine fx_list H ?_ (by simp [sizeLine])
  clear H; intro a0 s₁ H ha0
  refine fh_comp (clos_of V (by rfl)) (by rfl) (by decide) ?_ (fun _ => rfl)
  refine fx_slice ?_
  repeat' (walk_at "s1")
  obtain ⟨tv, htv, hlen, hat⟩ := hTags
  have htv1 : g1.IsList l tv.toArray := htv.at fun o e => k1 _ o (hg0 _ o e)
  refine ⟨l, tv.toArray, some (7 : Nat), none, _, _, _, _, _, rfl, H.glist htv1, ?_, .int _ _, .none, H, ?_⟩
  · have := ok.small.len; simp only [List.size_toArray, sizeLine]; omega
  clear H; intro a1 s₁ H _
  rw [slicePick_from'] at H
  have cellc : s₁.heap.IsCell (L + 1) (some (.int c tk)) := (H.at (i := 4) rfl).1
  have hk1 := H.keep
  have hlt1 := H.lt
  have hms1 := H.mlt
  refine fx_comp_val (tv.drop 7) (fun i => (T[7 + i]?).any (hits c)) (fun i y h => ∃ (t : Tag) (x : Addr) (tk : Tok), T[7 + i]? = some t ∧ y = .ref x ∧ ElemAt h x (.str t.1 tk)) (fun _ _ _ _ f k => let ⟨t, x, tk, a, b, e⟩ := f; ⟨t, x, tk, a, b, e.keeps k⟩) hA' V H (by simpa using H.list (i := 0) rfl) ?hsz ?hcell ?hkind ?step ?done
  case hcell => decide
  case hkind => rfl
  case hsz => have := ok.small.len; simp only [List.length_drop, sizeLine]; omega
  case step =>
    intro i v hi G env C mc s hG V' H₀
    have V := V'
    have H := H₀
    rw [List.getElem?_drop] at hi
    obtain ⟨t, ht⟩ : ∃ t, T[7 + i]? = some t := by
      have : 7 + i < tv.length := (List.getElem?_eq_some_iff.mp hi).1
      exact ⟨T[7 + i]'(by omega), by simp [show 7 + i < T.length by omega]⟩
    obtain ⟨b, tk1, tk2, hb, hbl⟩ := hat _ _ ht
    rw [hb] at hi; cases hi
    have hgG : g1.StaysIn G := stays_trans hk1 hG
    have W := W.mono hgG
    have cell : G.IsCell (L + 1) (some (.int c tk)) := let ⟨o, e, r⟩ := cellc; ⟨o, hG _ o e, r⟩
    refine test_K ?_
    intro Kt hKt
    refine fx_unpack hA' H (hbl.at fun o e => H.keep _ o (hgG _ o (k1 _ o (hg0 _ o e)))) rfl rfl ?_
    clear H; intro s₁ H _
    refine in_order ?_
    walk_at "st"
    refine in_order ?_
    walk_at "st"
    refine in_order_nil ?_
    refine tests_one (isTrue_plain ?_)
    repeat' (walk_at "s1")
    refine ⟨by rw [hits_int]; simp only [ht, Option.any_some], ?_⟩
    split
    · repeat' (walk_at "s1")
      walk_at "callK"
      have hlt := H.lt
      refine ⟨H.keep, law_element_c hA' (by omega) (W.mono H.keep) ?_⟩
      intro x s' S k El
      exact ⟨⟨_, H.call S k⟩, t, x, _, ht, rfl, El.keeps (above_le hlt)⟩
    · exact ⟨_, H⟩
  case done =>
    intro D ys s₂ H k hD hDl hP
    rw [show (tv.drop 7).length = (T.drop 7).length by simp [hlen]] at hP
    obtain ⟨gA, H, kA, -, upA, -⟩ := H.rebase (List.Sublist.refl _)
    have upA := above_keep (upA _ hlt1 hms1) (n' := s.heap.objs.size) (hL ▸ Nat.le_of_lt hlt1)
    have P2 := range_filter_get (T.drop 7) (hits c) _ (fun i a e => by rw [List.getElem?_drop] at e; rw [e]; rfl) hP
      (G := fun (t : Tag) y => ∃ (x : Addr) (tk : Tok), y = Value.ref x ∧ ElemAt (above s.heap.objs.size gA) x (.str t.1 tk)) (fun i a y e f => by rw [List.getElem?_drop] at e; obtain ⟨t, x, tk, e', rfl, El⟩ := f; rw [e] at e'; cases e'; exact ⟨x, tk, rfl, El.keeps upA⟩)
    have hly : ys.length = (namesOf T c).length := (paired_len P2).symm
    have hly64 : ys.length ≤ 64 := hly ▸ (ok.small.names c).1
    have hDl : gA.IsList D ys.toArray := hDl.at fun o e => of_hideAll _ (upA _ _ e)
    have ha0 := H.list (i := 1) rfl
    refine fx_addL H ha0 (H.glist hDl) (by simp only [sizeLine, List.length_cons, List.length_nil]; omega) ?_
    clear H; intro aE s₁ H haE
    walk_at "st"
    walk_at "nx"
    repeat' (walk_at "s1")
    have hltd := H.lt
    refine fx_dict0 (prog := Pg) (w := w) H ?_
    clear H; intro dG s₁ H hdG
    have hdG0 : s.heap.objs.size ≤ dG := hL ▸ Nat.le_of_lt (Nat.lt_of_lt_of_le hltd hdG)
    walk_at "st"
    walk_at "nx"
    repeat' (walk_at "s1")
    have nd := H.fh.nodup
    obtain ⟨g2, H', k2, fx2, up2, dn2⟩ := H.rebase (ms' := [(dG, dictP Pg w []), (30, tabP g), (L + 2, cellP none), (L + 1, cellP (some (.int c tk)))]) (List.Sublist.cons_cons _ (List.Sublist.cons _ (List.Sublist.cons _ (List.Sublist.cons _ (List.Sublist.refl _)))))
    have hE := fx2 (aE, _) (List.mem_cons_of_mem _ (List.mem_cons_self ..)) (by
      simp only [List.map_cons, List.map_nil, List.nodup_cons, List.mem_cons, List.not_mem_nil, or_false, not_or] at nd ⊢
      grind)
    clear H
    obtain ⟨tg, Elg, htg0, htg⟩ := els_of P2 (El0.keeps (above_up kA)) (fun t ht => by
      have hm := List.mem_of_mem_drop (List.mem_filter.mp ht).1
      exact ⟨(ok.short t hm).2, ok.small.short t hm⟩)
    have EL : g2.IsList aE (Value.ref x0 :: ys).toArray := let ⟨o, e, r⟩ := hE; r.is e
    have H := H'
    clear H'
    have Elg := Elg.keeps (above_up k2)
    have kg2 : g.StaysIn g2 := stays_trans hg0 (stays_trans k1 (stays_trans kA k2))
    have W2 := hWg.mono kg2
    have hL2 := H.lt
    refine wpAny_For ?_ (fun _ => rfl)
    walk_at "s1"
    refine fx_for_list tv (fun i G m ms => ∃ kvs tv0, m (Str.ofString "elements") = some (.ref aE) ∧ m (Str.ofString "group") = some (.ref dG) ∧
      ms = [(dG, dictP Pg w kvs), (30, tabP (ext g s.heap.objs.size G)), (L + 2, cellP tv0), (L + 1, cellP (some (.int c tk)))] ∧ Paired (rowOf T c (above s.heap.objs.size G)) ((T.take i).filter (hits c)) kvs)
      hA' (H.imp (i := 1) rfl fun o z => z.up (ext_old kg2)) (htv1.at fun o e => k2 _ o (kA _ o e)) ⟨[], none, rfl, rfl, rfl, .nil⟩ ?_ ?_
    · intro i v hv G m ms I s₁ hG hP H
      refine body_K ?_
      intro Kb hKb
      obtain ⟨kvs, tv0, hmE, hmG, rfl, hrows⟩ := hP
      obtain ⟨t, ht⟩ : ∃ t, T[i]? = some t := by
        have : i < tv.length := (List.getElem?_eq_some_iff.mp hv).1
        exact ⟨T[i]'(by omega), by simp [show i < T.length by omega]⟩
      obtain ⟨b, tk1, tk2, hb, hbl⟩ := hat _ _ ht
      rw [hb] at hv; cases hv
      have W := W2.mono hG
      have htm : t ∈ T := List.mem_of_getElem? ht
      refine fx_unpack hA' H (hbl.at fun o e => H.keep _ o (hG _ o (kg2 _ o e))) rfl rfl ?_
      clear H; intro s₁ H _
      refine in_order ?_
      walk_at "stc"
      refine in_order ?_
      walk_at "st"
      refine in_order_nil ?_
      walk_at "s1"
      have hn0 : s.heap.objs.size ≤ s₁.heap.objs.size := hL ▸ Nat.le_of_lt H.lt
      have Elt : Els (ext g s.heap.objs.size G) (.ref x0 :: ys) tg := (Elg.keeps (above_up hG)).keeps ext_above
      refine wpAny_mono (Q := fun f s' => f = .next ∧ ∃ G' m' D fs, G.StaysIn G' ∧ FX G' L s s' m' [(I, iterP l (i + 1)), (dG, dictP Pg w kvs), (30, tabP (ext g s.heap.objs.size G')), (L + 2, cellP (some (.str t.1 tk1))), (L + 1, cellP (some (.int c tk)))] ∧
        m' (Str.ofString "found") = some (.ref D) ∧ m' (Str.ofString "elements") = some (.ref aE) ∧ m' (Str.ofString "group") = some (.ref dG) ∧ G'.IsList D fs.toArray ∧ StrsAre fs ((namesOf T (c &&& t.2)).map (·.1))) ?_ (fun f s' hf => ?_) (fun _ _ x => x)
      · walk_at "s1"
        refine isTrue_plain ?_
        repeat' (walk_at "s1")
        walk_at "callK"
        refine ⟨H.keep, is_wild_c hA' (by omega) (W.mono H.keep) (ok.small.short t htm) ?_⟩
        intro s₂ S k
        replace H := H.call S k
        refine wpAny_truthy_bool ?_
        split
        · (rename_i hw)
          walk_at "s1"
          refine fh_comp_assign (swaps_of V (by rfl) (by rfl) (by rfl)) (clos_of V (by rfl)) (by rfl) (by decide) ?_ (fun _ => rfl)
          repeat' (walk_at "s1")
          walk_at "callK"
          have hG30 := (H.at (i := 2) rfl).2.2
          have hgG : g.StaysIn G := stays_trans kg2 hG
          refine ⟨H.keep, prepare_c (g := ext g s.heap.objs.size G) (vs := .ref x0 :: ys) (pz := fun i => passes t.1 (tg i)) hA' (by omega) (hWg.mono (ext_old hgG)) (stays_trans ext_in H.keep) (by
            cases e : (ext g s.heap.objs.size G).get? 30 with
            | none => rfl
            | some o => rw [ext_in _ _ e] at hG30; cases hG30) (H.at (i := 2) rfl).1 hw (ok.small.short t htm) Elt (fun _ => rfl) ?_⟩
          intro a s' S hx hT' X
          have hn1 : s.heap.objs.size ≤ s₂.heap.objs.size := hL ▸ Nat.le_of_lt H.lt
          obtain ⟨o30, ho30, hp30⟩ := hT'
          have hGG : G.StaysIn (ext G s₂.heap.objs.size s'.heap) := ext_old (fun b o e => hx b o (fun q => by rw [q, hG30] at e; cases e) (H.keep _ _ e))
          replace H := H.extend S (i := 2) rfl hx ho30 (p' := tabP (ext g s.heap.objs.size (ext G s₂.heap.objs.size s'.heap))) (hp30.up (ext_ext hn1))
          dsimp only [List.set] at H
          refine callWith_F (X.fn ext_in) ?_ rfl rfl
          repeat' (walk_at "s1")
          have WX : Wd w (ext (ext g s.heap.objs.size G) s₂.heap.objs.size s'.heap) := hWg.mono (stays_trans (ext_old hgG) (ext_old (n := s₂.heap.objs.size) (h := s'.heap) (stays_trans ext_in (stays_trans hGG H.keep))))
          refine ⟨X.fn ext_in, call_sel (l := aE) hA' (by omega) WX ext_in X ?_⟩
          intro ga s'' R
          have kEnd := fun {h : Heap} (k : (ext G s₂.heap.objs.size s'.heap).StaysIn h) => stays_trans hG (stays_trans hGG k)
          have hltc := H.lt
          have hmsc := H.mlt
          refine fx_gen_set (fun i y => y = tg i) hA' (by omega) V H (W.mono hGG) R ext_in (EL.at fun o e => kEnd H.keep _ _ e) (by simp only [sizeLine, List.length_cons]; omega) ?hcell ?hkind ?hy ?hk ?step ?done
          walk_at "compset"
          case step =>
            intro i v hv G env C mc s hG' V' H₀
            have V := V'
            have H := H₀
            have hEl := Elg.keeps (stays_trans (above_stays _ _) (stays_trans (kEnd (h := s'.heap) ‹FX (ext _ _ _) _ _ _ _ _›.keep) hG'))
            obtain ⟨x, rfl, Ex, hx⟩ := hEl i v hv
            have W := (W.mono hGG).mono (stays_trans (‹FX (ext _ _ _) _ _ _ _ _›.keep) hG')
            refine assign_Name ?_
            walk_at "st"
            repeat' (walk_at "s1")
            refine fx_tag H W Ex (by rcases hx with e | ⟨u, k, e, _⟩ <;> rw [e] <;> rfl) ?_
            clear H; intro s₁ H
            exact ⟨⟨_, H⟩, rfl⟩
          case done =>
            intro D fs s₁ H hD hl hP
            obtain ⟨G2, H, kG2, -, up2', -⟩ := H.rebase (List.Sublist.refl _)
            (repeat' (walk_at "s1")); refine ⟨rfl, G2, _, D, fs, stays_trans hGG kG2, H.imp (i := 2) rfl fun o z => z.up (ext_grow kG2), rfl, hmE, hmG, hl.at fun o e => up2' _ hltc hmsc _ _ (above_get e hD), ?_⟩
            rw [← found_eq ok htm c]
            refine found_strs (p := fun i => passes t.1 (tg i)) htg (by show passes t.1 (tg 0) = false; rw [htg0]; rfl) (fun i u e => ?_) ?_
            · obtain ⟨k, hk⟩ := htg i u e
              show passes t.1 (tg (i + 1)) = _
              rw [hk, if_pos hw]; rfl
            · unfold passing at hP
              rw [List.drop_zero, List.length_cons, hly] at hP
              exact hP
        · (rename_i hw)
          walk_at "s1"
          refine fh_comp_assign (swaps_of V (by rfl) (by rfl) (by rfl)) (clos_of V (by rfl)) (by rfl) (by decide) ?_ (fun _ => rfl)
          repeat' (walk_at "s1")
          have hkG := H.keep
          have cellt : s₂.heap.IsCell (L + 2) (some (.str t.1 tk1)) := (H.at (i := 3) rfl).1
          have hltc := H.lt
          have hmsc := H.mlt
          refine fx_comp_set (.ref x0 :: ys) (fun i => match tg i with | .str u _ => u == t.1 | _ => false) (fun i y _ => y = tg i) (fun _ _ _ _ f _ => f) hA' V H (EL.at fun o e => hkG _ _ (hG _ _ e)) (by simp only [sizeLine, List.length_cons]; omega) ?hcell ?hkind ?hy ?hk ?step ?done
          walk_at "compset"
          case step =>
            intro i v hv G' env C mc s hG' V' H₀
            have V := V'
            have H := H₀
            have hEl := Elg.keeps (stays_trans (above_stays _ _) (stays_trans hG (stays_trans hkG hG')))
            obtain ⟨x, rfl, Ex, hx⟩ := hEl i v hv
            have W := W.mono (stays_trans hkG hG')
            have cell : G'.IsCell (L + 2) (some (.str t.1 tk1)) := let ⟨o, e, r⟩ := cellt; ⟨o, hG' _ o e, r⟩
            refine test_K ?_
            intro Kt hKt
            refine assign_Name ?_
            walk_at "st"
            refine tests_one ?_
            repeat' (walk_at "s1")
            refine fx_tag H W Ex (by rcases hx with e | ⟨u, k, e, _⟩ <;> rw [e] <;> rfl) ?_
            clear H; intro s₁ H
            repeat' (walk_at "s1")
            walk_at "nx"
            rcases hx with e | ⟨u, k, e, _⟩
            · rw [e]
              repeat' (walk_at "s1")
              exact ⟨by show _ = (match tg i with | .str u _ => u == t.1 | _ => false); rw [e], _, H⟩
            · rw [e] at Ex ⊢
              repeat' (walk_at "s1")
              refine ⟨by show _ = (match tg i with | .str u _ => u == t.1 | _ => false); rw [e], ?_⟩
              split
              · repeat' (walk_at "s1")
                refine fx_tag H W Ex rfl ?_
                clear H; intro s₁ H
                exact ⟨⟨_, H⟩, e.symm⟩
              · exact ⟨_, H⟩
          case done =>
            intro D fs s₁ H hD hl hP
            obtain ⟨G2, H, kG2, -, up2', -⟩ := H.rebase (List.Sublist.refl _)
            (repeat' (walk_at "s1")); refine ⟨rfl, G2, _, D, fs, kG2, H.imp (i := 2) rfl fun o z => z.up (ext_grow kG2), rfl, hmE, hmG, hl.at fun o e => up2' _ hltc hmsc _ _ e, ?_⟩
            rw [← found_eq ok htm c]
            refine found_strs (p := fun i => match tg i with | .str u _ => u == t.1 | _ => false) htg (by show (match tg 0 with | .str u _ => u == t.1 | _ => false) = false; rw [htg0]) (fun i u e => ?_) ?_
            · obtain ⟨k, hk⟩ := htg i u e
              show (match tg (i + 1) with | .str u _ => u == t.1 | _ => false) = _
              rw [hk, if_neg hw]
            · rw [List.length_cons, hly] at hP
              exact hP
      · obtain ⟨rfl, G1, m1, D, fs, hGG1, H, hmF, hmE, hmG, hfs, hstr⟩ := hf
        walk_at "nx"
        have hG1 : g2.StaysIn G1 := stays_trans hG hGG1
        have W := W2.mono hG1
        have hsm := ok.small.names (c &&& t.2)
        have hlen_fs : fs.length = (namesOf T (c &&& t.2)).length := by rw [hstr.length, List.length_map]
        have hsub : ∀ x ∈ (namesOf T (c &&& t.2)).map (·.1), PyData.strOk x = true := fun x hx => by
          obtain ⟨u, hu, rfl⟩ := List.mem_map.mp hx
          exact (ok.short u (List.mem_of_mem_drop (List.mem_filter.mp hu).1)).1
        have hempty : (!((namesOf T (c &&& t.2)).map (·.1)).isEmpty) = hits c t := by
          rw [ok.full t htm c]
          unfold countOf
          cases namesOf T (c &&& t.2) <;> simp
        have hk0 : kvs.length ≤ 64 := by
          have h1 := paired_len hrows
          have h2 := List.length_filter_le (hits c) (T.take i)
          have h3 := ok.small.len
          simp only [List.length_take] at h2
          omega
        repeat' (walk_at "s1")
        refine fx_list H ?_ (by simp [sizeLine])
        clear H; intro aN s₁ H haN
        refine fx_neR hA' (by omega) (reads_strs (H.glist hfs) hstr) (reads_strs (fs := []) (ss := []) (H.list (i := 0) rfl) .nil) (shaped_strs hsub) (shaped_strs (ss := []) (fun _ h => nomatch h)) ?_
        rw [show PyData.eqv (.list (((namesOf T (c &&& t.2)).map (·.1)).map .str)) (.list (([] : List PySem.Str).map .str)) = ((namesOf T (c &&& t.2)).map (·.1)).isEmpty from eqv_strs_nil _, hempty]
        repeat' (walk_at "s1")
        split
        · (rename_i hc)
          repeat' (walk_at "s1")
          refine wpAny_Assign_Subscript ?_ (by rfl)
          repeat' (walk_at "s1")
          walk_at "callK"
          refine fx_join H (H.glist hfs) (by simpa using hstr) ?_ ?_
          · simp only [List.map_map, List.length_map]
            have e : (List.map ((fun x : Str => x.length) ∘ fun x : Tag => x.1) (namesOf T (c &&& t.2))).sum ≤ 4096 := hsm.2
            have e3 : (Str.ofString "").length = 0 := rfl
            rw [e3]; omega
          clear H; intro s₁ _ H
          have ej : (Txt.join (Str.ofString "") ((namesOf T (c &&& t.2)).map (·.1))).length = sizeOf' T (c &&& t.2) := by
            rw [show Str.ofString "" = Str.empty from rfl, len_join, List.map_map]; rfl
          repeat' (walk_at "s1")
          refine fx_lenS H (by rw [ej]; have := hsm.2; unfold sizeOf'; omega) ?_
          rw [ej]
          clear H; intro s₁ _ H
          repeat' (walk_at "s1")
          refine fx_len H (H.glist hfs) (by rw [List.size_toArray]; omega) ?_
          rw [show fs.toArray.size = countOf T (c &&& t.2) by rw [List.size_toArray]; exact hlen_fs]
          clear H; intro s₁ _ H
          repeat' (walk_at "s1")
          refine ⟨H.keep, stat_new hA' (by omega) (W.mono H.keep) ?_⟩
          intro x s₂ S k St
          have hltS := H.lt
          have hmsS := H.mlt
          replace H := H.call S k
          replace H := H.drop (List.Sublist.cons _ (List.Sublist.refl _))
          obtain ⟨G2, H, kG2, -, up2', -⟩ := H.rebase (List.Sublist.refl _)
          have St : StatAt (above s.heap.objs.size G2) x _ _ _ := St.keeps (above_keep (up2' _ hltS fun p hp => hmsS p (List.mem_cons_of_mem _ hp)) (hL ▸ Nat.le_of_lt hltS))
          repeat' (walk_at "s1")
          refine fx_setD (i := 1) H rfl (by simp only [sizeLine]; omega) (by rw [rows_keys hrows]; exact fresh_key ok.nodup ht _) ?_
          clear H; intro s₁ H
          dsimp only [List.set] at H
          walk_at "nx"
          repeat' (walk_at "s1")
          replace H := H.imp (i := 2) rfl (p' := tabP (ext g s.heap.objs.size G2)) fun o z => z.up (ext_grow kG2)
          dsimp only [List.set] at H
          refine ⟨G2, m1, _, stays_trans hGG1 kG2, ⟨kvs ++ [(t.1, .ref x)], _, hmE, hmG, rfl, ?_⟩, H⟩
          rw [take_filter ht, if_pos hc]
          exact Paired.snoc (paired_mono hrows fun _ _ r => r.keeps (above_up (stays_trans hGG1 kG2))) ⟨x, tk1, _, _, rfl, St⟩
        · (rename_i hc)
          repeat' (walk_at "s1")
          refine ⟨G1, m1, _, hGG1, ⟨kvs, _, hmE, hmG, rfl, ?_⟩, H.drop (List.Sublist.cons _ (List.Sublist.refl _))⟩
          rw [take_filter ht, if_neg hc, List.append_nil]
          exact paired_mono hrows fun _ _ r => r.keeps (above_up hGG1)
    · intro G m ms s₁ hG hP H
      obtain ⟨kvs, tv0, hmE, hmG, rfl, hrows⟩ := hP
      repeat' (walk_at "s1")
      rw [hlen, List.take_length] at hrows
      refine hret dG s₁ H.same (fun b o hb e => H.keep _ _ (hG _ _ (k2 _ _ (kA _ _ (k1 _ _ ((Heap.hide_ne _ hb).trans e)))))) ?_ hdG0 ⟨kvs, ?_, paired_mono hrows fun _ _ r => r.keeps (above_up H.keep)⟩
      · obtain ⟨o, e, r⟩ := (H.at (i := 1) rfl).1
        exact ⟨o, e, r.up (ext_grow H.keep)⟩
      · obtain ⟨o, es, ep, e, r⟩ := H.dict (i := 0) rfl
        exact ⟨o, es, ep, above_get e hdG0, r⟩
set_option maxHeartbeats 2000000 in
theorem fx_statA {w : World} {A : Around} {E : Value → Shared → Prop} {s s₀ : Shared} {g : Heap} {L x : Addr} {m : Str → Option Value} {ms : Mut} {t sz ct : Value} {b : Bool} {Q : Value → Shared → Prop} (H : FX g L s₀ s m ms) (W : Wd w g) (X : StatAt g x t sz ct) (hs : handedIn sz = true) (hc : handedIn ct = true) :
    ((∀ s', FX g L s₀ s' m ms → Q sz s') → wpAny (model Pg w) A (getAttr (.ref x) (Str.ofString "size") b) Q E s) ∧ ((∀ s', FX g L s₀ s' m ms → Q ct s') → wpAny (model Pg w) A (getAttr (.ref x) (Str.ofString "count") b) Q E s) := by
  obtain ⟨dx, e1, e2⟩ := X
  walk_at "kf"
  constructor
  · intro h
    refine' fx_getSlot (C := 117) (p := 119) (i := 1) H W.kin ⟨H.keep _ _ e1, rfl, rfl, H.keep _ _ e2⟩ ?hg ?hc ?ha ?hn ?ht ?hp ?hv hs h
    case hg => k_is
    case hc => k_is
    case ha => k_is
    case hn => k_is
    case ht => k_is
    case hp => k_is
    case hv => rfl
  · intro h
    refine' fx_getSlot (C := 117) (p := 118) (i := 0) H W.kin ⟨H.keep _ _ e1, rfl, rfl, H.keep _ _ e2⟩ ?hg ?hc ?ha ?hn ?ht ?hp ?hv hc h
    case hg => k_is
    case hc => k_is
    case ha => k_is
    case hn => k_is
    case ht => k_is
    case hp => k_is
    case hv => rfl
set_option maxHeartbeats 2000000 in
theorem compare_c {w : World} {A : Around} {s : Shared} {n : Nat} {g : Heap} {d1 d2 : Addr} {T : List Tag} {c1 c2 : Nat} {kvs1 kvs2 : List (PySem.Str × Value)} {Q E : Value → Shared → Prop}
   (hA : AOk n A) (hn : n < 450) (W : Wd w g) (hgs : g.StaysIn s.heap) (ok : TagsOK T)
   (h1 : s.heap.DictOf (strKind Pg w) d1 kvs1) (hg1 : g.get? d1 = none) (hS1 : (d1 == sysModules) = false) (hS2 : (d2 == sysModules) = false) (h2 : g.DictOf (strKind Pg w) d2 kvs2)
   (P1 : Paired (rowOf T c1 g) (T.filter (hits c1)) kvs1) (P2 : Paired (rowOf T c2 g) (T.filter (hits c2)) kvs2)
   (hret : ∀ D s' xs, Same s s' → Heap.ExtBut d1 s.heap s'.heap → s.heap.objs.size ≤ D → (above s.heap.objs.size s'.heap).IsList D (List.toArray xs) → Paired (diffOf T c1 c2 (above s.heap.objs.size s'.heap)) (T.filter (hits c2) ++ T.filter (fun t => hits c1 t && !hits c2 t)) xs → Q (.ref D) s') :
   wpAny (model Pg w) A (call (.ref 190) [.ref d1, .ref d2]) Q E s := by
  have hg0 : g.StaysIn (s.heap.hide d1) := fun b o e => (Heap.hide_ne _ (fun q => by rw [q, hg1] at e; cases e)).trans (hgs _ _ e)
  have W := W.mono hg0
  walk_at "kf"
  refine' fx_enterM (fun L => []) (fun y => if y = Str.ofString "new_group" then some (.ref d2) else if y = Str.ofString "old_group" then some (.ref d1) else none) (fun L => [])
    [(Str.ofString "old_group", .ref d1), (Str.ofString "new_group", .ref d2)] [(d1, dictP Pg w kvs1)] hA (by omega) W (fun _ _ e => Heap.of_hide e) ?h0 ?h00 ?ho ?hcd ?hbind ?hkind ?hnd ?hcl ?hml ?hms ?h ?hco ?hgen ?hk
  case h0 => intro p hp; cases List.mem_singleton.mp hp; exact ⟨dictP.of h1, Heap.hide_self _ _⟩
  case h00 => simp
  walk_at "enterM"
  rw [List.append_nil] at H
  obtain ⟨ep2, hd2⟩ := h2.dictAt
  have hlen2 : kvs2.length = (T.filter (hits c2)).length := (paired_len P2).symm
  have hlenT : (T.filter (hits c2)).length ≤ 64 := Nat.le_trans (List.length_filter_le _ _) ok.small.len
  have hlenT1 : (T.filter (hits c1)).length ≤ 64 := Nat.le_trans (List.length_filter_le _ _) ok.small.len
  repeat' (walk_at "s1")
  have hltD := H.lt
  refine fx_list H ?_ (by simp [sizeLine])
  clear H; intro D s₁ H hD
  have hDn : s.heap.objs.size ≤ D := hL ▸ Nat.le_of_lt (Nat.lt_of_lt_of_le hltD hD)
  walk_at "st"
  walk_at "nx"
  repeat' (walk_at "s1")
  refine wpAny_For ?_ (fun _ => rfl)
  repeat' (walk_at "s1")
  refine fx_getM (h2.at fun o e => H.keep _ _ (hg0 _ _ e)) PySem.F.slot_dict_items PySem.F.type_dict_items ?_
  refine callWith_method0 ?_
  refine fx_items H (h2.at fun o e => H.keep _ _ (hg0 _ _ e)) hS2 ?_
  clear H; intro v s₁ H
  refine fx_for_items (kvs := kvs2) (fun i G m ms => ∃ cur xs, m (Str.ofString "old_group") = some (.ref d1) ∧ m (Str.ofString "statistics") = some (.ref D) ∧ ms = [(D, listP xs), (d1, dictP Pg w cur)] ∧
      Paired (rowOf T c1 g) (leftOf T c1 c2 i) cur ∧ Paired (diffOf T c1 c2 (above s.heap.objs.size G)) ((T.filter (hits c2)).take i) xs) hA' H (hd2.at fun o e => hg0 _ _ e)
    ⟨kvs1, [], rfl, rfl, rfl, by rw [leftOf_zero]; exact P1, .nil⟩ ?_ ?_
  · clear H
    intro i k x tk hx G m ms I s₁ a hG hP H ha
    refine body_K ?_
    intro Kb hKb
    obtain ⟨cur, xs, hmO, hmS, rfl, hcur, hxs⟩ := hP
    obtain ⟨t, ht, sx, tk', t1, t2, e, St2⟩ := paired_get P2 i _ hx
    cases e
    have hgG : g.StaysIn G := stays_trans hg0 hG
    have W := W.mono hG
    have St2 := St2.keeps hgG
    have htT : t ∈ T := (List.mem_filter.mp (List.mem_of_getElem? ht)).1
    have hil : i < (T.filter (hits c2)).length := (List.getElem?_eq_some_iff.mp ht).1
    have hcl : cur.length ≤ 64 := by
      have h1 := paired_len hcur
      have h2 : (leftOf T c1 c2 i).length ≤ (T.filter (hits c1)).length := List.length_filter_le _ _
      omega
    have hxl : xs.length ≤ 64 := by
      have h1 := paired_len hxs
      simp only [List.length_take] at h1
      omega
    refine fx_unpackT hA' H ha rfl rfl ?_
    clear H ha; intro s₁ H _
    refine in_order ?_
    walk_at "st"
    refine in_order ?_
    walk_at "st"
    refine in_order_nil ?_
    repeat' (walk_at "s1")
    refine fx_getM (H.dict (i := 2) rfl) PySem.F.slot_dict_pop PySem.F.type_dict_pop ?_
    repeat' (walk_at "s1")
    cases hc : hits c1 t with
    | true =>
      obtain ⟨px, hv, px', pk, p1, p2, e, St1⟩ := value_hit hcur (leftOf_nodup ok.nodup _ _ _) (leftOf_mem ok.nodup ht hc)
      cases e
      have St1 := St1.keeps hgG
      refine fx_popHit (i := 2) H rfl (by simp only [sizeLine]; omega) hv ?_
      clear H; intro s₁ H
      dsimp only [List.set] at H
      walk_at "st"
      walk_at "nx"
      repeat' (walk_at "s1")
      refine isnot_ref_none ?_
      repeat' (walk_at "s1")
      walk_at "callK"
      refine (fx_statA H W St2 rfl rfl).1 ?_
      clear H; intro s₁ H
      repeat' (walk_at "s1")
      refine (fx_statA H W St2 rfl rfl).1 ?_
      clear H; intro s₁ H
      repeat' (walk_at "s1")
      refine (fx_statA H W St1 rfl rfl).1 ?_
      clear H; intro s₁ H
      repeat' (walk_at "s1")
      refine (fx_statA H W St2 rfl rfl).2 ?_
      clear H; intro s₁ H
      repeat' (walk_at "s1")
      refine (fx_statA H W St2 rfl rfl).2 ?_
      clear H; intro s₁ H
      repeat' (walk_at "s1")
      refine (fx_statA H W St1 rfl rfl).2 ?_
      clear H; intro s₁ H
      repeat' (walk_at "s1")
      refine ⟨H.keep, diff_new hA' (by omega) (W.mono H.keep) ?_⟩
      intro dx s₂ S k Dt
      have hltS := H.lt
      have hmsS := H.mlt
      replace H := H.call S k
      obtain ⟨G2, H, kG2, -, up2, -⟩ := H.rebase (List.Sublist.refl _)
      have Dt : DiffAt (above s.heap.objs.size G2) dx _ _ _ _ _ := Dt.keeps (above_keep (up2 _ hltS hmsS) (hL ▸ Nat.le_of_lt hltS))
      walk_at "st"
      walk_at "nx"
      repeat' (walk_at "s1")
      refine fx_expr V ?_ (by rfl) (by rfl)
      repeat' (walk_at "s1")
      refine fx_append_meth (i := 1) H rfl ?_
      repeat' (walk_at "s1")
      refine fx_append (i := 1) H rfl ?_ (by simp only [sizeLine]; omega)
      clear H; intro s₁ H
      dsimp only [List.set] at H
      walk_at "nx"
      repeat' (walk_at "s1")
      refine ⟨G2, _, _, kG2, ?_, H⟩
      refine ⟨without cur t.1, xs ++ [.ref dx], hmO, hmS, rfl, leftOf_step ht hcur, ?_⟩
      rw [List.take_add_one, ht]
      exact Paired.snoc (paired_mono hxs fun _ _ r => r.keeps (above_up kG2)) (.mk Dt rfl rfl rfl rfl)
    | false =>
      have hout := leftOf_out (c2 := c2) (i := i) ok.nodup htT hc
      obtain ⟨z1, z2⟩ := zero_of_miss ok htT hc
      refine fx_popMiss (i := 2) H rfl hS1 (value_miss hcur hout) ?_
      clear H; intro s₁ H
      walk_at "st"
      walk_at "nx"
      repeat' (walk_at "s1")
      refine wpAny_isNot_self (by rfl) ?_
      repeat' (walk_at "s1")
      walk_at "callK"
      refine (fx_statA H W St2 rfl rfl).1 ?_
      clear H; intro s₁ H
      repeat' (walk_at "s1")
      refine (fx_statA H W St2 rfl rfl).1 ?_
      clear H; intro s₁ H
      repeat' (walk_at "s1")
      refine (fx_statA H W St2 rfl rfl).2 ?_
      clear H; intro s₁ H
      repeat' (walk_at "s1")
      refine (fx_statA H W St2 rfl rfl).2 ?_
      clear H; intro s₁ H
      repeat' (walk_at "s1")
      refine ⟨H.keep, diff_new hA' (by omega) (W.mono H.keep) ?_⟩
      intro dx s₂ S k Dt
      have hltS := H.lt
      have hmsS := H.mlt
      replace H := H.call S k
      obtain ⟨G2, H, kG2, -, up2, -⟩ := H.rebase (List.Sublist.refl _)
      have Dt : DiffAt (above s.heap.objs.size G2) dx _ _ _ _ _ := Dt.keeps (above_keep (up2 _ hltS hmsS) (hL ▸ Nat.le_of_lt hltS))
      walk_at "st"
      walk_at "nx"
      repeat' (walk_at "s1")
      refine fx_expr V ?_ (by rfl) (by rfl)
      repeat' (walk_at "s1")
      refine fx_append_meth (i := 1) H rfl ?_
      repeat' (walk_at "s1")
      refine fx_append (i := 1) H rfl ?_ (by simp only [sizeLine]; omega)
      clear H; intro s₁ H
      dsimp only [List.set] at H
      walk_at "nx"
      repeat' (walk_at "s1")
      refine ⟨G2, _, _, kG2, ?_, H⟩
      refine ⟨cur, xs ++ [.ref dx], hmO, hmS, rfl, ?_, ?_⟩
      · have := leftOf_step ht hcur
        rwa [without_out hcur hout] at this
      · rw [List.take_add_one, ht]
        exact Paired.snoc (paired_mono hxs fun _ _ r => r.keeps (above_up kG2)) (.mk Dt rfl (by rw [z2]; simp) rfl (by rw [z1]; simp))
  · clear H
    intro G m ms s₁ hG hP H
    obtain ⟨cur, xs, hmO, hmS, rfl, hcur, hxs⟩ := hP
    rw [hlen2] at hcur hxs
    rw [leftOf_end ok.nodup] at hcur
    rw [List.take_length] at hxs
    have hxl : xs.length ≤ 64 := by
      have h1 := paired_len hxs
      omega
    have nd := H.fh.nodup
    obtain ⟨G1, H', k1, fx1, -, -⟩ := H.rebase (ms' := [(D, listP xs)]) (List.Sublist.cons_cons _ (List.Sublist.cons _ (List.Sublist.refl _)))
    obtain ⟨od, hod, hodP⟩ := fx1 (d1, _) (List.mem_cons_of_mem _ (List.mem_cons_self ..)) (by
      simp only [List.map_cons, List.map_nil, List.nodup_cons, List.mem_cons, List.not_mem_nil, or_false, not_or] at nd ⊢
      grind)
    have hD1 : G1.DictOf (strKind Pg w) d1 cur := dictP.is (s := { s with heap := G1 }) hod hodP
    obtain ⟨ep1, hd1⟩ := hD1.dictAt
    clear H
    have H := H'
    clear H'
    have hgG : g.StaysIn G1 := stays_trans hg0 (stays_trans hG k1)
    have W := W.mono (stays_trans hG k1)
    have hcl : cur.length ≤ 64 := by
      have h1 := paired_len hcur
      have h2 : (T.filter fun t => hits c1 t && !hits c2 t).length ≤ T.length := List.length_filter_le _ _
      have := ok.small.len
      omega
    walk_at "nx"
    repeat' (walk_at "s1")
    refine wpAny_For ?_ (fun _ => rfl)
    repeat' (walk_at "s1")
    refine fx_getM (hD1.at fun o e => H.keep _ _ e) PySem.F.slot_dict_items PySem.F.type_dict_items ?_
    refine callWith_method0 ?_
    refine fx_items H (hD1.at fun o e => H.keep _ _ e) hS1 ?_
    clear H; intro v s₁ H
    refine fx_for_items (kvs := cur) (fun i G m ms => ∃ ys, m (Str.ofString "statistics") = some (.ref D) ∧ ms = [(D, listP (xs ++ ys))] ∧
      Paired (diffOf T c1 c2 (above s.heap.objs.size G)) ((T.filter (hits c2)) ++ (T.filter fun t => hits c1 t && !hits c2 t).take i) (xs ++ ys)) hA' H hd1
      ⟨[], hmS, by rw [List.append_nil], by rw [List.take_zero, List.append_nil, List.append_nil]; exact paired_mono hxs fun _ _ r => r.keeps (above_up k1)⟩ ?_ ?_
    · clear H
      intro i k x tk hx G m ms I s₁ a hG' hP H ha
      refine body_K ?_
      intro Kb hKb
      obtain ⟨ys, hmS, rfl, hys⟩ := hP
      obtain ⟨t, ht, sx, tk', t1, t2, e, St1⟩ := paired_get hcur i _ hx
      cases e
      have W := W.mono hG'
      have St1 := St1.keeps (stays_trans hgG hG')
      obtain ⟨htT, hcc⟩ := List.mem_filter.mp (List.mem_of_getElem? ht)
      have hc2 : hits c2 t = false := by simpa using (Bool.and_eq_true_iff.mp hcc).2
      obtain ⟨z1, z2⟩ := zero_of_miss ok htT hc2
      have hyl : (xs ++ ys).length ≤ 128 := by
        have h1 := paired_len hys
        have h2 : (T.filter fun t => hits c1 t && !hits c2 t).length ≤ T.length := List.length_filter_le _ _
        have := ok.small.len
        simp only [List.length_append, List.length_take] at h1 ⊢
        omega
      refine fx_unpackT hA' H ha rfl rfl ?_
      clear H ha; intro s₁ H _
      refine in_order ?_
      walk_at "st"
      refine in_order ?_
      walk_at "st"
      refine in_order_nil ?_
      repeat' (walk_at "s1")
      walk_at "callK"
      refine (fx_statA H W St1 rfl rfl).1 ?_
      clear H; intro s₁ H
      repeat' (walk_at "s1")
      refine (fx_statA H W St1 rfl rfl).2 ?_
      clear H; intro s₁ H
      repeat' (walk_at "s1")
      refine ⟨H.keep, diff_new hA' (by omega) (W.mono H.keep) ?_⟩
      intro dx s₂ S k Dt
      have hltS := H.lt
      have hmsS := H.mlt
      replace H := H.call S k
      obtain ⟨G2, H, kG2, -, up2, -⟩ := H.rebase (List.Sublist.refl _)
      have Dt : DiffAt (above s.heap.objs.size G2) dx _ _ _ _ _ := Dt.keeps (above_keep (up2 _ hltS hmsS) (hL ▸ Nat.le_of_lt hltS))
      walk_at "st"
      walk_at "nx"
      repeat' (walk_at "s1")
      refine fx_expr V ?_ (by rfl) (by rfl)
      repeat' (walk_at "s1")
      refine fx_append_meth (i := 1) H rfl ?_
      repeat' (walk_at "s1")
      refine fx_append (i := 1) H rfl ?_ (by simp only [sizeLine]; omega)
      clear H; intro s₁ H
      dsimp only [List.set] at H
      walk_at "nx"
      repeat' (walk_at "s1")
      refine ⟨G2, _, _, kG2, ?_, H⟩
      refine ⟨ys ++ [.ref dx], hmS, by rw [List.append_assoc], ?_⟩
      rw [List.take_add_one, ht, ← List.append_assoc, ← List.append_assoc]
      exact Paired.snoc (paired_mono hys fun _ _ r => r.keeps (above_up kG2)) (.mk Dt (by rw [z2]; simp) (by rw [z2]; simp) (by rw [z1]; simp) (by rw [z1]; simp))
    · clear H
      intro G2 m ms s₁ hG' hP H
      obtain ⟨ys, hmS, rfl, hys⟩ := hP
      repeat' (walk_at "s1")
      rw [(paired_len hcur).symm, List.take_length] at hys
      refine hret D s₁ (xs ++ ys) H.same (fun b o hb e => H.keep _ _ (hG' _ _ (k1 _ _ (hG _ _ ((Heap.hide_ne _ hb).trans e))))) hDn ?_ (paired_mono hys fun _ _ r => r.keeps (above_up H.keep))
      exact (H.list (i := 0) rfl).at fun o e => above_get e hDn
def dueOf (T : List Tag) (c1 c2 : Nat) (h : Heap) (t : Tag) (y : Value) : Prop :=
  ∃ (a : Addr) (tk t1 t2 t3 t4 : Tok), y = .ref a ∧ h.IsTuple a #[.str t.1 tk, .int (sizeOf' T (c2 &&& t.2)) t1, .int ((sizeOf' T (c2 &&& t.2) : Int) - (sizeOf' T (c1 &&& t.2) : Int)) t2,
    .int (countOf T (c2 &&& t.2)) t3, .int ((countOf T (c2 &&& t.2) : Int) - (countOf T (c1 &&& t.2) : Int)) t4]
theorem dueOf.keeps {T : List Tag} {c1 c2 : Nat} {h h' : Heap} {t : Tag} {y : Value} (x : dueOf T c1 c2 h t y) (k : h.StaysIn h') : dueOf T c1 c2 h' t y := let ⟨a, tk, t1, t2, t3, t4, e, o, h1, r⟩ := x; ⟨a, tk, t1, t2, t3, t4, e, o, k _ _ h1, r⟩
def pairTag (h : Heap) (t : Tag) (y : Value) : Prop := ∃ (b : Addr) (tk1 tk2 : Tok), y = .ref b ∧ h.IsList b #[.str t.1 tk1, .int (t.2 : Int) tk2]
theorem pairTag.keeps {h h' : Heap} {t : Tag} {y : Value} (x : pairTag h t y) (k : h.StaysIn h') : pairTag h' t y := let ⟨b, a, c, e, r⟩ := x; ⟨b, a, c, e, r.at fun o e => k _ o e⟩
theorem paired_app {α β : Type} {F : α → β → Prop} {a b : List α} {y1 y2 : List β} (A : Paired F a y1) (B : Paired F b y2) : Paired F (a ++ b) (y1 ++ y2) := by
  induction A with
  | nil => exact B
  | cons f _ ih => exact .cons f ih
set_option maxHeartbeats 2000000 in
theorem due_c {w : World} {A : Around} {s : Shared} {n : Nat} {l : Addr} {T : List Tag} {c1 c2 : Nat} {k1 k2 : Tok} {Q E : Value → Shared → Prop}
   (hA : AOk n A) (hn : n < 450) (W : Wd w s.heap) (ok : TagsOK T) (hTags : IsTags s.heap l T)
   (hret : ∀ D s' xs, Same s s' → s.heap.StaysIn s'.heap → (above s.heap.objs.size s'.heap).IsList D (List.toArray xs) → Paired (dueOf T c1 c2 (above s.heap.objs.size s'.heap)) (T.filter (hits c2) ++ T.filter (fun t => hits c1 t && !hits c2 t)) xs → Q (.ref D) s') :
   wpAny (model Pg w) A (call (.ref 224) [.ref l, .int c1 k1, .int c2 k2]) Q E s := by
  walk_at "kf"
  refine' fx_enterC (fun L => [(Str.ofString "new", L + 2), (Str.ofString "old", L + 1)]) (fun y => if y = Str.ofString "tags" then some (.ref l) else none)
    (fun L => [(L + 2, cellP (some (.int c2 k2))), (L + 1, cellP (some (.int c1 k1)))])
    [(Str.ofString "tags", .ref l), (Str.ofString "old", .int c1 k1), (Str.ofString "new", .int c2 k2)] hA (by omega) W ?ho ?hcd ?hbind ?hkind ?hnd ?hcl ?hml ?hms ?h ?hco ?hgen ?hk
  walk_at "enterC"
  obtain ⟨tv, htv, hlen, hat⟩ := hTags
  obtain ⟨g, H, k₁, cells, -, -⟩ := H.settle
  have cn : g.IsCell (L + 2) (some (.int c2 k2)) := cells 0 _ _ rfl
  have co : g.IsCell (L + 1) (some (.int c1 k1)) := cells 1 _ _ rfl
  clear cells
  have W := W.mono k₁
  have hz : tv.length ≤ sizeLine := by have := ok.small.len; simp only [sizeLine]; omega
  have htg : g.IsList l tv.toArray := htv.at fun o e => k₁ _ o e
  repeat' (walk_at "s1")
  have hltD := H.lt
  refine fx_list H ?_ (by simp [sizeLine])
  clear H; intro D s₁ H hD
  have hDn : s.heap.objs.size ≤ D := hL ▸ Nat.le_of_lt (Nat.lt_of_lt_of_le hltD hD)
  walk_at "st"
  walk_at "nx"
  repeat' (walk_at "s1")
  refine wpAny_For ?_ (fun _ => rfl)
  repeat' (walk_at "s1")
  refine fh_comp (clos_of V (by rfl)) (by rfl) (by decide) ?_ (fun _ => rfl)
  repeat' (walk_at "s1")
  have hk1 := H.keep
  refine fx_comp_val tv (fun i => (T[i]?).any (hits c2)) (fun i y _ => tv[i]? = some y) (fun _ _ _ _ f _ => f) hA' V H (H.glist htg) hz ?hcell ?hkind ?step ?done
  case hcell => decide
  case hkind => rfl
  case step =>
    intro i v hi G env C mc s hG V' H₀
    have V := V'
    have H := H₀
    obtain ⟨t, ht⟩ : ∃ t, T[i]? = some t := by
      have : i < tv.length := (List.getElem?_eq_some_iff.mp hi).1
      exact ⟨T[i]'(by omega), by simp [show i < T.length by omega]⟩
    obtain ⟨b, tk1, tk2, hb, hbl⟩ := hat _ _ ht
    have hi' := hi
    rw [hb] at hi; cases hi
    have hgG : g.StaysIn G := stays_trans hk1 hG
    have W := W.mono hgG
    have cn : G.IsCell _ _ := let ⟨o, e, r⟩ := cn; ⟨o, hgG _ o e, r⟩
    refine test_K ?_
    intro Kt hKt
    refine assign_Name ?_
    walk_at "st"
    refine tests_one (isTrue_plain ?_)
    repeat' (walk_at "s1")
    refine Subscript_Constant ?_
    repeat' (walk_at "s1")
    refine fx_itemL (v := .int t.2 tk2) (hbl.at fun o e => H.keep _ o (hgG _ o (k₁ _ o e))) (by decide) (by decide) rfl ?_
    repeat' (walk_at "s1")
    refine ⟨by rw [hits_int]; simp only [ht, Option.any_some], ?_⟩
    split
    · walk_at "name"
      exact ⟨⟨_, H⟩, hi'⟩
    · exact ⟨_, H⟩
  case done =>
    clear H
    intro D2 ys s₂ H hk2 hD2 hDl2 hP2
    rw [hlen] at hP2
    have PA := range_filter_get T (hits c2) _ (fun i a e => by rw [e]; rfl) hP2 (G := pairTag g) (fun i a y e f => by
      obtain ⟨b, tk1, tk2, hb, hbl⟩ := hat _ _ e
      rw [hb] at f; cases f
      exact ⟨b, tk1, tk2, rfl, hbl.at fun o e => k₁ _ o e⟩)
    have hlt2 := H.lt
    have hk1 := H.keep
    have hD2' : s₂.heap.IsList D2 ys.toArray := hDl2.at fun o e => of_hideAll _ e
    refine fh_comp (clos_of V (by rfl)) (by rfl) (by decide) ?_ (fun _ => rfl)
    repeat' (walk_at "s1")
    refine fx_comp_val tv (fun i => (T[i]?).any (fun t => hits c1 t && !hits c2 t)) (fun i y _ => tv[i]? = some y) (fun _ _ _ _ f _ => f) hA' V H (H.glist htg) hz ?hcell ?hkind ?step ?done
    case hcell => decide
    case hkind => rfl
    case step =>
      intro i v hi G env C mc s hG V' H₀
      have V := V'
      have H := H₀
      obtain ⟨t, ht⟩ : ∃ t, T[i]? = some t := by
        have : i < tv.length := (List.getElem?_eq_some_iff.mp hi).1
        exact ⟨T[i]'(by omega), by simp [show i < T.length by omega]⟩
      obtain ⟨b, tk1, tk2, hb, hbl⟩ := hat _ _ ht
      have hi' := hi
      rw [hb] at hi; cases hi
      have hgG : g.StaysIn G := stays_trans hk1 hG
      have W := W.mono hgG
      have cn : G.IsCell _ _ := let ⟨o, e, r⟩ := cn; ⟨o, hgG _ o e, r⟩
      have co : G.IsCell _ _ := let ⟨o, e, r⟩ := co; ⟨o, hgG _ o e, r⟩
      refine test_K ?_
      intro Kt hKt
      refine assign_Name ?_
      walk_at "st"
      refine tests_one ?_
      repeat' (walk_at "s1")
      refine Subscript_Constant ?_
      repeat' (walk_at "s1")
      refine fx_itemL (v := .int t.2 tk2) (hbl.at fun o e => H.keep _ o (hgG _ o (k₁ _ o e))) (by decide) (by decide) rfl ?_
      repeat' (walk_at "s1")
      rw [hits_int]
      have hpi : (T[i]?).any (fun t => hits c1 t && !hits c2 t) = (hits c1 t && !hits c2 t) := by rw [ht]; rfl
      split
      · (rename_i q1)
        repeat' (walk_at "s1")
        refine Subscript_Constant ?_
        repeat' (walk_at "s1")
        refine fx_itemL (v := .int t.2 tk2) (hbl.at fun o e => H.keep _ o (hgG _ o (k₁ _ o e))) (by decide) (by decide) rfl ?_
        repeat' (walk_at "s1")
        rw [hits_int]
        split
        · (rename_i q2)
          repeat' (walk_at "s1")
          refine ⟨by show _ = (T[i]?).any _; rw [hpi, q1, q2]; rfl, ?_⟩
          walk_at "name"
          exact ⟨⟨_, H⟩, hi'⟩
        · (rename_i q2)
          refine hKt.go ⟨by show _ = (T[i]?).any _; rw [hpi, q1, Bool.eq_false_iff.mpr q2]; rfl, ?_⟩
          exact ⟨_, H⟩
      · (rename_i q1)
        refine hKt.go ⟨by show _ = (T[i]?).any _; rw [hpi, Bool.eq_false_iff.mpr q1]; rfl, ?_⟩
        exact ⟨_, H⟩
    case done =>
      clear H
      intro D3 zs s₃ H hk3 hD3 hDl3 hP3
      rw [hlen] at hP3
      have PB := range_filter_get T (fun t => hits c1 t && !hits c2 t) _ (fun i a e => by rw [e]; rfl) hP3 (G := pairTag g) (fun i a y e f => by
        obtain ⟨b, tk1, tk2, hb, hbl⟩ := hat _ _ e
        rw [hb] at f; cases f
        exact ⟨b, tk1, tk2, rfl, hbl.at fun o e => k₁ _ o e⟩)
      have PAB := paired_app PA PB
      have hyl : ys.length ≤ 64 := by
        have h1 := paired_len PA
        have h2 := List.length_filter_le (hits c2) T
        have := ok.small.len
        omega
      have hzl : zs.length ≤ 64 := by
        have h1 := paired_len PB
        have h2 := List.length_filter_le (fun t => hits c1 t && !hits c2 t) T
        have := ok.small.len
        omega
      refine fx_addL H (hD2'.at fun o e => hk3 _ _ e) (hDl3.at fun o e => of_hideAll _ e) (by simp only [sizeLine]; omega) ?_
      clear H; intro aL s₁ H haL
      have nd := H.fh.nodup
      obtain ⟨g2, H', k2, fx2, -, -⟩ := H.rebase (ms' := [(D, listP [])]) (List.Sublist.cons _ (List.Sublist.refl _))
      have hE := fx2 (aL, _) (List.mem_cons_self ..) (by
        simp only [List.map_cons, List.map_nil, List.nodup_cons, List.mem_cons, List.not_mem_nil, or_false, not_or] at nd ⊢
        grind)
      have EL : g2.IsList aL (ys ++ zs).toArray := let ⟨o, e, r⟩ := hE; r.is e
      clear H
      have H := H'
      clear H'
      have W := W.mono k2
      refine fx_for_list (ys ++ zs) (fun i G m ms => ∃ xs, m (Str.ofString "tags") = some (.ref l) ∧ m (Str.ofString "due") = some (.ref D) ∧ ms = [(D, listP xs)] ∧
        Paired (dueOf T c1 c2 (above s.heap.objs.size G)) ((T.filter (hits c2) ++ T.filter (fun t => hits c1 t && !hits c2 t)).take i) xs) hA' H EL ⟨[], rfl, rfl, rfl, .nil⟩ ?_ ?_
      · clear H
        intro i v hv G m ms I s₁ hG hP H
        refine body_K ?_
        intro Kb hKb
        obtain ⟨xs, hmT, hmD, rfl, hxs⟩ := hP
        obtain ⟨t, ht, b, tk1, tk2, rfl, hbl⟩ := paired_get PAB i _ hv
        have hgG : g.StaysIn G := stays_trans k2 hG
        have W := W.mono hG
        have cn : G.IsCell _ _ := let ⟨o, e, r⟩ := cn; ⟨o, hgG _ o e, r⟩
        have co : G.IsCell _ _ := let ⟨o, e, r⟩ := co; ⟨o, hgG _ o e, r⟩
        have hTG : IsTags G l T := ⟨tv, htv.at fun o e => hgG _ _ (k₁ _ _ e), hlen, fun i t e => let ⟨b, a, c, e1, e2⟩ := hat i t e; ⟨b, a, c, e1, e2.at fun o e => hgG _ _ (k₁ _ _ e)⟩⟩
        have hxl : xs.length ≤ 128 := by
          have h1 := paired_len hxs
          have h2 := paired_len PAB
          simp only [List.length_take, List.length_append] at h1 h2
          omega
        refine fx_unpack hA' H (hbl.at fun o e => H.keep _ o (hgG _ o e)) rfl rfl ?_
        clear H; intro s₁ H _
        refine in_order ?_
        walk_at "st"
        refine in_order ?_
        walk_at "st"
        refine in_order_nil ?_
        repeat' (walk_at "s1")
        refine Assign_Tuple ?_ (by rfl) (swapped_of V (by rfl))
        repeat' (walk_at "s1")
        walk_at "callK"
        rw [bitAnd_nat]
        refine ⟨H.keep, law_sum_c hA' (by omega) (W.mono H.keep) (hTG.keeps H.keep) ok.small ?_⟩
        intro a s' t1 t2 S k ha
        replace H := H.call S k
        have ha : s'.heap.IsTuple a _ := let ⟨o, e, r⟩ := ha; ⟨o, of_hideAll _ e, r⟩
        refine fx_unpackT hA' H ha rfl rfl ?_
        clear H; intro s₁ H _
        refine in_order ?_
        walk_at "st"
        refine in_order ?_
        walk_at "st"
        refine in_order_nil ?_
        walk_at "nx"
        repeat' (walk_at "s1")
        refine Assign_Tuple ?_ (by rfl) (swapped_of V (by rfl))
        repeat' (walk_at "s1")
        walk_at "callK"
        rw [bitAnd_nat]
        refine ⟨H.keep, law_sum_c hA' (by omega) (W.mono H.keep) (hTG.keeps H.keep) ok.small ?_⟩
        intro a s' t3 t4 S k ha
        replace H := H.call S k
        have ha : s'.heap.IsTuple a _ := let ⟨o, e, r⟩ := ha; ⟨o, of_hideAll _ e, r⟩
        refine fx_unpackT hA' H ha rfl rfl ?_
        clear H; intro s₁ H _
        refine in_order ?_
        walk_at "st"
        refine in_order ?_
        walk_at "st"
        refine in_order_nil ?_
        walk_at "nx"
        repeat' (walk_at "s1")
        refine fx_expr V ?_ (by rfl) (by rfl)
        repeat' (walk_at "s1")
        refine fx_append_meth (i := 1) H rfl ?_
        repeat' (walk_at "s1")
        have hltT := H.lt
        have hmsT := H.mlt
        refine fx_tuple H ?_ (by simp [sizeLine])
        clear H; intro aT s₁ H haT
        repeat' (walk_at "s1")
        refine fx_append (i := 2) H rfl ?_ (by simp only [sizeLine]; omega)
        clear H; intro s₁ H
        dsimp only [List.set] at H
        walk_at "nx"
        repeat' (walk_at "s1")
        have nd := H.fh.nodup
        obtain ⟨G2, H', kG2, fxG, -, -⟩ := H.rebase (ms' := [(I, iterP aL (i + 1)), (D, listP (xs ++ [.ref aT]))]) (List.Sublist.cons _ (List.Sublist.refl _))
        obtain ⟨oT, heT, q1, nT, q2⟩ := fxG (aT, _) (List.mem_cons_self ..) (by
          simp only [List.map_cons, List.map_nil, List.nodup_cons, List.mem_cons, List.not_mem_nil, or_false, not_or] at nd ⊢
          grind)
        refine ⟨G2, _, _, kG2, ?_, H'⟩
        refine ⟨xs ++ [.ref aT], hmT, hmD, rfl, ?_⟩
        rw [List.take_add_one, ht]
        exact Paired.snoc (paired_mono hxs fun _ _ r => r.keeps (above_up kG2)) ⟨aT, _, _, _, _, _, rfl, oT, above_get heT (hL ▸ Nat.le_of_lt (Nat.lt_of_lt_of_le hltT haT)), q1, nT, q2⟩
      · clear H
        intro G m ms s₁ hG hP H
        obtain ⟨xs, hmT, hmD, rfl, hxs⟩ := hP
        repeat' (walk_at "s1")
        rw [(paired_len PAB).symm, List.take_length] at hxs
        refine hret D s₁ xs H.same (fun b o e => H.keep _ _ (hG _ _ (k2 _ _ (k₁ _ _ e)))) ?_ (paired_mono hxs fun _ _ r => r.keeps (above_up H.keep))
        exact (H.list (i := 0) rfl).at fun o e => above_get e hDn
section
variable {prog : Program} {w : World} {A : Around} {E : Value → Shared → Prop} {s : Shared} {env : Env} {scope : Scope} {cl : List (Str × Addr)} {elt target iter : Expr} {ifs : List Expr} {pos : Pos} {use : Option (Value → Sem Unit)} {Q : Value → Shared → Prop} {n : Nat}
theorem let_range {I : Addr} {x left step : Int} {v : Value} {Q : Unit → Shared → Prop} (hit : IsRangeIter s.heap I x left step) (hQ : Q () s) : wpAny (model prog w) A (letOwnedTupleGo target (.ref I) v) Q E s := by
  have none_of : ∀ {t : Sem Unit}, t = pure () → wpAny (model prog w) A t Q E s := fun e => by rw [e]; exact wpAny_pure hQ
  have load_of : ∀ a : Addr, wpAny (model prog w) A (do
      let o ← load I
      match o.cls, o.data with
      | .type n, .fields vs =>
        if ["enumerate", "zip", "dict_itemiterator", "dict_reverseitemiterator", "odict_iterator", "itertools.zip_longest", "itertools.pairwise"].contains n && vs[0]? == some (rawInt a) then
          rule "for.unpacks-the-owned-tuple"
          updateField I 0 .none
      | _, _ => pure ()) Q E s := fun a => by
    refine wpAny_bind (wpAny_load hit ?_)
    dsimp only
    rw [show (["enumerate", "zip", "dict_itemiterator", "dict_reverseitemiterator", "odict_iterator", "itertools.zip_longest", "itertools.pairwise"].contains "range_iterator") = false from by decide, Bool.false_and]
    exact wpAny_pure hQ
  unfold letOwnedTupleGo
  split
  · cases v <;> first | exact load_of _ | exact wpAny_pure hQ
  · cases v <;> first | exact load_of _ | exact wpAny_pure hQ
  · exact wpAny_pure hQ
theorem range_iter_self {I : Addr} {x left step : Int} {Q : Value → Shared → Prop} (hit : IsRangeIter s.heap I x left step) (h : Q (.ref I) s) : wpAny (model prog w) A (pyIter (.ref I)) Q E s := by
  have hT : s.TypeIs (.ref I) "range_iterator" := ⟨_, hit, rfl⟩
  refine wpAny_pyIter_slot hT F.slot_range_iterator_iter (wpAny_call_entry F.slot_range_iterator_iter hT F.entry_range_iterator_iter ?_ (F.args_range_iterator_iter_1 _))
  show wpAny _ _ (ret (.ref I)) _ _ s
  exact wpAny_pure ⟨_, rfl, "range_iterator", _, hT, F.slot_range_iterator_next.lookup, h⟩
/-- what each turn of a comprehension over a range must show -/
def CompStepR (prog : Program) (w : World) (A : Around) (sc₀ : Scope) (scope : Scope) (cl : List (Str × Addr)) (elt target : Expr) (ifs : List Expr) (N₁ : Nat) (p : Nat → Bool) (F : Nat → Value → Heap → Prop) (s₁ : Shared) : Prop :=
  ∀ (i : Nat) (tk : Tok), i < N₁ → ∀ (G : Heap) (env' : Env) (C : Addr) (mc : Str → Option Value) (s' : Shared), s₁.heap.StaysIn G → EV env' (relabelS scope sc₀) C cl → FH G C s'.heap mc [] → Same s₁ s' →
    wpAny (model prog w) A (assign target env' (.int i tk)) (fun _ s₂ => wpAny (model prog w) A (testsOf ifs env') (fun ok s₃ => ok = p i ∧
      if ok = true then wpAny (model prog w) A (eval elt env') (fun y s₄ => (∃ mc', FH G C s₄.heap mc' []) ∧ F i y (above (C + 1) s₄.heap) ∧ Same s' s₄) (fun _ _ => False) s₃
      else (∃ mc', FH G C s₃.heap mc' []) ∧ Same s' s₃) (fun _ _ => False) s₂) (fun _ _ => False) s'

theorem comp_range {sc₀ : Scope} {L : Addr} {cl₀ : List (Str × Addr)} {r : Addr} {N₁ : Nat} {t1 t2 t3 : Tok} {s₁ : Shared} (p : Nat → Bool) (F : Nat → Value → Heap → Prop) (hF : ∀ i y h h', F i y h → h.StaysIn h' → F i y h')
    (hA : AOk n A) (V : EV env sc₀ L cl₀) (hr : IsRange s₁.heap r 0 N₁ 1 t1 t2 t3) (hsmall : Builtin.Range.small 0 N₁ 1 = true) (hsize : Builtin.Range.rangeSize 0 N₁ 1 = N₁) (hsz : N₁ ≤ sizeLine)
    (hcell : ∀ y ∈ scope.names, y.2 ≠ .cell) (hkind : scope.kind = .function)
    (step : CompStepR prog w A sc₀ scope cl elt target ifs N₁ p F s₁)
    (done : ∀ D C mc ys s', Same s₁ s' → s₁.heap.StaysIn s'.heap → s₁.heap.objs.size ≤ D → s₁.heap.objs.size ≤ C → C ≠ D → s'.heap.Ns C mc → s'.heap.IsList D ys.toArray →
      Paired (fun i y => F i y (above (s₁.heap.objs.size + 3) s'.heap)) ((List.range N₁).filter p) ys → C < s₁.heap.objs.size + 3 → 
      compPost (model prog w) A E use Q (.ref D) C (.ok .next) s') :
    CompI prog w A E env scope cl elt target iter ifs pos use Q (.ref r) s₁ := by
  unfold CompI
  refine wpAny_pyIter_range hr hsmall ?_
  rw [hsize]
  refine wpAny_newObj_type (wpAny_newFunctionEnv hcell (by intro y hy; simp at hy) (fun h₁ hns₁ hsb₁ => ?_) hkind)
  dsimp only at hns₁ hsb₁ ⊢
  generalize hH1 : s₁.heap.push { cls := .type "range_iterator", dict := none, data := .fields #[rawInt 0, rawInt (N₁ : Int), rawInt 1] } = H1 at hns₁ hsb₁ ⊢
  generalize hH2 : H1.push { cls := .type "list", dict := none, data := .seq ([] : List Value).toArray } = H2 at hns₁ hsb₁ ⊢
  generalize hN : s₁.heap.objs.size = N at *
  have z1 : H1.objs.size = N + 1 := by rw [← hH1, Heap.size_push, hN]
  have z2 : H2.objs.size = N + 2 := by rw [← hH2, Heap.size_push, z1]
  have up2 : s₁.heap.StaysIn H2 := fun b o e => by rw [← hH2]; exact Heap.get?_push_of_some _ (by rw [← hH1]; exact Heap.get?_push_of_some _ e)
  have old : ∀ b o, s₁.heap.get? b = some o → b < N := fun b o e => hN ▸ Heap.lt_size e
  have ne3 : ∀ {b k : Nat}, b < N → b ≠ N + k := fun {b k} h q => absurd h (by rw [q]; exact Nat.not_lt.mpr (Nat.le_add_right _ _))
  have up : s₁.heap.StaysIn h₁ := fun b o e => (hsb₁.2 b (by rw [z2]; exact ne3 (old b o e))).trans (Heap.get?_push_of_some _ (up2 b o e))
  have hzC : h₁.objs.size = N + 3 := by rw [hsb₁.1, Heap.size_push, z2]
  have hI0 : IsRangeIter h₁ N ((0 : Nat) : Int) ((N₁ : Int) - ((0 : Nat) : Int)) 1 := by
    have e0 : ((N₁ : Int) - ((0 : Nat) : Int)) = N₁ := by simp
    rw [e0]
    exact (hsb₁.2 _ (by rw [z2]; exact Nat.ne_of_lt (by exact Nat.lt_add_of_pos_right (by decide)))).trans (Heap.get?_push_of_some _ (by rw [← hH2]; exact Heap.get?_push_of_some _ (by rw [← hH1, ← hN]; exact Heap.get?_push_size _ rfl)))
  have hD0 : h₁.IsList (N + 1) ([] : List Value).toArray := by
    refine ⟨_, (hsb₁.2 _ (by rw [z2]; exact Nat.ne_of_lt (Nat.lt_succ_self _))).trans (Heap.get?_push_of_some _ (by rw [← hH2, ← z1]; exact Heap.get?_push_size _ rfl)), rfl, 0, rfl⟩
  rw [z2] at hns₁
  have loop : ∀ tk₀, codeAny (model prog w) A (.compLoop (.ListComp elt [⟨target, iter, ifs, 0⟩] scope pos) 0 (.ref N) (.ref (N + 1)) (compEnvC scope cl (N + 2) env)) (compPost (model prog w) A E use Q (.ref (N + 1)) (N + 2)) { s₁ with heap := h₁, toks := tk₀ } := fun tk₀ => by
    have Vc : EV (compEnvC scope cl (N + 2) env) (relabelS scope sc₀) (N + 2) cl := relabel_of V scope ▸ V.comp
    refine comp_loop (fun k s' => ∃ mc ys i, Same s₁ s' ∧ i ≤ N₁ ∧ k = N₁ + 1 - i ∧ s₁.heap.StaysIn s'.heap ∧ N + 3 ≤ s'.heap.objs.size ∧
        IsRangeIter s'.heap N ((i : Nat) : Int) ((N₁ : Int) - ((i : Nat) : Int)) 1 ∧ s'.heap.IsList (N + 1) (List.toArray ys) ∧ s'.heap.Ns (N + 2) mc ∧ ys.length ≤ i ∧
        Paired (fun i y => F i y (above (N + 3) s'.heap)) ((List.range i).filter p) ys) ?_ (N₁ + 1)
      ⟨_, [], 0, Same.mk' .., Nat.zero_le _, rfl, up, Nat.le_of_eq hzC.symm, hI0, hD0, hns₁, Nat.le_refl _, .nil⟩
    rintro k s' ⟨mc, ys, i, hS, hi, rfl, hk, hz, hI, hD, hC, hys, hP⟩
    rcases Nat.lt_or_ge i N₁ with hlt | hge
    · refine wpAny_pyNext_range_item hI (by omega) fun h₂ hI₂ hs₂ => ?_
      have hI₂ : IsRangeIter h₂ N (((i + 1 : Nat) : Nat) : Int) ((N₁ : Int) - ((i + 1 : Nat) : Int)) 1 := by
        have e1 : ((i : Nat) : Int) + 1 = ((i + 1 : Nat) : Int) := by simp
        have e2 : (N₁ : Int) - ((i : Nat) : Int) - 1 = (N₁ : Int) - ((i + 1 : Nat) : Int) := by omega
        rw [← e2, ← e1]; exact hI₂
      have hS₂ : Same s₁ { s' with heap := h₂, toks := s'.toks + 1 } := hS.trans (Same.mk' _ _ _)
      have hk₂ : s₁.heap.StaysIn h₂ := fun b o e => (hs₂.2 b (by simpa using ne3 (k := 0) (old b o e))).trans (hk b o e)
      have hC₂ : h₂.Ns (N + 2) mc := hC.sameBut hs₂ (Nat.ne_of_gt (Nat.lt_add_of_pos_right (by decide)))
      have hD₂ : h₂.IsList (N + 1) (List.toArray ys) := hD.extBut hs₂.extBut (Nat.ne_of_gt (Nat.lt_succ_self _))
      have hz₂ : h₂.objs.size = s'.heap.objs.size := hs₂.1
      have hG : s₁.heap.StaysIn (h₂.hide (N + 2)) := fun b o e => (Heap.hide_ne _ (ne3 (old b o e))).trans (hk₂ b o e)
      have HG : FH (h₂.hide (N + 2)) (N + 2) h₂ mc [] := ⟨hC₂, fun _ _ e => Heap.of_hide e, Heap.hide_self _ _, (fun _ hp => nomatch hp), List.nodup_nil⟩
      have aboveG : (above (N + 3) s'.heap).StaysIn (h₂.hide (N + 2)) := fun b o e => by
        have hge := above_ge e
        exact (Heap.hide_ne _ (Nat.ne_of_gt (Nat.lt_of_lt_of_le (Nat.lt_succ_self _) hge))).trans ((hs₂.2 b (Nat.ne_of_gt (Nat.lt_of_lt_of_le (Nat.lt_add_of_pos_right (by decide)) hge))).trans (of_hideAll _ e))
      have IG : IsRangeIter (h₂.hide (N + 2)) N (((i + 1 : Nat) : Nat) : Int) ((N₁ : Int) - ((i + 1 : Nat) : Int)) 1 := (Heap.hide_ne _ (Nat.ne_of_lt (Nat.lt_add_of_pos_right (by decide)))).trans hI₂
      have DG : (h₂.hide (N + 2)).IsList (N + 1) (List.toArray ys) := hD₂.at fun o e => (Heap.hide_ne _ (Nat.ne_of_lt (Nat.lt_succ_self _))).trans e
      refine let_range (s := { s' with heap := h₂, toks := s'.toks + 1 }) hI₂ ?_
      refine wpAny_mono (step i _ hlt _ _ _ _ { s' with heap := h₂, toks := s'.toks + 1 } hG Vc HG hS₂) (fun _ s₂ h₂' => wpAny_mono h₂' (fun ok s₃ h₃ => ?_) fun _ _ x => x) fun _ _ x => x
      obtain ⟨rfl, h₃⟩ := h₃
      have fin : ∀ {hN : Heap} {mc' : Str → Option Value}, FH (h₂.hide (N + 2)) (N + 2) hN mc' [] → (above (N + 3) s'.heap).StaysIn (above (N + 3) hN) ∧ s₁.heap.StaysIn hN ∧ N + 3 ≤ hN.objs.size ∧ IsRangeIter hN N (((i + 1 : Nat) : Nat) : Int) ((N₁ : Int) - ((i + 1 : Nat) : Int)) 1 ∧ hN.IsList (N + 1) (List.toArray ys) := fun {hN mc'} HN =>
        ⟨fun b o e => above_get (HN.keep b o (aboveG b o e)) (above_ge e), stays_trans hG HN.keep, HN.lt, HN.keep _ _ IG, DG.at fun o e => HN.keep _ o e⟩
      have rng : (List.range (i + 1)).filter p = (List.range i).filter p ++ (if p i = true then [i] else []) := by
        rw [List.range_succ, List.filter_append, List.filter_cons, List.filter_nil]
      cases hp : p i with
      | false =>
        rw [hp] at h₃
        simp only [Bool.false_eq_true, if_false] at h₃ ⊢
        obtain ⟨⟨mc', H₃⟩, hS₃⟩ := h₃
        obtain ⟨a1, a2, a3, a4, a5⟩ := fin H₃
        refine ⟨N₁ + 1 - (i + 1), by omega, mc', ys, i + 1, hS₂.trans hS₃, hlt, rfl, a2, a3, a4, a5, H₃.ns, Nat.le_succ_of_le hys, ?_⟩
        rw [rng, hp]
        simp only [Bool.false_eq_true, if_false, List.append_nil]
        exact paired_mono hP fun x y f => hF _ _ _ _ f a1
      | true =>
        rw [hp] at h₃
        simp only [if_true] at h₃ ⊢
        refine wpAny_mono h₃ (fun y s₄ h₄ => ?_) fun _ _ x => x
        obtain ⟨⟨mc', H₄⟩, hFy, hS₄⟩ := h₄
        obtain ⟨a1, a2, a3, a4, a5⟩ := fin H₄
        refine wpAny_list_append a5 (fun h₅ hl₅ hs₅ => ?_) (by rw [List.size_toArray]; omega)
        have a6 : (above (N + 3) s₄.heap).StaysIn (above (N + 3) h₅) := fun b o e => by
          have hge := above_ge e
          exact above_get ((hs₅.2 b (Nat.ne_of_gt (Nat.lt_of_lt_of_le (Nat.add_lt_add_left (by decide) N) hge))).trans (of_hideAll _ e)) hge
        refine ⟨N₁ + 1 - (i + 1), by omega, mc', ys ++ [y], i + 1, (hS₂.trans hS₄).trans (Same.mkh _ _), hlt, rfl, fun b o e => (hs₅.2 b (ne3 (old b o e))).trans (a2 b o e), by show N + 3 ≤ h₅.objs.size; rw [hs₅.1]; exact a3, (hs₅.2 _ (Nat.ne_of_lt (Nat.lt_succ_self _))).trans a4, by simpa using hl₅, H₄.ns.sameBut hs₅ (Nat.ne_of_gt (Nat.lt_succ_self _)), by simp; omega, ?_⟩
        rw [rng, hp]
        simp only [if_true]
        refine Paired.snoc (paired_mono hP fun x y f => hF _ _ _ _ (hF _ _ _ _ f a1) a6) (hF _ _ _ _ hFy ?_)
        exact a6
    · have hin : i = N₁ := Nat.le_antisymm hi hge
      subst hin
      refine wpAny_pyNext_range_end hA.hh hI (by omega) fun h₂ hx₂ => ?_
      refine done (N + 1) (N + 2) mc ys _ (hS.trans (Same.mkh _ h₂)) (fun b o e => hx₂ b o (by simpa using ne3 (k := 0) (old b o e)) (hk b o e)) (Nat.le_succ _) (Nat.le_add_right _ _) (Nat.ne_of_gt (Nat.lt_succ_self _)) (hC.extBut hx₂ (Nat.ne_of_gt (Nat.lt_add_of_pos_right (by decide))))
        (hD.extBut hx₂ (Nat.ne_of_gt (Nat.lt_succ_self _))) (paired_mono hP fun x y f => hF _ _ _ _ f ?_) (Nat.lt_succ_self _)
      intro b o e
      have hge := above_ge e
      exact above_get (hx₂ b o (Nat.ne_of_gt (Nat.lt_of_lt_of_le (Nat.lt_add_of_pos_right (by decide)) hge)) (of_hideAll _ e)) hge
  rw [show H1.objs.size = N + 1 from z1, show H2.objs.size = N + 2 from z2]
  exact codeAny_compStart_list (loop _) (range_iter_self (s := { s₁ with heap := h₁, toks := _ }) hI0 (loop _))
end
section
variable {prog : Program} {w : World} {A : Around} {E : Value → Shared → Prop} {s : Shared} {env : Env} {scope : Scope} {cl : List (Str × Addr)} {elt target iter : Expr} {ifs : List Expr} {pos : Pos} {n : Nat}
  {sc₀ sc : Scope} {L : Addr} {cl₀ : List (Str × Addr)} {r : Addr} {s₁ : Shared} {g : Heap} {s₀ : Shared} {m : Str → Option Value} {ms : Mut} {body : List Stmt}
abbrev rangeObj (a b : Int) (t u v : Tok) : Obj := { cls := .type "range", data := .fields #[.int a t, .int b u, .int 1 v] }
theorem fx_range {k : Int} {t : Tok} {Q : Value → Shared → Prop} (H : FX g L s₀ s m ms) (h : ∀ r s' t1 t3, FX g L s₀ s' m ((r, (· = rangeObj 0 k t1 t t3)) :: ms) → Q (.ref r) s') : wpAny (model prog w) A (call (.type "range") [.int k t]) Q E s :=
  call_range_1 (h _ _ _ _ (H.to (H.fh.push rfl rfl)))
theorem fx_compR_val {Q : Value → Shared → Prop} (N₁ : Nat) (p : Nat → Bool) (F : Nat → Value → Heap → Prop) (hF : ∀ i y h h', F i y h → h.StaysIn h' → F i y h') {t1 t2 t3 : Tok}
    (hA : AOk n A) (V : EV env sc₀ L cl₀) (H : FX g L s₀ s₁ m ms) (hr : s₁.heap.get? r = some (rangeObj 0 N₁ t1 t2 t3)) (hsmall : Builtin.Range.small 0 N₁ 1 = true) (hsize : Builtin.Range.rangeSize 0 N₁ 1 = N₁) (hsz : N₁ ≤ sizeLine)
    (hcell : ∀ y ∈ scope.names, y.2 ≠ .cell) (hkind : scope.kind = .function)
    (step : ∀ (i : Nat) (tk : Tok), i < N₁ → ∀ (G : Heap) (env' : Env) (C : Addr) (mc : Str → Option Value) (s' : Shared), s₁.heap.StaysIn G → EV env' (relabelS scope sc₀) C cl → FX G C s' s' mc [] →
      wpAny (model prog w) A (assign target env' (.int i tk)) (fun _ s₂ => wpAny (model prog w) A (testsOf ifs env') (fun ok s₃ => ok = p i ∧
        if ok = true then wpAny (model prog w) A (eval elt env') (fun y s₄ => (∃ mc', FX G C s' s₄ mc' []) ∧ F i y (above (C + 1) s₄.heap)) (fun _ _ => False) s₃
        else (∃ mc', FX G C s' s₃ mc' [])) (fun _ _ => False) s₂) (fun _ _ => False) s')
    (done : ∀ D ys s', FX g L s₀ s' m ms → s₁.heap.StaysIn s'.heap → s₁.heap.objs.size ≤ D → (above s₁.heap.objs.size s'.heap).IsList D (List.toArray ys) → Paired (fun i y => F i y (above s₁.heap.objs.size s'.heap)) ((List.range N₁).filter p) ys → Q (.ref D) s') :
    CompI prog w A E env scope cl elt target iter ifs pos none Q (.ref r) s₁ := by
  refine comp_range p F hF hA V hr hsmall hsize hsz hcell hkind (fun i tk hi G env' C mc s' hG V' H' hs' => ?_) fun D C mc ys s' hS hk hD hC hCD hn hlist hP hC3 => ⟨mc, hn, fun h'' hs => ?_⟩
  · refine wpAny_mono (step i tk hi G env' C mc s' hG V' ⟨H', Same.refl _⟩) (fun _ s₂ h₂ => wpAny_mono h₂ (fun ok s₃ h₃ => ⟨h₃.1, ?_⟩) fun _ _ x => x) fun _ _ x => x
    have h₃' := h₃.2
    split
    · rename_i e
      rw [if_pos e] at h₃'
      exact wpAny_mono h₃' (fun y s₄ h₄ => ⟨let ⟨mc', H⟩ := h₄.1; ⟨mc', H.fh⟩, h₄.2, let ⟨_, H⟩ := h₄.1; H.same⟩) fun _ _ x => x
    · rename_i e
      rw [if_neg e] at h₃'
      obtain ⟨mc', H⟩ := h₃'
      exact ⟨⟨mc', H.fh⟩, H.same⟩
  · have hk' : s₁.heap.StaysIn h'' := fun b o e => (hs.2 b (Nat.ne_of_lt (Nat.lt_of_lt_of_le (Heap.lt_size e) hC))).trans (hk b o e)
    exact done D ys _ ⟨H.fh.grow hk', H.same.trans (hS.trans (Same.mkh _ h''))⟩ hk' hD (list_above (hlist.extBut hs.extBut (Ne.symm hCD)) hD) (paired_mono hP fun x y f => hF _ _ _ _ f (stays_trans (above_but hs.extBut hC3) (above_le (Nat.le_add_right _ _))))
def rangeP (i n : Nat) (o : Obj) : Prop := o = { cls := .type "range_iterator", dict := none, data := .fields #[rawInt (i : Int), rawInt ((n : Int) - (i : Int)), rawInt 1], slots := #[] }
/-- a loop over a range from 0 -/
theorem fx_for_range {Q : Flow → Shared → Prop} (N₁ : Nat) {t1 t2 t3 : Tok} (P : Nat → Heap → (Str → Option Value) → Mut → Prop) (hA : AOk n A) (H : FX g L s₀ s m ms) (hr : s.heap.get? r = some (rangeObj 0 N₁ t1 t2 t3)) (hsmall : Builtin.Range.small 0 N₁ 1 = true) (hsize : Builtin.Range.rangeSize 0 N₁ 1 = N₁) (hP : P 0 g m ms)
    (step : ∀ i tk, i < N₁ → ∀ G m ms I s, g.StaysIn G → P i G m ms → FX G L s₀ s m ((I, rangeP (i + 1) N₁) :: ms) →
      wpAny (model prog w) A (assign target env (.int i tk)) (fun _ s₂ => wpAny (model prog w) A (execs body env) (fun f s₃ => match f with
        | .next | .cont => ∃ G' m' ms', G.StaysIn G' ∧ P (i + 1) G' m' ms' ∧ FX G' L s₀ s₃ m' ((I, rangeP (i + 1) N₁) :: ms')
        | .brk => Q .next s₃
        | .ret v => Q (.ret v) s₃) (fun _ _ => False) s₂) (fun _ _ => False) s)
    (done : ∀ G m ms s, g.StaysIn G → P N₁ G m ms → FX G L s₀ s m ms → Q .next s) :
    wpAny (model prog w) A (pyIter (.ref r)) (fun it s₂ => codeAny (model prog w) A (.forLoop target it body [] env) (fun r s' => match r with | .ok f => Q f s' | .error e => cameBackBy (model prog w) A env E e s') s₂) E s := by
  refine wpAny_pyIter_range hr hsmall ?_
  rw [hsize]
  have H1 := H.to' (H.fh.push (o := { cls := .type "range_iterator", data := .fields #[rawInt 0, rawInt (N₁ : Int), rawInt 1] }) rfl (p := rangeP 0 N₁) (by unfold rangeP; simp))
  generalize hI : s.heap.objs.size = I at H1
  refine for_loop (fun k s' => ∃ G m ms i, k = N₁ + 1 - i ∧ i ≤ N₁ ∧ g.StaysIn G ∧ P i G m ms ∧ FX G L s₀ s' m ((I, rangeP i N₁) :: ms)) ?_ (N₁ + 1) ⟨g, m, ms, 0, rfl, Nat.zero_le _, stays_refl _, hP, H1⟩
  rintro k s' ⟨G, m, ms, i, rfl, hi, hG, hP, H⟩
  obtain ⟨⟨o, ho, rfl⟩, hIL, hIG⟩ := H.at (i := 0) rfl
  rcases Nat.lt_or_ge i N₁ with hlt | hge
  · refine wpAny_pyNext_range_item ho (by omega) fun h₂ hI₂ hs₂ => ?_
    refine let_range (s := { s' with heap := h₂, toks := s'.toks + 1 }) hI₂ ?_
    have H2 : FX G L s₀ { s' with heap := h₂, toks := s'.toks + 1 } m ((I, rangeP (i + 1) N₁) :: ms) := H.to (H.fh.upd (i := 0) rfl hs₂.extBut hI₂ (by
      unfold rangeP
      have e1 : ((i : Nat) : Int) + 1 = ((i + 1 : Nat) : Int) := by simp
      have e2 : (N₁ : Int) - ((i : Nat) : Int) - 1 = (N₁ : Int) - ((i + 1 : Nat) : Int) := by omega
      rw [← e2, ← e1]))
    refine wpAny_mono (step i _ hlt G m ms I _ hG hP H2) (fun _ s₂ h₂ => wpAny_mono h₂ (fun f s₃ h₃ => ?_) fun _ _ x => x) fun _ _ x => x
    cases f with
    | next => obtain ⟨G', m', ms', hk, hP', H'⟩ := h₃; exact ⟨N₁ + 1 - (i + 1), by omega, G', m', ms', i + 1, rfl, hlt, stays_trans hG hk, hP', H'⟩
    | cont => obtain ⟨G', m', ms', hk, hP', H'⟩ := h₃; exact ⟨N₁ + 1 - (i + 1), by omega, G', m', ms', i + 1, rfl, hlt, stays_trans hG hk, hP', H'⟩
    | brk => exact h₃
    | ret v => exact h₃
  · have hin : i = N₁ := Nat.le_antisymm hi hge
    subst hin
    refine wpAny_pyNext_range_end hA.hh ho (by omega) fun h₂ hx₂ => ?_
    refine done G m ms _ hG hP ?_
    have H3 := H.drop (List.Sublist.cons _ (List.Sublist.refl _))
    refine ⟨⟨H.fh.ns.extBut hx₂ (Ne.symm hIL), fun b o e => hx₂ b o (fun q => by rw [q, hIG] at e; cases e) (H.keep _ _ e), H.fh.off, fun p hp => ?_, H3.fh.nodup⟩, H.same.trans (Same.mkh _ _)⟩
    obtain ⟨⟨o, e, r⟩, z⟩ := H3.fh.tur p hp
    exact ⟨⟨o, hx₂ _ _ (fun q => by
      have := (List.nodup_cons.mp H.fh.nodup).1
      exact this (List.mem_map.mpr ⟨p, hp, q⟩)) e, r⟩, z⟩
end
section
variable {prog : Program} {w : World} {A : Around} {E : Value → Shared → Prop} {s s₀ : Shared} {g : Heap} {L : Addr} {m : Str → Option Value} {ms : Mut} {a b : Int} {t u : Tok}
theorem fx_fdiv {Q : Value → Shared → Prop} (H : FX g L s₀ s m ms) (hb : b ≠ 0) (hs : b.natAbs < 1073741824) (h : ∀ s' t', FX g L s₀ s' m ms → Q (.int (a.fdiv b) t') s') : wpAny (model prog w) A (binaryOp .FloorDiv (.int a t) (.int b u)) Q E s :=
  PyProof.Rows.floordiv_int hb (h _ _ H.tok) (.inl (PyProof.noPylong_small hs))
theorem fx_mod {Q : Value → Shared → Prop} (H : FX g L s₀ s m ms) (hb : b ≠ 0) (h : ∀ s' t', FX g L s₀ s' m ms → Q (.int (a.fmod b) t') s') : wpAny (model prog w) A (binaryOp .Mod (.int a t) (.int b u)) Q E s :=
  PyProof.Rows.mod_int hb (h _ _ H.tok)
theorem fx_pow {Q : Value → Shared → Prop} (H : FX g L s₀ s m ms) (hn : 0 ≤ b) (hs : (Builtin.Int.intBits a : Int) * b ≤ 2 ^ 27) (h : ∀ s' t', FX g L s₀ s' m ms → Q (.int (a ^ b.toNat) t') s') : wpAny (model prog w) A (binaryOp .Pow (.int a t) (.int b u)) Q E s :=
  PyProof.Rows.pow_int hn hs (h _ _ H.tok)
end
section
variable {prog : Program} {w : World} {A : Around} {E : Value → Shared → Prop} {s : Shared} {env : Env}
/-- an item of a list that was only laid out to be asked -/
theorem sub_tmp {value e₁ e₂ : Expr} {op : Operator} {p pos : Pos} {Q : Value → Shared → Prop}
    (h : wpAny (model prog w) A (eval value env) (fun o s₁ => wpAny (model prog w) A (eval (.BinOp e₁ op e₂ p) env) (fun i s₂ => ItemOn (model prog w) A E o i Q s₂) E s₁) E s) :
    wpAny (model prog w) A (eval (.Subscript value (.BinOp e₁ op e₂ p) pos) env) Q E s := by
  rw [eval_Subscript]
  refine wpAny_bind (wpAny_mono h (fun o s₁ h₁ => wpAny_bind (wpAny_holding (wpAny_mono h₁ (fun i s₂ h₂ => wpAny_bind (wpAny_standAt ?_)) fun _ _ x => x))) fun _ _ x => x)
  obtain ⟨T, id, hl, hT, hg⟩ := h₂
  have fin : wpAny (model prog w) A (operate [o, i] (getItem o i)) (fun r s₃ => wpAny (model prog w) A (letTemporaryGo value o r >>= fun _ => pure r) Q E s₃) E s₂ :=
    wpAny_operating (wpAny_mono hg (fun r s₃ h₃ => wpAny_bind (wpAny_letTemporaryGo (wpAny_pure h₃))) fun _ _ x => x)
  first
    | (refine wpAny_bind ?_; rw [getitemInPython_of_ne hT.not_modules]; refine wpAny_bind (wpAny_specialOf hT hl ?_))
    | refine wpAny_bind (wpAny_specialOf hT hl ?_)
  first
    | exact wpAny_pure (wpAny_bind fin)
    | exact wpAny_bind (wpAny_pure (wpAny_bind fin))
    | exact wpAny_bind fin
theorem fx_iadd {s₀ : Shared} {g : Heap} {L : Addr} {m : Str → Option Value} {ms : Mut} {a b : Int} {t u : Tok} {Q : Value → Shared → Prop} (H : FX g L s₀ s m ms) (h : ∀ s' t', FX g L s₀ s' m ms → Q (.int (a + b) t') s') : wpAny (model prog w) A (inplaceOp .Add (.int a t) (.int b u)) Q E s := PyProof.Rows.iadd_int (h _ _ H.tok)
end
/-- all but the frame and what may still turn stays -/
theorem FX.rebase2 {g : Heap} {L : Addr} {s₀ s : Shared} {m : Str → Option Value} {ms ms' : Mut} (H : FX g L s₀ s m ms) (hs : ms'.Sublist ms) :
    ∃ g', FX g' L s₀ s m ms' ∧ g.StaysIn g' ∧ (∀ b o, b ≠ L → b ∉ ms'.map (·.1) → s.heap.get? b = some o → g'.get? b = some o) ∧ g'.StaysIn s.heap := by
  have H' := H.drop hs
  refine ⟨hideAll s.heap (L :: ms'.map (·.1)), ⟨⟨H.fh.ns, fun _ _ e => of_hideAll _ e, hideAll_none _ (.head _), fun p hp => ⟨(H'.fh.tur p hp).1, (H'.fh.tur p hp).2.1, hideAll_none _ (.tail _ (List.mem_map_of_mem hp))⟩, H'.fh.nodup⟩, H.same⟩, fun b o e => ?_, fun b o h1 h2 e => ?_, fun _ _ e => of_hideAll _ e⟩
  · refine hideAll_get _ (H.keep b o e) fun hm => ?_
    rcases List.mem_cons.mp hm with q | q
    · rw [q, H.fh.off] at e; cases e
    · obtain ⟨p, hp, q⟩ := List.mem_map.mp q
      have := (H'.fh.tur p hp).2.2
      rw [q, e] at this; cases this
  · refine hideAll_get _ e fun hm => ?_
    rcases List.mem_cons.mp hm with q | q
    · exact h1 q
    · exact h2 q
set_option maxHeartbeats 2000000 in
theorem other_c {w : World} {A : Around} {s : Shared} {n : Nat} {num : Int} {c : Nat} {k1 k2 : Tok} {Q E : Value → Shared → Prop}
   (hA : AOk n A) (hn : n < 450) (W : Wd w s.heap) (hc : c < 512)
   (hret : ∀ (k : Nat) tk s', k < 512 → Same s s' → s.heap.StaysIn s'.heap → Q (.int k tk) s') :
   wpAny (model Pg w) A (call (.ref 202) [.int num k1, .int c k2]) Q E s := by
  walk_at "kf"
  refine' fx_enter (binds := [(Str.ofString "number", .int num k1), (Str.ofString "chosen", .int c k2)]) hA (by omega) W ?ho ?hcd ?hbind ?hloc ?h ?hco ?hgen ?hk ?hcell
  walk_at "enter"
  repeat' (walk_at "s1")
  walk_at "st"
  walk_at "nx"
  repeat' (walk_at "s1")
  refine wpAny_For ?_ (fun _ => rfl)
  repeat' (walk_at "s1")
  refine fx_range H ?_
  clear H; intro r s₁ t1 t3 H
  refine fx_for_range 3 (fun i G m ms => ∃ (k : Nat) (tk k1 k2 : Tok), ms = [] ∧ k < 8 ^ i ∧ m (Str.ofString "number") = some (.int num k1) ∧ m (Str.ofString "chosen") = some (.int c k2) ∧ m (Str.ofString "other") = some (.int k tk)) hA' (H.drop (List.nil_sublist _)) (H.exact (i := 0) rfl) (by decide) (by decide) ⟨0, _, _, _, rfl, by decide, rfl, rfl, rfl⟩ ?_ ?_
  · clear H
    intro i ti hi G m ms I s₁ hG hP H
    refine body_K ?_
    intro Kb hKb
    obtain ⟨k, tk, k1, k2, rfl, hk, hmN, hmC, hmO⟩ := hP
    have W := W.mono hG
    refine assign_Name ?_
    walk_at "st"
    repeat' (walk_at "s1")
    have hpi : (8 : Int) ^ ((i : Int).toNat) = ((8 ^ i : Nat) : Int) := by simp
    have hp1 : 1 ≤ 8 ^ i := Nat.one_le_pow _ _ (by decide)
    have hp2 : 8 ^ i ≤ 64 := Nat.pow_le_pow_right (by decide) (show i ≤ 2 by omega)
    generalize hP8 : 8 ^ i = P8 at hpi hp1 hp2
    have hb8 : (Builtin.Int.intBits 8 : Int) = 4 := by decide
    refine fx_pow H (by omega) (by rw [hb8]; omega) ?_
    rw [hpi]
    clear H; intro s₁ _ H
    refine fx_fdiv H (by omega) (by omega) ?_
    clear H; intro s₁ _ H
    repeat' (walk_at "s1")
    have hr1 : 0 ≤ ((c : Int).fdiv (P8 : Int)).fmod 8 := Int.fmod_nonneg_of_pos _ (by decide)
    have hr2 : ((c : Int).fdiv (P8 : Int)).fmod 8 < 8 := Int.fmod_lt_of_pos _ (by decide)
    generalize ((c : Int).fdiv (P8 : Int)).fmod 8 = row at hr1 hr2 ⊢
    walk_at "st"
    walk_at "nx"
    repeat' (walk_at "s1")
    refine fx_pow H (by omega) (by rw [hb8]; omega) ?_
    rw [hpi]
    clear H; intro s₁ _ H
    refine fx_fdiv H (by omega) (by omega) ?_
    clear H; intro s₁ _ H
    repeat' (walk_at "s1")
    have hw1 : 0 ≤ (num.fdiv (P8 : Int)).fmod 8 := Int.fmod_nonneg_of_pos _ (by decide)
    have hw2 : (num.fdiv (P8 : Int)).fmod 8 < 8 := Int.fmod_lt_of_pos _ (by decide)
    generalize (num.fdiv (P8 : Int)).fmod 8 = wish at hw1 hw2 ⊢
    walk_at "st"
    walk_at "nx"
    walk_at "s1"
    refine wpAny_mono (Q := fun f s' => f = .next ∧ ∃ (G' : Heap) (m' : Str → Option Value) (wish : Int) (tw : Tok), G.StaysIn G' ∧ FX G' L s s' m' [(I, rangeP (i + 1) 3)] ∧ 0 ≤ wish ∧ wish < 8 ∧ m' (Str.ofString "wish") = some (.int wish tw) ∧ m' (Str.ofString "space") = some (.int i ti) ∧ m' (Str.ofString "number") = some (.int num k1) ∧ m' (Str.ofString "chosen") = some (.int c k2) ∧ m' (Str.ofString "other") = some (.int k tk)) ?_ (fun f s' hf => ?_) (fun _ _ x => x)
    · repeat' (walk_at "s1")
      split
      · repeat' (walk_at "s1")
        refine sub_tmp ?_
        repeat' (walk_at "s1")
        refine fx_list H ?_ (by simp [sizeLine])
        clear H; intro a₀ s₁ H _
        repeat' (walk_at "s1")
        refine fx_list H ?_ (by simp [sizeLine])
        clear H; intro a₁ s₁ H _
        repeat' (walk_at "s1")
        refine fx_list H ?_ (by simp [sizeLine])
        clear H; intro a₂ s₁ H _
        repeat' (walk_at "s1")
        refine fx_list H ?_ (by simp [sizeLine])
        clear H; intro a₃ s₁ H _
        repeat' (walk_at "s1")
        refine fx_list H ?_ (by simp [sizeLine])
        clear H; intro a₄ s₁ H _
        repeat' (walk_at "s1")
        have hidx : row.fmod 2 + (row.fdiv 2).fmod 2 + row.fdiv 4 = 0 ∨ row.fmod 2 + (row.fdiv 2).fmod 2 + row.fdiv 4 = 1 ∨ row.fmod 2 + (row.fdiv 2).fmod 2 + row.fdiv 4 = 2 ∨ row.fmod 2 + (row.fdiv 2).fmod 2 + row.fdiv 4 = 3 := by
          rw [Int.fmod_eq_emod_of_nonneg _ (by decide), Int.fmod_eq_emod_of_nonneg _ (by decide), Int.fdiv_eq_ediv_of_nonneg _ (by decide), Int.fdiv_eq_ediv_of_nonneg _ (by decide)]
          omega
        have hit : ∃ (a : Addr) (vs : List Value), (#[Value.ref a₀, Value.ref a₁, Value.ref a₂, Value.ref a₃] : Array Value)[(row.fmod 2 + (row.fdiv 2).fmod 2 + row.fdiv 4).toNat]? = some (Value.ref a) ∧ s₁.heap.IsList a vs.toArray ∧ 0 < vs.length ∧ vs.length ≤ 3 ∧ ∀ j < vs.length, ∃ (k : Int) (tk : Tok), vs[j]? = some (Value.int k tk) ∧ 0 ≤ k ∧ k < 8 := by
          rcases hidx with hi0 | hi0 | hi0 | hi0
          · exact ⟨a₀, _, by rw [hi0]; rfl, H.list (i := 4) rfl, by simp, by simp, fun j hj => by
              obtain rfl : j = 0 := by simp at hj; omega
              exact ⟨_, _, rfl, by decide, by decide⟩⟩
          · exact ⟨a₁, _, by rw [hi0]; rfl, H.list (i := 3) rfl, by simp, by simp, fun j hj => by
              obtain rfl | rfl | rfl : j = 0 ∨ j = 1 ∨ j = 2 := by simp at hj; omega
              all_goals exact ⟨_, _, rfl, by decide, by decide⟩⟩
          · exact ⟨a₂, _, by rw [hi0]; rfl, H.list (i := 2) rfl, by simp, by simp, fun j hj => by
              obtain rfl | rfl | rfl : j = 0 ∨ j = 1 ∨ j = 2 := by simp at hj; omega
              all_goals exact ⟨_, _, rfl, by decide, by decide⟩⟩
          · exact ⟨a₃, _, by rw [hi0]; rfl, H.list (i := 1) rfl, by simp, by simp, fun j hj => by
              obtain rfl : j = 0 := by simp at hj; omega
              exact ⟨_, _, rfl, by decide, by decide⟩⟩
        obtain ⟨aR, vs, hx, hlR, hv0, hv3, hvs⟩ := hit
        refine fx_itemL (v := .ref aR) (H.list (i := 0) rfl) (by omega) (by omega) hx ?_
        clear hx hidx
        have hltR := Heap.lt_size hlR.choose_spec.1
        have hneL : aR ≠ L := fun q => by
          obtain ⟨o, e, hcl, _⟩ := hlR
          obtain ⟨o', es, ep, e', hd', _⟩ := H.fh.ns
          rw [q, e'] at e; cases e
          obtain ⟨n, hq⟩ := ‹∃ n, _ = Data.seq _ n›
          rw [hd'] at hq; cases hq
        have hneI : aR ≠ I := fun q => by
          obtain ⟨o, e, hcl, _⟩ := hlR
          obtain ⟨⟨o', e', hp⟩, _⟩ := H.at (i := 5) rfl
          rw [q, e'] at e; cases e
          rw [hp] at hcl; exact absurd hcl (by simp)
        obtain ⟨G1, H', kG, all, -⟩ := H.rebase2 (ms' := [(I, rangeP (i + 1) 3)]) (List.Sublist.cons _ (List.Sublist.cons _ (List.Sublist.cons _ (List.Sublist.cons _ (List.Sublist.cons _ (List.Sublist.refl _))))))
        have W := W.mono kG
        have hlG : G1.IsList aR vs.toArray := hlR.at fun o e => all _ _ hneL (by simpa using hneI) e
        clear H
        have H := H'
        clear H'
        walk_at "st"
        walk_at "nx"
        repeat' (walk_at "s1")
        refine Subscript_BinOp ?_
        repeat' (walk_at "s1")
        refine fx_len H (H.glist hlG) (by rw [List.size_toArray]; omega) ?_
        rw [List.size_toArray]
        clear H; intro s₁ _ H
        refine fx_mod H (by omega) ?_
        clear H; intro s₁ _ H
        have hj1 : 0 ≤ wish.fmod (vs.length : Int) := Int.fmod_nonneg_of_pos _ (by omega)
        have hj2 : wish.fmod (vs.length : Int) < vs.length := Int.fmod_lt_of_pos _ (by omega)
        obtain ⟨kk, tkk, hkk, hk1, hk2⟩ := hvs (wish.fmod (vs.length : Int)).toNat (by omega)
        refine fx_itemL (v := .int kk tkk) (H.glist hlG) hj1 (by omega) (by simpa using hkk) ?_
        walk_at "st"
        walk_at "nx"
        repeat' (walk_at "s1")
        exact ⟨rfl, G1, _, kk, tkk, kG, H, hk1, hk2, rfl, rfl, hmN, hmC, hmO⟩
      · (repeat' (walk_at "s1")); refine ⟨rfl, G, _, wish, _, stays_refl _, H, hw1, hw2, rfl, rfl, hmN, hmC, hmO⟩
    · obtain ⟨rfl, G1, m1, wish, tw, kG, H, hw1, hw2, hmW, hmS, hmN, hmC, hmO⟩ := hf
      have W := W.mono kG
      walk_at "nx"
      repeat' (walk_at "s1")
      refine wpAny_AugAssign_Name ?_
      refine fx_ldn V H hmO ?_ (by rfl) (by rfl)
      repeat' (walk_at "s1")
      refine fx_pow H (by omega) (by rw [hb8]; omega) ?_
      rw [hpi]
      clear H; intro s₁ _ H
      refine fx_mul H ?_ (IntMulOk.of_right (intBits_le_64 (by omega) (by omega)))
      clear H; intro s₁ _ H
      refine fx_iadd H ?_
      clear H; intro s₁ tO H
      obtain ⟨wn, rfl⟩ : ∃ wn : Nat, wish = wn := ⟨wish.toNat, by omega⟩
      walk_at "st"
      walk_at "nx"
      repeat' (walk_at "s1")
      refine ⟨G1, _, [], kG, ?_, H⟩
      refine ⟨k + wn * P8, tO, k1, k2, rfl, ?_, hmN, hmC, ?_⟩
      rotate_left
      · show some (Value.int ((k : Int) + (wn : Int) * (P8 : Int)) tO) = some (Value.int ((k + wn * P8 : Nat) : Int) tO)
        rw [Int.natCast_add, Int.natCast_mul]
      rw [Nat.pow_succ, hP8]
      rw [hP8] at hk
      have : wn * P8 ≤ 7 * P8 := Nat.mul_le_mul_right _ (by omega)
      omega
  · intro G m ms s₁ hG hP H
    obtain ⟨k, tk, k1, k2, rfl, hk, hmN, hmC, hmO⟩ := hP
    walk_at "nx"
    repeat' (walk_at "s1")
    exact hret k tk s₁ hk H.same (stays_trans hG H.keep)
def wd (m k : Nat) (x y : String) : PySem.Str := if m / 2 ^ k % 2 = 0 then PySem.Str.ofString x else PySem.Str.ofString y
def bareOf (m : Nat) : List Tag := [(wd m 0 "a" "a*", 1), (wd m 1 "b" "*b", 2), (wd m 2 "ba" "b*a", 4)]
def oneOf (m : Nat) : PySem.Str := wd m 3 "{u}" "{*u}"
def twoOf (m : Nat) : PySem.Str := wd m 4 "{uu}" "{u*}"
def tagsOf (m : Nat) : List Tag :=
  [(PySem.Str.ofString "{}*", 7), (oneOf m ++ PySem.Str.ofString "*", 56), (twoOf m ++ PySem.Str.ofString "*", 448)] ++ (bareOf m).map (fun t => (PySem.Str.ofString "{*}" ++ t.1, 73 * t.2)) ++ [(PySem.Str.ofString "{*}*", 511)]
  ++ bareOf m ++ (bareOf m).map (fun t => (oneOf m ++ t.1, 8 * t.2)) ++ (bareOf m).map (fun t => (twoOf m ++ t.1, 64 * t.2))
def nine : List Nat := [1, 2, 4, 8, 16, 32, 64, 128, 256]
def cnt (x : Nat) : Nat := (nine.filter fun b => x &&& b != 0).length
theorem tags_masks (m : Nat) : ((tagsOf m).drop 7).map (·.2) = nine := rfl
theorem tags_wild (m : Nat) : ((tagsOf m).take 7).map (·.2) = [7, 56, 448, 73, 146, 292, 511] := rfl
theorem count_tags (m x : Nat) : countOf (tagsOf m) x = cnt x := by
  unfold countOf namesOf cnt
  rw [← tags_masks m, List.filter_map, List.length_map]
  rfl
theorem nodup_all : ∀ m < 32, decide (((tagsOf m).map (·.1)).Nodup) = true := by decide +kernel
theorem short_all : ∀ m < 32, ((tagsOf m).all fun t => PySem.PyData.strOk t.1 && decide (1 ≤ t.1.length) && decide (t.1.length ≤ 64)) = true := by decide +kernel
def selOk (m : Nat) : Bool := (tagsOf m).all fun t => ((tagsOf m).drop 7).all fun u => (if isWild t.1 = true then passS t.1 u.1 else u.1 == t.1) == hits t.2 u
theorem sel_a : ∀ m < 16, selOk m = true := by decide +kernel
theorem sel_b : ∀ m < 16, selOk (m + 16) = true := by decide +kernel
theorem wild_all : ∀ m < 32, ((tagsOf m).take 7).all (fun t => isWild t.1) = true ∧ ((tagsOf m).drop 7).all (fun t => !isWild t.1) = true := by decide +kernel
theorem cnt_zero : ∀ x < 512, (x != 0) = (cnt x != 0) := by decide +kernel
theorem bits_small (m : Nat) : ∀ t ∈ tagsOf m, t.2 < 512 := by
  have h : ((tagsOf m).map (·.2)).all (· < 512) = true := by
    have : (tagsOf m).map (·.2) = [7, 56, 448, 73, 146, 292, 511, 1, 2, 4, 8, 16, 32, 64, 128, 256] := rfl
    rw [this]; decide
  intro t ht
  have := List.all_eq_true.mp h t.2 (List.mem_map_of_mem ht)
  exact of_decide_eq_true this
def isPow (b : Nat) : Prop := ∃ k : Nat, b = 2 ^ k
theorem nine_pow : ∀ b ∈ nine, isPow b := by
  intro b hb
  have h : ∀ k, isPow (2 ^ k) := fun k => ⟨k, rfl⟩
  simp only [nine, List.mem_cons, List.not_mem_nil, or_false] at hb
  rcases hb with rfl | rfl | rfl | rfl | rfl | rfl | rfl | rfl | rfl
  · exact h 0
  · exact h 1
  · exact h 2
  · exact h 3
  · exact h 4
  · exact h 5
  · exact h 6
  · exact h 7
  · exact h 8
theorem hits_pow (c k : Nat) (x : PySem.Str) : hits c (x, 2 ^ k) = c.testBit k := by
  show (c &&& 2 ^ k != 0) = _
  have e : ∀ j, (c &&& 2 ^ k).testBit j = (c.testBit j && decide (k = j)) := fun j => by rw [Nat.testBit_and, Nat.testBit_two_pow]
  cases h : c.testBit k with
  | true =>
    have := e k
    rw [h] at this
    simp only [decide_true, Bool.and_self] at this
    rw [bne_iff_ne]
    intro z
    rw [z] at this
    simp at this
  | false =>
    have : c &&& 2 ^ k = 0 := Nat.eq_of_testBit_eq fun j => by
      rw [e j, Nat.zero_testBit]
      by_cases q : k = j
      · subst q; rw [h]; rfl
      · simp [q]
    rw [this]; rfl
theorem tags_ok {m : Nat} (hm : m < 32) : TagsOK (tagsOf m) := by
  have hs := List.all_eq_true.mp (short_all m hm)
  refine ⟨⟨(by decide : 16 ≤ 64), fun t ht => ?_⟩, of_decide_eq_true (nodup_all m hm), fun t ht => ?_, fun t ht u hu => ?_, fun u hu c b => ?_, fun t ht c => ?_⟩
  · have := hs t ht
    simp only [Bool.and_eq_true, decide_eq_true_eq] at this
    exact this.2
  · have := hs t ht
    simp only [Bool.and_eq_true, decide_eq_true_eq] at this
    exact ⟨this.1.1, this.1.2⟩
  · have h : selOk m = true := by
      rcases Nat.lt_or_ge m 16 with q | q
      · exact sel_a m q
      · have := sel_b (m - 16) (by omega)
        rwa [show m - 16 + 16 = m by omega] at this
    have := List.all_eq_true.mp (List.all_eq_true.mp h t ht) u hu
    exact eq_of_beq this
  · obtain ⟨k, hk⟩ := nine_pow u.2 (by rw [← tags_masks m]; exact List.mem_map_of_mem hu)
    obtain ⟨x, y⟩ := u
    simp only at hk
    subst hk
    rw [hits_pow, hits_pow, hits_pow, Nat.testBit_and]
  · have h1 := bits_small m t ht
    have h2 : c &&& t.2 < 512 := Nat.lt_of_le_of_lt Nat.and_le_right h1
    rw [count_tags]
    exact cnt_zero _ h2
def lhs : List (Nat × Nat) := [(1, 2), (1, 4), (2, 4)]
def uds : List (Nat × Nat) := [(1, 8), (1, 64), (8, 64)]
def exOne (lh ud : Nat × Nat) : Nat := lh.1 * ud.1 + lh.2 * ud.2
def exOther (lh ud : Nat × Nat) : Nat := lh.2 * ud.1 + lh.1 * ud.2
def exSum (lh ud : Nat × Nat) : Nat := exOne lh ud + exOther lh ud
/-- one exchange tried -/
def tryEx (k : Nat) (r : List Nat) (lh ud : Nat × Nat) : List Nat :=
  if ([exOne lh ud, exOther lh ud].any (· == (r.getD k 0 &&& exSum lh ud)) && !(r.any (· == (r.getD k 0 ^^^ exSum lh ud)))) = true then r ++ [r.getD k 0 ^^^ exSum lh ud] else r
def tryRow (k : Nat) (r : List Nat) (lh : Nat × Nat) (l : List (Nat × Nat)) : List Nat := l.foldl (fun r ud => tryEx k r lh ud) r
def turnOf (k : Nat) (r : List Nat) (l : List (Nat × Nat)) : List Nat := l.foldl (fun r lh => tryRow k r lh uds) r
def nxt (k : Nat) (r : List Nat) : List Nat := if k < r.length then turnOf k r lhs else r
def st (c : Nat) : Nat → List Nat
  | 0 => [c]
  | k + 1 => nxt k (st c k)
def reachedOf (c : Nat) : List Nat := st c 6
def keyN (c : Nat) : Nat := cnt (c &&& 7) + 4 * cnt (c &&& 56) + 16 * cnt (c &&& 448) + 64 * cnt (c &&& 73) + 256 * cnt (c &&& 146) + 1024 * cnt (c &&& 292)
def tbl : List (Nat × List Nat) := [(0, [0]),
  (65, [1]),
  (68, [8]),
  (80, [64]),
  (133, [9]),
  (145, [65]),
  (148, [72]),
  (213, [73]),
  (257, [2]),
  (260, [16]),
  (272, [128]),
  (322, [3]),
  (325, [10, 17]),
  (328, [24]),
  (337, [66, 129]),
  (340, [80, 136]),
  (352, [192]),
  (390, [11]),
  (393, [25]),
  (402, [67]),
  (405, [74, 81, 137]),
  (408, [88]),
  (417, [193]),
  (420, [200]),
  (470, [75]),
  (473, [89]),
  (485, [201]),
  (517, [18]),
  (529, [130]),
  (532, [144]),
  (582, [19]),
  (585, [26]),
  (594, [131]),
  (597, [82, 138, 145]),
  (600, [152]),
  (609, [194]),
  (612, [208]),
  (650, [27]),
  (662, [83, 139]),
  (665, [90, 153]),
  (674, [195]),
  (677, [202, 209]),
  (680, [216]),
  (730, [91]),
  (742, [203]),
  (745, [217]),
  (789, [146]),
  (854, [147]),
  (857, [154]),
  (869, [210]),
  (922, [155]),
  (934, [211]),
  (937, [218]),
  (1002, [219]),
  (1025, [4]),
  (1028, [32]),
  (1040, [256]),
  (1090, [5]),
  (1093, [12, 33]),
  (1096, [40]),
  (1105, [68, 257]),
  (1108, [96, 264]),
  (1120, [320]),
  (1158, [13]),
  (1161, [41]),
  (1170, [69]),
  (1173, [76, 97, 265]),
  (1176, [104]),
  (1185, [321]),
  (1188, [328]),
  (1238, [77]),
  (1241, [105]),
  (1253, [329]),
  (1282, [6]),
  (1285, [20, 34]),
  (1288, [48]),
  (1297, [132, 258]),
  (1300, [160, 272]),
  (1312, [384]),
  (1347, [7]),
  (1350, [14, 21, 35]),
  (1353, [28, 42, 49]),
  (1356, [56]),
  (1362, [70, 133, 259]),
  (1365, [84, 98, 140, 161, 266, 273]),
  (1368, [112, 168, 280]),
  (1377, [196, 322, 385]),
  (1380, [224, 336, 392]),
  (1392, [448]),
  (1415, [15]),
  (1418, [29, 43]),
  (1421, [57]),
  (1427, [71]),
  (1430, [78, 85, 99, 141, 267]),
  (1433, [92, 106, 113, 169, 281]),
  (1436, [120]),
  (1442, [197, 323]),
  (1445, [204, 225, 330, 337, 393]),
  (1448, [232, 344]),
  (1457, [449]),
  (1460, [456]),
  (1495, [79]),
  (1498, [93, 107]),
  (1501, [121]),
  (1510, [205, 331]),
  (1513, [233, 345]),
  (1525, [457]),
  (1542, [22]),
  (1545, [50]),
  (1554, [134]),
  (1557, [148, 162, 274]),
  (1560, [176]),
  (1569, [386]),
  (1572, [400]),
  (1607, [23]),
  (1610, [30, 51]),
  (1613, [58]),
  (1619, [135]),
  (1622, [86, 142, 149, 163, 275]),
  (1625, [114, 156, 170, 177, 282]),
  (1628, [184]),
  (1634, [198, 387]),
  (1637, [212, 226, 338, 394, 401]),
  (1640, [240, 408]),
  (1649, [450]),
  (1652, [464]),
  (1675, [31]),
  (1678, [59]),
  (1687, [87, 143]),
  (1690, [94, 115, 157, 171, 283]),
  (1693, [122, 185]),
  (1699, [199]),
  (1702, [206, 213, 227, 339, 395]),
  (1705, [220, 234, 241, 346, 409]),
  (1708, [248]),
  (1714, [451]),
  (1717, [458, 465]),
  (1720, [472]),
  (1755, [95]),
  (1758, [123]),
  (1767, [207]),
  (1770, [221, 235, 347]),
  (1773, [249]),
  (1782, [459]),
  (1785, [473]),
  (1814, [150]),
  (1817, [178]),
  (1829, [402]),
  (1879, [151]),
  (1882, [158, 179]),
  (1885, [186]),
  (1894, [214, 403]),
  (1897, [242, 410]),
  (1909, [466]),
  (1947, [159]),
  (1950, [187]),
  (1959, [215]),
  (1962, [222, 243, 411]),
  (1965, [250]),
  (1974, [467]),
  (1977, [474]),
  (2027, [223]),
  (2030, [251]),
  (2042, [475]),
  (2053, [36]),
  (2065, [260]),
  (2068, [288]),
  (2118, [37]),
  (2121, [44]),
  (2130, [261]),
  (2133, [100, 268, 289]),
  (2136, [296]),
  (2145, [324]),
  (2148, [352]),
  (2186, [45]),
  (2198, [101, 269]),
  (2201, [108, 297]),
  (2210, [325]),
  (2213, [332, 353]),
  (2216, [360]),
  (2266, [109]),
  (2278, [333]),
  (2281, [361]),
  (2310, [38]),
  (2313, [52]),
  (2322, [262]),
  (2325, [164, 276, 290]),
  (2328, [304]),
  (2337, [388]),
  (2340, [416]),
  (2375, [39]),
  (2378, [46, 53]),
  (2381, [60]),
  (2387, [263]),
  (2390, [102, 165, 270, 277, 291]),
  (2393, [116, 172, 284, 298, 305]),
  (2396, [312]),
  (2402, [326, 389]),
  (2405, [228, 340, 354, 396, 417]),
  (2408, [368, 424]),
  (2417, [452]),
  (2420, [480]),
  (2443, [47]),
  (2446, [61]),
  (2455, [103, 271]),
  (2458, [110, 117, 173, 285, 299]),
  (2461, [124, 313]),
  (2467, [327]),
  (2470, [229, 334, 341, 355, 397]),
  (2473, [236, 348, 362, 369, 425]),
  (2476, [376]),
  (2482, [453]),
  (2485, [460, 481]),
  (2488, [488]),
  (2523, [111]),
  (2526, [125]),
  (2535, [335]),
  (2538, [237, 349, 363]),
  (2541, [377]),
  (2550, [461]),
  (2553, [489]),
  (2570, [54]),
  (2582, [166, 278]),
  (2585, [180, 306]),
  (2594, [390]),
  (2597, [404, 418]),
  (2600, [432]),
  (2635, [55]),
  (2638, [62]),
  (2647, [167, 279]),
  (2650, [118, 174, 181, 286, 307]),
  (2653, [188, 314]),
  (2659, [391]),
  (2662, [230, 342, 398, 405, 419]),
  (2665, [244, 370, 412, 426, 433]),
  (2668, [440]),
  (2674, [454]),
  (2677, [468, 482]),
  (2680, [496]),
  (2703, [63]),
  (2715, [119, 175, 287]),
  (2718, [126, 189, 315]),
  (2727, [231, 343, 399]),
  (2730, [238, 245, 350, 371, 413, 427]),
  (2733, [252, 378, 441]),
  (2739, [455]),
  (2742, [462, 469, 483]),
  (2745, [476, 490, 497]),
  (2748, [504]),
  (2783, [127]),
  (2795, [239, 351]),
  (2798, [253, 379]),
  (2807, [463]),
  (2810, [477, 491]),
  (2813, [505]),
  (2842, [182]),
  (2854, [406]),
  (2857, [434]),
  (2907, [183]),
  (2910, [190]),
  (2919, [407]),
  (2922, [246, 414, 435]),
  (2925, [442]),
  (2934, [470]),
  (2937, [498]),
  (2975, [191]),
  (2987, [247, 415]),
  (2990, [254, 443]),
  (2999, [471]),
  (3002, [478, 499]),
  (3005, [506]),
  (3055, [255]),
  (3067, [479]),
  (3070, [507]),
  (3093, [292]),
  (3158, [293]),
  (3161, [300]),
  (3173, [356]),
  (3226, [301]),
  (3238, [357]),
  (3241, [364]),
  (3306, [365]),
  (3350, [294]),
  (3353, [308]),
  (3365, [420]),
  (3415, [295]),
  (3418, [302, 309]),
  (3421, [316]),
  (3430, [358, 421]),
  (3433, [372, 428]),
  (3445, [484]),
  (3483, [303]),
  (3486, [317]),
  (3495, [359]),
  (3498, [366, 373, 429]),
  (3501, [380]),
  (3510, [485]),
  (3513, [492]),
  (3563, [367]),
  (3566, [381]),
  (3578, [493]),
  (3610, [310]),
  (3622, [422]),
  (3625, [436]),
  (3675, [311]),
  (3678, [318]),
  (3687, [423]),
  (3690, [374, 430, 437]),
  (3693, [444]),
  (3702, [486]),
  (3705, [500]),
  (3743, [319]),
  (3755, [375, 431]),
  (3758, [382, 445]),
  (3767, [487]),
  (3770, [494, 501]),
  (3773, [508]),
  (3823, [383]),
  (3835, [495]),
  (3838, [509]),
  (3882, [438]),
  (3947, [439]),
  (3950, [446]),
  (3962, [502]),
  (4015, [447]),
  (4027, [503]),
  (4030, [510]),
  (4095, [511])]
theorem tryEx_pre (k : Nat) (r : List Nat) (lh ud : Nat × Nat) : r <+: tryEx k r lh ud := by
  unfold tryEx; split
  · exact List.prefix_append _ _
  · exact List.prefix_refl _
theorem tryRow_pre (k : Nat) (lh : Nat × Nat) (l : List (Nat × Nat)) : ∀ r, r <+: tryRow k r lh l := by
  induction l with
  | nil => intro r; exact List.prefix_refl _
  | cons u l ih => intro r; exact (tryEx_pre k r lh u).trans (ih _)
theorem turnOf_pre (k : Nat) (l : List (Nat × Nat)) : ∀ r, r <+: turnOf k r l := by
  induction l with
  | nil => intro r; exact List.prefix_refl _
  | cons u l ih => intro r; exact (tryRow_pre k u uds r).trans (ih _)
theorem nxt_pre (k : Nat) (r : List Nat) : r <+: nxt k r := by
  unfold nxt; split
  · exact turnOf_pre _ _ _
  · exact List.prefix_refl _
theorem st_pre (c : Nat) {j k : Nat} (h : j ≤ k) : st c j <+: st c k := by
  induction h with
  | refl => exact List.prefix_refl _
  | step _ ih => exact ih.trans (nxt_pre _ _)
def stOk (c : Nat) : Bool := (st c 6).all (fun x => decide (x < 512) && (keyN x == keyN c)) && decide ((st c 6).length ≤ 6)
theorem st_a : ∀ c < 128, stOk c = true := by decide +kernel
theorem st_b : ∀ c < 128, stOk (c + 128) = true := by decide +kernel
theorem st_c : ∀ c < 128, stOk (c + 256) = true := by decide +kernel
theorem st_d : ∀ c < 128, stOk (c + 384) = true := by decide +kernel
theorem split4 {p : Nat → Prop} (a : ∀ c < 128, p c) (b : ∀ c < 128, p (c + 128)) (c' : ∀ c < 128, p (c + 256)) (d : ∀ c < 128, p (c + 384)) {c : Nat} (hc : c < 512) : p c := by
  rcases Nat.lt_or_ge c 128 with q | q
  · exact a c q
  rcases Nat.lt_or_ge c 256 with q2 | q2
  · have := b (c - 128) (by omega)
    rwa [show c - 128 + 128 = c by omega] at this
  rcases Nat.lt_or_ge c 384 with q3 | q3
  · have := c' (c - 256) (by omega)
    rwa [show c - 256 + 256 = c by omega] at this
  · have := d (c - 384) (by omega)
    rwa [show c - 384 + 384 = c by omega] at this
theorem st_ok {c : Nat} (hc : c < 512) : stOk c = true := split4 (p := fun c => stOk c = true) st_a st_b st_c st_d hc
theorem st_len {c : Nat} (hc : c < 512) {k : Nat} (hk : k ≤ 6) : (st c k).length ≤ 6 := by
  have := st_ok hc
  simp only [stOk, Bool.and_eq_true, decide_eq_true_eq] at this
  exact Nat.le_trans (st_pre c hk).length_le this.2
theorem st_mem {c : Nat} (hc : c < 512) {x : Nat} (h : x ∈ reachedOf c) : x < 512 ∧ keyN x = keyN c := by
  have := st_ok hc
  simp only [stOk, Bool.and_eq_true, List.all_eq_true, decide_eq_true_eq, beq_iff_eq] at this
  exact this.1 x h
def tblAt (k : Nat) : List Nat := ((tbl.find? (·.1 == k)).map (·.2)).getD []
def inTbl (c : Nat) : Bool := (tblAt (keyN c)).any (· == c)
theorem tb_a : ∀ c < 128, inTbl c = true := by decide +kernel
theorem tb_b : ∀ c < 128, inTbl (c + 128) = true := by decide +kernel
theorem tb_c : ∀ c < 128, inTbl (c + 256) = true := by decide +kernel
theorem tb_d : ∀ c < 128, inTbl (c + 384) = true := by decide +kernel
def rowOk (row : Nat × List Nat) : Bool := row.2.all fun c => row.2.all fun d => (reachedOf c).any (· == d)
theorem tbl_a : (tbl.take 100).all rowOk = true := by decide +kernel
theorem tbl_b : ((tbl.drop 100).take 100).all rowOk = true := by decide +kernel
theorem tbl_c : ((tbl.drop 100).drop 100).all rowOk = true := by decide +kernel
theorem tbl_ok : tbl.all rowOk = true := by
  rw [← List.take_append_drop 100 tbl, List.all_append, tbl_a, ← List.take_append_drop 100 (tbl.drop 100), List.all_append, tbl_b, tbl_c]; rfl
theorem tblAt_ok {k c d : Nat} (hc : (tblAt k).any (· == c) = true) (hd : (tblAt k).any (· == d) = true) : (reachedOf c).any (· == d) = true := by
  unfold tblAt at hc hd
  cases e : tbl.find? (·.1 == k) with
  | none => rw [e] at hc; simp at hc
  | some row =>
    rw [e] at hc hd
    simp only [Option.map_some, Option.getD_some, List.any_eq_true, beq_iff_eq] at hc hd
    obtain ⟨c, hc, rfl⟩ := hc
    obtain ⟨d, hd, rfl⟩ := hd
    have h1 := List.all_eq_true.mp tbl_ok row (List.mem_of_find?_eq_some e)
    exact List.all_eq_true.mp (List.all_eq_true.mp h1 c hc) d hd
theorem reach_iff {c d : Nat} (hc : c < 512) (hd : d < 512) : (reachedOf c).any (· == d) = true ↔ keyN d = keyN c := by
  constructor
  · intro h
    obtain ⟨x, hx, e⟩ := List.any_eq_true.mp h
    rw [beq_iff_eq] at e
    subst e
    exact (st_mem hc hx).2
  · intro h
    have h1 : inTbl c = true := split4 (p := fun c => inTbl c = true) tb_a tb_b tb_c tb_d hc
    have h2 : inTbl d = true := split4 (p := fun c => inTbl c = true) tb_a tb_b tb_c tb_d hd
    unfold inTbl at h1 h2
    rw [h] at h2
    exact tblAt_ok h1 h2
def cntOk (c : Nat) : Bool := decide (cnt (c &&& 7) ≤ 3) && decide (cnt (c &&& 56) ≤ 3) && decide (cnt (c &&& 448) ≤ 3) && decide (cnt (c &&& 73) ≤ 3) && decide (cnt (c &&& 146) ≤ 3) && decide (cnt (c &&& 292) ≤ 3)
  && (cnt (c &&& 511) == cnt (c &&& 7) + cnt (c &&& 56) + cnt (c &&& 448))
theorem cnt_ok : ∀ c < 512, cntOk c = true := by decide +kernel
def sameC (b c d : Nat) : Prop := cnt (d &&& b) = cnt (c &&& b)
theorem key_iff {c d : Nat} (hc : c < 512) (hd : d < 512) : keyN d = keyN c ↔ (∀ b ∈ [7, 56, 448, 73, 146, 292, 511], cnt (d &&& b) = cnt (c &&& b)) := by
  have h1 := cnt_ok c hc
  have h2 := cnt_ok d hd
  simp only [cntOk, Bool.and_eq_true, decide_eq_true_eq, beq_iff_eq] at h1 h2
  unfold keyN
  simp only [List.forall_mem_cons, List.not_mem_nil, false_imp_iff, implies_true, and_true]
  omega
/-- the law's own word: no telling of a wildcard with a difference in its count, just if it was reached -/
theorem law_fact {m c d : Nat} (hm : m < 32) (hc : c < 512) (hd : d < 512) :
    (((tagsOf m).filter (hits d) ++ (tagsOf m).filter (fun t => hits c t && !hits d t)).filter (fun t => isWild t.1 && ((countOf (tagsOf m) (d &&& t.2) : Int) - (countOf (tagsOf m) (c &&& t.2) : Int) != 0))).isEmpty = (reachedOf c).any (· == d) := by
  have ok := tags_ok hm
  rw [Bool.eq_iff_iff, reach_iff hc hd, key_iff hc hd, List.isEmpty_iff, List.filter_eq_nil_iff]
  have hw := wild_all m hm
  have w7 : ∀ b ∈ [7, 56, 448, 73, 146, 292, 511], ∃ t ∈ tagsOf m, isWild t.1 = true ∧ t.2 = b := by
    intro b hb
    rw [← tags_wild m] at hb
    obtain ⟨t, ht, rfl⟩ := List.mem_map.mp hb
    exact ⟨t, List.mem_of_mem_take ht, List.all_eq_true.mp hw.1 t ht, rfl⟩
  have w7' : ∀ t ∈ tagsOf m, isWild t.1 = true → t.2 ∈ [7, 56, 448, 73, 146, 292, 511] := by
    intro t ht h
    rw [← List.take_append_drop 7 (tagsOf m)] at ht
    rcases List.mem_append.mp ht with q | q
    · rw [← tags_wild m]; exact List.mem_map_of_mem q
    · have := List.all_eq_true.mp hw.2 t q
      rw [h] at this; cases this
  have z : ∀ (t : Tag) (x : Nat), t ∈ tagsOf m → hits x t = false → cnt (x &&& t.2) = 0 := fun t x ht h => by
    have := ok.full t ht x
    rw [h, count_tags] at this
    simpa using this.symm
  constructor
  · intro h b hb
    obtain ⟨t, ht, hw, rfl⟩ := w7 b hb
    by_cases q : hits d t = true
    · have := h t (List.mem_append.mpr (.inl (List.mem_filter.mpr ⟨ht, q⟩)))
      rw [hw, count_tags, count_tags] at this
      simp only [Bool.true_and, bne_iff_ne, ne_eq, Decidable.not_not] at this
      omega
    · have q := Bool.eq_false_iff.mpr q
      by_cases q2 : hits c t = true
      · have := h t (List.mem_append.mpr (.inr (List.mem_filter.mpr ⟨ht, by rw [q2, q]; rfl⟩)))
        rw [hw, count_tags, count_tags] at this
        simp only [Bool.true_and, bne_iff_ne, ne_eq, Decidable.not_not] at this
        omega
      · have q2 := Bool.eq_false_iff.mpr q2
        rw [z t d ht q, z t c ht q2]
  · intro h t ht hp
    simp only [Bool.and_eq_true, bne_iff_ne, ne_eq] at hp
    have htT : t ∈ tagsOf m := by
      rcases List.mem_append.mp ht with q | q
      · exact (List.mem_filter.mp q).1
      · exact (List.mem_filter.mp q).1
    have := h t.2 (w7' t htT hp.1)
    rw [count_tags, count_tags] at hp
    omega
section
variable {prog : Program} {w : World} {A : Around} {E : Value → Shared → Prop} {s : Shared} {env : Env} {test : Expr} {body : List Stmt} {pos : Pos}
theorem while_loop {Q : Flow → Shared → Prop} (I : Nat → Shared → Prop) (n : Nat) (h : I n s)
    (turn : ∀ n s, I n s → wpAny (model prog w) A (isTrue test env (eval test env)) (fun b s₂ =>
        if b = true then wpAny (model prog w) A (execs body env) (fun f s₃ => match f with
            | .next | .cont => ∃ m, m < n ∧ I m s₃
            | .brk => Q .next s₃
            | .ret v => Q (.ret v) s₃) (fun _ _ => False) s₂
        else Q .next s₂) (fun _ _ => False) s) :
    wpAny (model prog w) A (exec (.While test body [] pos) env) Q E s := by
  refine wpAny_While (codeAny_whileLoop I (fun n s hI => no_e (wpAny_mono (turn n s hI) (fun b s₂ h₂ => ?_) fun _ _ x => x)) n h)
  cases b with
  | false =>
    simp only [Bool.false_eq_true, if_false] at h₂ ⊢
    exact wpAny_execs_nil h₂
  | true =>
    simp only [if_true] at h₂ ⊢
    refine no_e (wpAny_mono h₂ (fun f s₃ h₃ => ?_) fun _ _ x => x)
    cases f <;> exact h₃
end
section
variable {prog : Program} {w : World} {A : Around} {E : Value → Shared → Prop} {s s' s₀ : Shared} {g : Heap} {env : Env} {sc : Scope} {L l a d : Addr} {cl : List (Str × Addr)} {m : Str → Option Value} {ms : Mut} {n : Nat} {h' : Heap} {pos : Pos}
/-- all stands as it stood -/
theorem FX.lib0 {tk : Nat} (H : FX g L s₀ s m ms) (F : Fr noHeap L h' m) (N : News noHeap L h' (others s.heap [L])) : FX g L s₀ { s with heap := h', toks := tk } m ms := by
  have hk : ∀ a o, a ≠ L → s.heap.get? a = some o → h'.get? a = some o := fun a o h1 e => (N (a, o) (mem_others.mpr ⟨by simpa using h1, e⟩)).1
  refine ⟨⟨F.ns, fun b o e => hk b o (fun q => by rw [q, H.fh.off] at e; cases e) (H.keep _ _ e), H.fh.off, fun q hq => ?_, H.fh.nodup⟩, H.same.trans (Same.mk' ..)⟩
  obtain ⟨⟨o', e, r⟩, z⟩ := H.fh.tur q hq
  exact ⟨⟨o', hk _ _ z.1 e, r⟩, z⟩
theorem fx_sum {vs : List Value} {ns : List Int} {Q : Value → Shared → Prop} (hA : AOk n A) (H : FX g L s₀ s m ms) (hl : s.heap.IsList l vs.toArray) (hi : IntsAre vs ns) (h : ∀ s' t', FX g L s₀ s' m ms → Q (.int ns.sum t') s') :
    wpAny (model prog w) A (call (.builtin "sum") [.ref l]) Q E s :=
  PyProof.Rows.LSm.sum_ints (lib_fr H.fh.ns) lib_all hA.hh hl hi fun _ _ _ F N => h _ _ (H.lib0 F N)
theorem ne_bools {x y : Bool} {Q : Value → Shared → Prop} (h : Q (.bool (!(x == y))) s) : wpAny (model prog w) A (compareOp .NotEq (.bool x) (.bool y)) Q E s := SeqAt.RcNeAt.bool_bool x y prog w E Q h
theorem fx_itemT {items : Array Value} {v : Value} {k : Nat} {t : Tok} {Q : Value → Shared → Prop} (hl : s.heap.IsTuple l items) (hf : k < 1024) (hx : items[k]? = some v) (h : Q v s) : ItemOn (model prog w) A E (.ref l) (.int k t) Q s := by
  have ht : IsTup s.heap l items := hl
  have hlt : k < items.size := (Array.getElem?_eq_some_iff.mp hx).1
  exact ⟨"tuple", _, F.slot_tuple_getitem.lookup, ht.typeIs, getItem_tuple ht (by omega) (by omega) (by unfold seqIndex?; simp; omega) hx h⟩
/-- a slice of a list that was only laid out to be cut -/
theorem slice_tmp {value : Expr} {lower upper : Option Expr} {p : Pos} {Q : Value → Shared → Prop}
    (h : wpAny (model prog w) A (eval value env) (fun o s₁ => wpAny (model prog w) A (evalPart lower env) (fun vl s₂ => wpAny (model prog w) A (evalPart upper env) (fun vu s₃ =>
      ∃ l items lo hi g L s₀ m ms, o = .ref l ∧ s₃.heap.IsList l items ∧ items.size ≤ sizeLine ∧ IsPart vl lo ∧ IsPart vu hi ∧ FX g L s₀ s₃ m ms ∧
        ∀ a s', FX g L s₀ s' m ((a, listP (slicePick items lo hi none).toList) :: ms) → s₃.heap.objs.size ≤ a → Q (.ref a) s') E s₂) E s₁) E s) :
    wpAny (model prog w) A (eval (.Subscript value (.Slice lower upper none p) pos) env) Q E s := by
  rw [eval_Subscript]
  refine wpAny_bind (wpAny_mono h (fun o s₁ h₁ => wpAny_bind (wpAny_holding (wpAny_Slice (wpAny_mono h₁ (fun vl s₂ h₂ => wpAny_mono h₂ (fun vu s₃ h₃ => ?_) fun _ _ x => x) fun _ _ x => x)))) fun _ _ x => x)
  rw [evalPart_none]
  refine wpAny_pure (wpAny_bind (wpAny_standAt ?_))
  obtain ⟨l, items, lo, hi, g, L, s₀, m, ms, rfl, hl, hz, pl, pu, H, k⟩ := h₃
  have H1 := H.fh.push (o := { cls := .type "slice", data := .fields #[vl, vu, .none] }) rfl (p := fun _ => True) trivial
  have H2 := H1.push (o := { cls := .type "list", data := .seq (slicePick items lo hi none) }) rfl (p := listP (slicePick items lo hi none).toList) ⟨0, by simp⟩
  have hT := (hl.push { cls := .type "slice", data := .fields #[vl, vu, .none] }).typeIs (s := { s₃ with heap := s₃.heap.push { cls := .type "slice", data := .fields #[vl, vu, .none] } })
  have got := wpAny_getItem_list_slice (prog := prog) (w := w) (A := A) (E := E) (Q := fun r s' => Q r s') (s := { s₃ with heap := s₃.heap.push { cls := .type "slice", data := .fields #[vl, vu, .none] } }) (hl.push _) (Heap.IsSliceOf.new ..) pl pu .none (by simp)
    (k _ _ (H.to' (H2.drop (ms' := (_, listP (slicePick items lo hi none).toList) :: ms) (by simp))) (by rw [Heap.size_push]; exact Nat.le_succ _)) hz
  have fin := wpAny_operating (vs := [Value.ref s₃.heap.objs.size, .ref l]) (wpAny_mono got (fun r s₄ h₄ => (show wpAny (model prog w) A (letTemporaryGo value (.ref l) r >>= fun _ => pure r) Q E s₄ from wpAny_bind (wpAny_letTemporaryGo (wpAny_pure h₄)))) fun _ _ x => x)
  first
    | (refine wpAny_bind ?_; rw [getitemInPython_of_ne hT.not_modules]; refine wpAny_bind (wpAny_specialOf hT list_getitem_lookup ?_))
    | refine wpAny_bind (wpAny_specialOf hT list_getitem_lookup ?_)
  first
    | exact wpAny_pure (wpAny_bind fin)
    | exact wpAny_bind (wpAny_pure (wpAny_bind fin))
    | exact wpAny_bind fin
/-- a dict's copy -/
theorem fx_dictC {kvs : List (PySem.Str × Value)} {Q : Value → Shared → Prop} (H : FX g L s₀ s m ms) (hd : s.heap.DictOf (strKind prog w) d kvs) (hdS : (d == sysModules) = false) (hsz : kvs.length ≤ sizeLine)
    (h : ∀ a s', FX g L s₀ s' m ((a, dictP prog w kvs) :: ms) → s.heap.objs.size ≤ a → Q (.ref a) s') : wpAny (model prog w) A (call (.type "dict") [.ref d]) Q E s := by
  refine kt_call_dict (knd := strKind prog w) hdS hd hsz fun h' hd' hs => ?_
  have H1 := H.fh.push (o := { cls := .type "dict", data := .dict #[] }) rfl (p := fun _ => True) trivial
  obtain ⟨o, ho, hp⟩ := dictP.of (s := { s with heap := h' }) hd'
  exact h _ _ (H.to' (H1.upd (i := 0) rfl hs.extBut ho hp)) (Nat.le_refl _)
/-- a call that turned an object of no account -/
theorem FX.extOut (H : FX g L s₀ s m ms) (S : Same s s') (hg : g.get? d = none) (hL : d ≠ L) (hms : d ∉ ms.map (·.1)) (hx : Heap.ExtBut d s.heap s'.heap) : FX (ext g s.heap.objs.size s'.heap) L s₀ s' m ms := by
  refine ⟨⟨H.fh.ns.extBut hx (Ne.symm hL), ext_in, ext_off H.fh.off H.lt, fun p hp => ?_, H.fh.nodup⟩, H.same.trans S⟩
  obtain ⟨⟨o, e, r⟩, z1, z2⟩ := H.fh.tur p hp
  exact ⟨⟨o, hx _ _ (fun q => hms (q ▸ List.mem_map_of_mem hp)) e, r⟩, z1, ext_off z2 (Heap.lt_size e)⟩
theorem extOut_keep (H : FX g L s₀ s m ms) (hg : g.get? d = none) (hx : Heap.ExtBut d s.heap s'.heap) : g.StaysIn (ext g s.heap.objs.size s'.heap) := ext_old fun b o e => hx b o (fun q => by rw [q, hg] at e; cases e) (H.keep _ _ e)
end
/-- all that stands, but for the frame and the table -/
theorem FX.liftL {gt g : Heap} {L : Addr} {s₀ s : Shared} {m : Str → Option Value} (H : FX g L s₀ s m [(30, tabP gt)]) : ∃ g', FX g' L s₀ s m [(30, tabP gt)] ∧ g.StaysIn g' ∧ g'.StaysIn s.heap ∧
    (∀ n, L < n → 30 < n → (above n s.heap).StaysIn g') ∧ (∀ (a : Addr) (its : Array Value), s.heap.IsList a its → g'.IsList a its) := by
  obtain ⟨g', H', k, all, k'⟩ := H.rebase2 (ms' := [(30, tabP gt)]) (List.Sublist.refl _)
  refine ⟨g', H', k, k', fun n h1 h2 b o e => ?_, fun a its hl => ?_⟩
  · have hge := above_ge e
    refine all b o (fun q => by rw [q] at hge; exact absurd h1 (Nat.not_lt.mpr hge)) (fun q => ?_) (of_hideAll _ e)
    simp only [List.map_cons, List.map_nil, List.mem_singleton] at q
    rw [q] at hge; exact absurd h2 (Nat.not_lt.mpr hge)
  · obtain ⟨o, e, hc, hd⟩ := hl
    refine ⟨o, all a o (fun q => ?_) (fun q => ?_) e, hc, hd⟩
    · obtain ⟨o', es, ep, e', hd', _⟩ := H.fh.ns
      rw [q, e'] at e; cases e
      obtain ⟨n, hq⟩ := hd
      rw [hd'] at hq; cases hq
    · simp only [List.map_cons, List.map_nil, List.mem_singleton] at q
      obtain ⟨⟨o', e', ps, rfl, _⟩, _⟩ := H.at (i := 0) rfl
      rw [q, e'] at e; cases e
      exact absurd hc (by simp [tabObj])
/-! ## what the rows say -/
def dueData (T : List Tag) (c1 c2 : Nat) (t : Tag) : PyData := .tuple [.str t.1, .int (sizeOf' T (c2 &&& t.2)), .int ((sizeOf' T (c2 &&& t.2) : Int) - (sizeOf' T (c1 &&& t.2) : Int)), .int (countOf T (c2 &&& t.2)), .int ((countOf T (c2 &&& t.2) : Int) - (countOf T (c1 &&& t.2) : Int))]
theorem reads_due {T : List Tag} {c1 c2 : Nat} {h : Heap} {t : Tag} {y : Value} (x : dueOf T c1 c2 h t y) : Reads h y (dueData T c1 c2 t) [] := by
  obtain ⟨a, tk, t1, t2, t3, t4, rfl, o, e, hc, n, hd⟩ := x
  refine Reads.tuple e hc hd ?_
  exact .cons (as := []) (bs := []) (.str _ _) (.cons (as := []) (bs := []) (.int _ _) (.cons (as := []) (bs := []) (.int _ _) (.cons (as := []) (bs := []) (.int _ _) (.cons (as := []) (bs := []) (.int _ _) .nil))))
theorem reads_dues {T : List Tag} {c1 c2 : Nat} {h : Heap} {D : Addr} {l : List Tag} {ys : List Value} (hl : h.IsList D ys.toArray) (P : Paired (dueOf T c1 c2 h) l ys) : Reads h (.ref D) (.list (l.map (dueData T c1 c2))) [D] := by
  obtain ⟨o, e, hc, n, hd⟩ := hl
  have all : ReadsAll h ys (l.map (dueData T c1 c2)) [] := by
    clear hd
    induction P with
    | nil => exact .nil
    | cons f _ ih => exact ReadsAll.cons (as := []) (bs := []) (reads_due f) ih
  exact Reads.list e hc hd (by simpa using all)
theorem shaped_dues {T : List Tag} {c1 c2 : Nat} {l : List Tag} (h : ∀ t ∈ l, PyData.strOk t.1 = true) : PySem.SeqAt.shaped (.list (l.map (dueData T c1 c2))) = true := by
  have h1 : PyData.canLayAll0 (l.map (dueData T c1 c2)) = true := by
    induction l with
    | nil => rfl
    | cons x r ih =>
      simp only [List.map_cons, PyData.canLayAll0, dueData, PyData.canLay0, Bool.and_eq_true, Bool.and_true]
      exact ⟨h x (by simp), ih fun y hy => h y (List.mem_cons_of_mem _ hy)⟩
  have h2 : PyData.depthAll (l.map (dueData T c1 c2)) ≤ 1 := by
    clear h h1
    induction l with
    | nil => exact Nat.zero_le _
    | cons x r ih => simp only [List.map_cons, PyData.depthAll, PyData.depth, dueData]; exact Nat.max_le.mpr ⟨by decide, ih⟩
  unfold PySem.SeqAt.shaped
  simp only [PyData.canLay0, h1, PyData.depth, Bool.true_and]
  exact decide_eq_true (by omega)
theorem eqv_due (T : List Tag) (c1 c2 : Nat) (t : Tag) : PyData.eqv (dueData T c1 c2 t) (dueData T c1 c2 t) = true := by simp [dueData, PyData.eqv, PyData.eqvAll]
theorem eqv_dues (T : List Tag) (c1 c2 : Nat) (l : List Tag) : PyData.eqv (.list (l.map (dueData T c1 c2))) (.list (l.map (dueData T c1 c2))) = true := by
  simp only [PyData.eqv]
  induction l with
  | nil => rfl
  | cons t r ih => simp only [List.map_cons, PyData.eqvAll, eqv_due, ih, Bool.and_self]
theorem eqv_dues_nil (T : List Tag) (c1 c2 : Nat) (l : List Tag) : PyData.eqv (.list (l.map (dueData T c1 c2))) (.list []) = l.isEmpty := by cases l <;> simp [PyData.eqv, PyData.eqvAll]
theorem xor_add (a b : Nat) : (a ^^^ b) + 2 * (a &&& b) = a + b := by
  induction a using Nat.strongRecOn generalizing b with
  | ind a ih =>
    by_cases h0 : a = 0
    · subst h0; simp
    · have ih := ih (a / 2) (by omega) (b / 2)
      rw [← Nat.xor_div_two, ← Nat.and_div_two] at ih
      have h3 := @Nat.xor_mod_two_eq_one a b
      have h4 := @Nat.and_mod_two_eq_one a b
      omega
theorem bitXor_nat (a b : Nat) : Builtin.bitXor (a : Int) (b : Int) = ((a ^^^ b : Nat) : Int) := by
  rw [bitXor_and, bitAnd_nat]
  have := xor_add a b
  omega
theorem ints_snoc {vs : List Value} {ns : List Int} (h : IntsAre vs ns) (k : Int) (t : Tok) : IntsAre (vs ++ [.int k t]) (ns ++ [k]) := by
  induction h with
  | nil => exact .cons _ _ .nil
  | cons n t _ ih => exact .cons _ _ ih
theorem ints_at {vs : List Value} {ns : List Int} (h : IntsAre vs ns) : ∀ {i : Nat} {k : Int}, ns[i]? = some k → ∃ t, vs[i]? = some (.int k t) := by
  induction h with
  | nil => intro i k e; simp at e
  | cons n t _ ih =>
    intro i k e
    cases i with
    | zero => cases e; exact ⟨_, rfl⟩
    | succ i => exact ih e
abbrev castL (r : List Nat) : List Int := r.map fun x : Nat => (x : Int)
theorem any_cast (r : List Nat) (x : Nat) : (castL r).any (· == (x : Int)) = r.any (· == x) := by
  induction r with
  | nil => rfl
  | cons y r ih =>
    rw [castL, List.map_cons, List.any_cons, List.any_cons]
    rw [show List.any (List.map (fun x : Nat => (x : Int)) r) (fun z => z == (x : Int)) = _ from ih]
    congr 1
    rw [Bool.eq_iff_iff, beq_iff_eq, beq_iff_eq]
    exact Int.ofNat_inj
def twoAt (h : Heap) (p : Nat × Nat) (v : Value) : Prop := ∃ (b : Addr) (t1 t2 : Tok), v = .ref b ∧ h.IsList b #[.int (p.1 : Int) t1, .int (p.2 : Int) t2]
theorem twoAt.keeps {h h' : Heap} {p : Nat × Nat} {v : Value} (x : twoAt h p v) (k : h.StaysIn h') : twoAt h' p v := let ⟨b, t1, t2, e, r⟩ := x; ⟨b, t1, t2, e, r.at fun o e => k _ o e⟩
theorem three_at {h : Heap} {ps : List (Nat × Nat)} {vs : List Value} (P : Paired (twoAt h) ps vs) : ∀ (i : Nat) (v : Value), vs[i]? = some v → ∃ p, ps[i]? = some p ∧ twoAt h p v := by
  induction P with
  | nil => intro i v e; simp at e
  | cons f _ ih =>
    intro i v e
    cases i with
    | zero => cases e; exact ⟨_, rfl, f⟩
    | succ i => exact ih i v e
theorem lhs_small {p : Nat × Nat} {i : Nat} (h : lhs[i]? = some p) : p.1 ≤ 64 ∧ p.2 ≤ 64 := by
  have := List.mem_of_getElem? h
  simp only [lhs, List.mem_cons, List.not_mem_nil, or_false] at this
  rcases this with rfl | rfl | rfl <;> decide
theorem uds_small {p : Nat × Nat} {i : Nat} (h : uds[i]? = some p) : p.1 ≤ 64 ∧ p.2 ≤ 64 := by
  have := List.mem_of_getElem? h
  simp only [uds, List.mem_cons, List.not_mem_nil, or_false] at this
  rcases this with rfl | rfl | rfl <;> decide

theorem three_lists {g : Heap} {L a1 a2 a3 a4 : Addr} {s₀ s : Shared} {m : Str → Option Value} {rest : Mut} {t1 t2 t3 t4 t5 t6 : Tok} (p1 p2 p3 : Nat × Nat)
    (H : FX g L s₀ s m ((a4, listP [.ref a1, .ref a2, .ref a3]) :: (a3, listP [.int (p3.1 : Int) t1, .int (p3.2 : Int) t2]) :: (a2, listP [.int (p2.1 : Int) t3, .int (p2.2 : Int) t4]) :: (a1, listP [.int (p1.1 : Int) t5, .int (p1.2 : Int) t6]) :: rest)) :
    ∃ g', FX g' L s₀ s m rest ∧ g.StaysIn g' ∧ g'.IsList a4 (List.toArray [.ref a1, .ref a2, .ref a3]) ∧ Paired (twoAt g') [p1, p2, p3] [.ref a1, .ref a2, .ref a3] := by
  have nd := H.fh.nodup
  obtain ⟨g', H', k, fx, -, -⟩ := H.rebase (ms' := rest) (List.Sublist.cons _ (List.Sublist.cons _ (List.Sublist.cons _ (List.Sublist.cons _ (List.Sublist.refl _)))))
  simp only [List.map_cons, List.nodup_cons, List.mem_cons, not_or] at nd
  obtain ⟨n1, n2, n3, n4, -⟩ := nd
  have e4 := fx (a4, _) (.head _) n1.2.2.2
  have e3 := fx (a3, _) (.tail _ (.head _)) n2.2.2
  have e2 := fx (a2, _) (.tail _ (.tail _ (.head _))) n3.2
  have e1 := fx (a1, _) (.tail _ (.tail _ (.tail _ (.head _)))) n4
  have mk : ∀ {d : Addr} {its : List Value}, (∃ o, g'.get? d = some o ∧ listP its o) → g'.IsList d its.toArray := fun ⟨o, e, r⟩ => r.is e
  exact ⟨g', H', k, mk e4, .cons ⟨a1, _, _, rfl, mk e1⟩ (.cons ⟨a2, _, _, rfl, mk e2⟩ (.cons ⟨a3, _, _, rfl, mk e3⟩ .nil))⟩
theorem mid_pre {k i j : Nat} {r0 : List Nat} {lh : Nat × Nat} (h : lhs[i]? = some lh) : tryRow k (turnOf k r0 (lhs.take i)) lh (uds.take j) <+: turnOf k r0 lhs := by
  have e : lhs = lhs.take i ++ lh :: lhs.drop (i + 1) := by
    match i, h with
    | 0, h => cases h; rfl
    | 1, h => cases h; rfl
    | 2, h => cases h; rfl
    | n + 3, h => exact absurd h (by simp [lhs])
  have e2 : turnOf k r0 lhs = turnOf k (tryRow k (turnOf k r0 (lhs.take i)) lh uds) (lhs.drop (i + 1)) := by
    unfold turnOf
    rw [show List.foldl (fun r lh => tryRow k r lh uds) r0 lhs = List.foldl (fun r lh => tryRow k r lh uds) r0 (lhs.take i ++ lh :: lhs.drop (i + 1)) by rw [← e], List.foldl_append, List.foldl_cons]
  have e3 : tryRow k (turnOf k r0 (lhs.take i)) lh uds = tryRow k (tryRow k (turnOf k r0 (lhs.take i)) lh (uds.take j)) lh (uds.drop j) := by
    unfold tryRow
    rw [← List.foldl_append, List.take_append_drop]
  rw [e2, e3]
  exact (tryRow_pre _ _ _ _).trans (turnOf_pre _ _ _)

set_option maxHeartbeats 2000000 in
theorem reached_c {w : World} {A : Around} {s : Shared} {n : Nat} {c : Nat} {k1 : Tok} {Q E : Value → Shared → Prop}
   (hA : AOk n A) (hn : n < 450) (W : Wd w s.heap) (hc : c < 512)
   (hret : ∀ D s' vs, Same s s' → s.heap.StaysIn s'.heap → (above s.heap.objs.size s'.heap).IsList D (List.toArray vs) → IntsAre vs (castL (reachedOf c)) → Q (.ref D) s') :
   wpAny (model Pg w) A (call (.ref 231) [.int c k1]) Q E s := by
  have W₀ := W
  walk_at "kf"
  refine' fx_enter (binds := [(Str.ofString "chosen", .int c k1)]) hA (by omega) W ?ho ?hcd ?hbind ?hloc ?h ?hco ?hgen ?hk ?hcell
  walk_at "enter"
  repeat' (walk_at "s1")
  have hlt0 := H.lt
  (with_reducible refine' fx_list H ?_ ?hsz); (case hsz => simp [sizeLine])
  have hltL := H.lt
  clear H; intro aa s₁ H hge0
  obtain ⟨D, hDD⟩ : ∃ D, D = aa := ⟨_, rfl⟩
  rw [← hDD] at H ⊢
  walk_at "st"
  walk_at "nx"
  repeat' (walk_at "s1")
  walk_at "st"
  walk_at "nx"
  repeat' (walk_at "s1")
  refine while_loop (fun N s' => ∃ G m k vs t, N = 7 - k ∧ k ≤ 6 ∧ s.heap.StaysIn G ∧ FX G L s s' m [(D, listP vs)] ∧ IntsAre vs (castL (st c k)) ∧ m (Str.ofString "reached") = some (.ref D) ∧ m (Str.ofString "at") = some (.int (k : Nat) t)) 7
    ⟨_, _, 0, _, _, rfl, by omega, stays_refl _, H, .cons _ _ .nil, rfl, rfl⟩ ?_
  clear H
  rintro N s₁ ⟨G, m, k, vs, t, rfl, hk6, hG, H, hi, hmR, hmA⟩
  refine while_K ?_
  intro Kb hKb
  have W := W.mono hG
  have hlen : vs.length = (st c k).length := by rw [hi.length]; simp
  have hl6 := st_len hc hk6
  repeat' (walk_at "s1")
  refine fx_len H (H.list (i := 0) rfl) (by rw [List.size_toArray]; omega) ?_
  rw [List.size_toArray]
  clear H; intro s₁ _ H
  repeat' (walk_at "s1")
  split
  · rename_i hlt
    have hlt : k < vs.length := by simpa using hlt
    repeat' (walk_at "s1")
    refine wpAny_For ?_ (fun _ => rfl)
    repeat' (walk_at "s1")
    walk_at "nl"
    repeat' (walk_at "s1")
    walk_at "nl"
    repeat' (walk_at "s1")
    walk_at "nl"
    repeat' (walk_at "s1")
    walk_at "nl"
    obtain ⟨g1, H', k1', l4, P1⟩ := three_lists (1, 2) (1, 4) (2, 4) H
    clear H
    have H := H'
    clear H'
    have W := W.mono k1'
    generalize aa = O at l4 ⊢
    refine fx_for_list _ (fun i G m ms => ∃ vs', ms = [(D, listP vs')] ∧ IntsAre vs' (castL (turnOf k (st c k) (lhs.take i))) ∧ m (Str.ofString "reached") = some (.ref D) ∧ m (Str.ofString "at") = some (.int (k : Nat) t)) hA' H l4 ⟨vs, rfl, hi, hmR, hmA⟩ ?_ ?_
    · clear H
      intro i v hv G2 m ms I s₁ hG2 hP H
      refine body_K ?_
      intro Kb hKb
      obtain ⟨vs', rfl, hi', hmR, hmA⟩ := hP
      obtain ⟨lh, hlh, b, tk1, tk2, rfl, hbl⟩ := three_at P1 i v hv
      have hlh : lhs[i]? = some lh := hlh
      have W := W.mono hG2
      refine fx_unpack hA' H (hbl.at fun o e => H.keep _ o (hG2 _ o e)) rfl rfl ?_
      clear H; intro s₁ H _
      refine in_order ?_
      walk_at "st"
      refine in_order ?_
      walk_at "st"
      refine in_order_nil ?_
      repeat' (walk_at "s1")
      refine wpAny_For ?_ (fun _ => rfl)
      repeat' (walk_at "s1")
      walk_at "nl"
      repeat' (walk_at "s1")
      walk_at "nl"
      repeat' (walk_at "s1")
      walk_at "nl"
      repeat' (walk_at "s1")
      walk_at "nl"
      obtain ⟨g2, H', k2', l4', P2⟩ := three_lists (1, 8) (1, 64) (8, 64) H
      clear H
      have H := H'
      clear H'
      have W := W.mono k2'
      refine fx_for_list _ (fun j G m ms => ∃ vs', ms = [(I, iterP O (i + 1)), (D, listP vs')] ∧ IntsAre vs' (castL (tryRow k (turnOf k (st c k) (lhs.take i)) lh (uds.take j))) ∧ m (Str.ofString "reached") = some (.ref D) ∧ m (Str.ofString "at") = some (.int (k : Nat) t) ∧ m (Str.ofString "low") = some (.int (lh.1 : Nat) tk1) ∧ m (Str.ofString "high") = some (.int (lh.2 : Nat) tk2)) hA' H l4' ⟨vs', rfl, hi', hmR, hmA, rfl, rfl⟩ ?_ ?_
      · clear H
        intro j v hv G3 m ms I2 s₁ hG3 hP H
        refine body_K ?_
        intro Kb hKb
        obtain ⟨vs', rfl, hi', hmR, hmA, hmL, hmH⟩ := hP
        obtain ⟨ud, hud, b, tk3, tk4, rfl, hbl⟩ := three_at P2 j v hv
        have hud : uds[j]? = some ud := hud
        have W := W.mono hG3
        refine fx_unpack hA' H (hbl.at fun o e => H.keep _ o (hG3 _ o e)) rfl rfl ?_
        clear H; intro s₁ H _
        refine in_order ?_
        walk_at "st"
        refine in_order ?_
        walk_at "st"
        refine in_order_nil ?_
        obtain ⟨lb1, lb2⟩ := lhs_small hlh
        obtain ⟨ub1, ub2⟩ := uds_small hud
        have hmul : ∀ {a b : Nat}, b ≤ 64 → IntMulOk (a : Int) (b : Int) := fun {a b} hb => IntMulOk.of_right (intBits_le_64 (by omega) (by omega))
        have eO : (lh.1 : Int) * (ud.1 : Int) + (lh.2 : Int) * (ud.2 : Int) = ((exOne lh ud : Nat) : Int) := by unfold exOne; simp
        have eT : (lh.2 : Int) * (ud.1 : Int) + (lh.1 : Int) * (ud.2 : Int) = ((exOther lh ud : Nat) : Int) := by unfold exOther; simp
        have eS : ((exOne lh ud : Nat) : Int) + ((exOther lh ud : Nat) : Int) = ((exSum lh ud : Nat) : Int) := by unfold exSum; simp
        generalize hr : tryRow k (turnOf k (st c k) (lhs.take i)) lh (uds.take j) = r at hi'
        have hrk : k < r.length := by
          have h1 := (turnOf_pre k (lhs.take i) (st c k)).length_le
          have h2 := (tryRow_pre k lh (uds.take j) (turnOf k (st c k) (lhs.take i))).length_le
          rw [hr] at h2
          omega
        have hr6 : r.length ≤ 6 := by
          have h1 := (mid_pre (k := k) (j := j) (r0 := st c k) hlh).length_le
          rw [hr] at h1
          have h2 := st_len hc (k := k + 1) (by omega)
          rw [show st c (k + 1) = nxt k (st c k) from rfl, nxt, if_pos (by omega)] at h2
          omega
        have hlen' : vs'.length = r.length := by rw [hi'.length]; simp
        obtain ⟨tx, hx⟩ : ∃ tx, vs'[k]? = some (.int ((r.getD k 0 : Nat) : Int) tx) := ints_at hi' (by rw [castL, List.getElem?_map, List.getElem?_eq_getElem hrk]; simp [List.getD, List.getElem?_eq_getElem hrk])
        have hx' : (List.toArray vs')[((k : Nat) : Int).toNat]? = some (.int ((r.getD k 0 : Nat) : Int) tx) := by simpa using hx
        have hnext : tryRow k (turnOf k (st c k) (lhs.take i)) lh (uds.take (j + 1)) = tryEx k r lh ud := by
          rw [List.take_add_one, hud, ← hr]; unfold tryRow; rw [List.foldl_append]; rfl
        clear hr
        have eTry : tryEx k r lh ud = if ([exOne lh ud, exOther lh ud].any (· == (r.getD k 0 &&& exSum lh ud)) && !(r.any (· == (r.getD k 0 ^^^ exSum lh ud)))) = true then r ++ [r.getD k 0 ^^^ exSum lh ud] else r := rfl
        generalize r.getD k 0 = x at hx hx' eTry
        repeat' (walk_at "s1")
        refine fx_mul H ?_ (hmul ub1)
        clear H; intro s₁ _ H
        repeat' (walk_at "s1")
        refine fx_mul H ?_ (hmul ub2)
        clear H; intro s₁ _ H
        repeat' (walk_at "s1")
        rw [eO]
        walk_at "st"
        walk_at "nx"
        repeat' (walk_at "s1")
        refine fx_mul H ?_ (hmul ub1)
        clear H; intro s₁ _ H
        repeat' (walk_at "s1")
        refine fx_mul H ?_ (hmul ub2)
        clear H; intro s₁ _ H
        repeat' (walk_at "s1")
        rw [eT]
        walk_at "st"
        walk_at "nx"
        repeat' (walk_at "s1")
        refine Subscript_Name ?_
        repeat' (walk_at "s1")
        refine fx_itemL (v := .int (x : Nat) tx) (H.list (i := 2) rfl) (by omega) (by omega) hx' ?_
        repeat' (walk_at "s1")
        rw [eS, bitXor_nat]
        walk_at "st"
        walk_at "nx"
        repeat' (walk_at "s1")
        refine Subscript_Name ?_
        repeat' (walk_at "s1")
        refine fx_itemL (v := .int (x : Nat) tx) (H.list (i := 2) rfl) (by omega) (by omega) hx' ?_
        repeat' (walk_at "s1")
        rw [eS, bitAnd_nat]
        repeat' (walk_at "s1")
        walk_at "nl"
        repeat' (walk_at "s1")
        refine in_list_ints (ns := castL [exOne lh ud, exOther lh ud]) (H.list (i := 0) rfl) (.cons _ _ (.cons _ _ .nil)) ?_
        rw [any_cast]
        repeat' (walk_at "s1")
        split
        · rename_i q1
          repeat' (walk_at "s1")
          refine notin_list_ints (ns := castL r) (H.list (i := 3) rfl) hi' ?_
          rw [any_cast]
          repeat' (walk_at "s1")
          split
          · rename_i q2
            repeat' (walk_at "s1")
            refine fx_expr V ?_ (by rfl) (by rfl)
            repeat' (walk_at "s1")
            refine fx_append_meth (i := 3) H rfl ?_
            repeat' (walk_at "s1")
            refine fx_append (i := 3) H rfl ?_ (by simp only [sizeLine]; omega)
            clear H; intro s₁ H
            dsimp only [List.set] at H
            walk_at "nx"
            repeat' (walk_at "s1")
            refine ⟨G3, _, _, stays_refl _, ?_, H.drop (List.Sublist.cons _ (List.Sublist.refl _))⟩; refine ⟨_, rfl, ?_, hmR, hmA, hmL, hmH⟩
            rw [hnext, eTry, if_pos (by rw [q1, q2]; rfl)]
            rw [show castL (r ++ [x ^^^ exSum lh ud]) = castL r ++ [((x ^^^ exSum lh ud : Nat) : Int)] by simp [castL]]
            exact ints_snoc hi' _ _
          · rename_i q2
            repeat' (walk_at "s1")
            refine ⟨G3, _, _, stays_refl _, ?_, H.drop (List.Sublist.cons _ (List.Sublist.refl _))⟩; refine ⟨_, rfl, ?_, hmR, hmA, hmL, hmH⟩
            rw [hnext, eTry, if_neg (by rw [q1, Bool.eq_false_iff.mpr q2]; decide)]
            exact hi'
        · rename_i q1
          repeat' (walk_at "s1")
          refine ⟨G3, _, _, stays_refl _, ?_, H.drop (List.Sublist.cons _ (List.Sublist.refl _))⟩; refine ⟨_, rfl, ?_, hmR, hmA, hmL, hmH⟩
          rw [hnext, eTry, if_neg (by rw [Bool.eq_false_iff.mpr q1, Bool.false_and]; decide)]
          exact hi'
      · clear H
        intro G3 m ms s₁ hG3 hP H
        obtain ⟨vs', rfl, hi', hmR, hmA, hmL, hmH⟩ := hP
        repeat' (walk_at "s1")
        refine ⟨G3, _, _, stays_trans k2' hG3, ?_, H⟩; refine ⟨vs', rfl, ?_, hmR, hmA⟩
        rw [List.take_add_one, hlh]
        unfold turnOf
        rw [List.foldl_append]
        exact hi'
    · clear H
      intro G3 m ms s₁ hG3 hP H
      obtain ⟨vs', rfl, hi', hmR, hmA⟩ := hP
      repeat' (walk_at "s1")
      refine wpAny_AugAssign_Name ?_
      refine fx_ldn V H hmA ?_ (by rfl) (by rfl)
      repeat' (walk_at "s1")
      refine fx_iadd H ?_
      clear H; intro s₁ t2 H
      walk_at "st"
      walk_at "nx"
      repeat' (walk_at "s1")
      refine ⟨6 - k, by omega, G3, _, k + 1, vs', t2, by omega, by omega, stays_trans hG (stays_trans k1' hG3), H, ?_, hmR, ?_⟩
      · rw [show st c (k + 1) = nxt k (st c k) from rfl, nxt, if_pos (by omega)]
        exact hi'
      · show some (Value.int ((k : Int) + 1) t2) = some (Value.int ((k + 1 : Nat) : Int) t2)
        rw [Int.natCast_add]; rfl
  · rename_i hlt
    have hlt : ¬ k < vs.length := by simpa using hlt
    repeat' (walk_at "s1")
    have hfin : st c 6 = st c k := by
      have : ∀ j, st c (k + j) = st c k := by
        intro j
        induction j with
        | zero => rfl
        | succ j ih => show nxt (k + j) (st c (k + j)) = _; rw [ih, nxt, if_neg (by omega)]
      have := this (6 - k)
      rwa [show k + (6 - k) = 6 by omega] at this
    refine hret D s₁ vs H.same (stays_trans hG H.keep) ((H.list (i := 0) rfl).at fun o e => above_get e (hDD ▸ hL ▸ Nat.le_of_lt (Nat.lt_of_lt_of_le hltL hge0))) ?_
    unfold reachedOf
    rw [hfin]
    exact hi
section
variable {prog : Program} {w : World} {A : Around} {E : Value → Shared → Prop} {s s₀ : Shared} {g : Heap} {L : Addr} {m : Str → Option Value} {ms : Mut} {x y : PySem.Str} {t u : Tok}
theorem fx_addS {Q : Value → Shared → Prop} (H : FX g L s₀ s m ms) (hz : x.length + y.length ≤ 1024) (h : ∀ s' t', FX g L s₀ s' m ms → Q (.str (x ++ y) t') s') : wpAny (model prog w) A (binaryOp .Add (.str x t) (.str y u)) Q E s :=
  PyProof.Rows.add_str (fun _ _ => h _ _ H.tok) (by simp only [sizeLine]; omega)
end
def pairsL : List (String × String) := [("a", "a*"), ("b", "*b"), ("ba", "b*a"), ("{u}", "{*u}"), ("{uu}", "{u*}")]
def wordAt (h : Heap) (p : String × String) (v : Value) : Prop := ∃ (b : Addr) (t1 t2 : Tok), v = .ref b ∧ h.IsList b #[.str (PySem.Str.ofString p.1) t1, .str (PySem.Str.ofString p.2) t2]
theorem paired_nth {α β : Type} {F : α → β → Prop} {a : List α} {b : List β} (P : Paired F a b) : ∀ (i : Nat) (x : α), a[i]? = some x → ∃ y, b[i]? = some y ∧ F x y := by
  induction P with
  | nil => intro i x e; simp at e
  | cons f _ ih =>
    intro i x e
    cases i with
    | zero => cases e; exact ⟨_, rfl, f⟩
    | succ i => exact ih i x e
theorem wd_at (m k : Nat) (x y : String) {t1 t2 : Tok} : ∃ t, (#[Value.str (PySem.Str.ofString x) t1, Value.str (PySem.Str.ofString y) t2] : Array Value)[m / 2 ^ k % 2]? = some (.str (wd m k x y) t) := by
  unfold wd
  have : m / 2 ^ k % 2 = 0 ∨ m / 2 ^ k % 2 = 1 := by omega
  rcases this with h | h <;> rw [h]
  · exact ⟨t1, rfl⟩
  · exact ⟨t2, rfl⟩
theorem idx_int (m k : Nat) : ((m : Int).fdiv ((2 ^ k : Nat) : Int)).fmod 2 = ((m / 2 ^ k % 2 : Nat) : Int) := by
  rw [Int.fdiv_eq_ediv_of_nonneg _ (Int.natCast_nonneg _), Int.fmod_eq_emod_of_nonneg _ (by decide)]
  simp
theorem tags_of_pairs {h : Heap} {l : Addr} {T : List Tag} {vs : List Value} (hl : h.IsList l vs.toArray) (P : Paired (pairTag h) T vs) : IsTags h l T :=
  ⟨vs, hl, (paired_len P).symm, fun i t e => by
    obtain ⟨v, hv, b, t1, t2, rfl, hb⟩ := paired_nth P i t e
    exact ⟨b, t1, t2, hv, hb⟩⟩
theorem paired_map {α β γ : Type} {F : β → γ → Prop} (f : α → β) {a : List α} {b : List γ} (P : Paired (fun x y => F (f x) y) a b) : Paired F (a.map f) b := by
  induction P with
  | nil => exact .nil
  | cons x _ ih => exact .cons x ih
theorem words_of {m : Nat} {ys : List Value} (P : Paired (fun i y => ∃ (p : String × String) (tk : Tok), pairsL[i]? = some p ∧ y = .str (wd m i p.1 p.2) tk) ((List.range 5).filter (fun _ => true)) ys) :
    ∃ t0 t1 t2 t3 t4 : Tok, ys = [.str (wd m 0 "a" "a*") t0, .str (wd m 1 "b" "*b") t1, .str (wd m 2 "ba" "b*a") t2, .str (oneOf m) t3, .str (twoOf m) t4] := by
  rw [show (List.range 5).filter (fun _ => true) = [0, 1, 2, 3, 4] from rfl] at P
  cases P with
  | cons f0 P => cases P with
    | cons f1 P => cases P with
      | cons f2 P => cases P with
        | cons f3 P => cases P with
          | cons f4 P =>
            cases P
            obtain ⟨_, t0, e0, rfl⟩ := f0
            obtain ⟨_, t1, e1, rfl⟩ := f1
            obtain ⟨_, t2, e2, rfl⟩ := f2
            obtain ⟨_, t3, e3, rfl⟩ := f3
            obtain ⟨_, t4, e4, rfl⟩ := f4
            cases e0; cases e1; cases e2; cases e3; cases e4
            exact ⟨t0, t1, t2, t3, t4, rfl⟩
theorem listP.isL {h : Heap} {d : Addr} {its : List Value} (x : ∃ o, h.get? d = some o ∧ listP its o) : h.IsList d its.toArray := let ⟨_, e, r⟩ := x; r.is e
theorem wd_short {m k : Nat} {x y : String} (hx : (PySem.Str.ofString x).length ≤ 8) (hy : (PySem.Str.ofString y).length ≤ 8) : (wd m k x y).length ≤ 8 := by unfold wd; split <;> assumption
theorem bare_short (m : Nat) : ∀ t ∈ bareOf m, t.1.length ≤ 8 ∧ t.2 ≤ 4 := by
  intro t ht
  simp only [bareOf, List.mem_cons, List.not_mem_nil, or_false] at ht
  rcases ht with rfl | rfl | rfl <;> refine ⟨?_, by simp⟩ <;> (dsimp only [wd]; split <;> decide)
theorem one_short (m : Nat) : (oneOf m).length ≤ 8 := by unfold oneOf wd; split <;> decide
theorem two_short (m : Nat) : (twoOf m).length ≤ 8 := by unfold twoOf wd; split <;> decide

set_option maxHeartbeats 2000000 in
theorem tags_c {w : World} {A : Around} {s : Shared} {n : Nat} {m : Nat} {k1 : Tok} {Q E : Value → Shared → Prop}
   (hA : AOk n A) (hn : n < 450) (W : Wd w s.heap) (hm : m < 32)
   (hret : ∀ l s', Same s s' → s.heap.StaysIn s'.heap → IsTags s'.heap l (tagsOf m) → Q (.ref l) s') :
   wpAny (model Pg w) A (call (.ref 195) [.int m k1]) Q E s := by
  have W₀ := W
  walk_at "kf"
  refine' fx_enterC (fun L => [(Str.ofString "two", L + 4), (Str.ofString "one", L + 3), (Str.ofString "pairs", L + 2), (Str.ofString "marks", L + 1)]) (fun y => none)
    (fun L => [(L + 4, cellP none), (L + 3, cellP none), (L + 2, cellP none), (L + 1, cellP (some (.int m k1)))])
    [(Str.ofString "marks", .int m k1)] hA (by omega) W ?ho ?hcd ?hbind ?hkind ?hnd ?hcl ?hml ?hms ?h ?hco ?hgen ?hk
  walk_at "enterC"
  repeat' (walk_at "s1")
  walk_at "nl"
  repeat' (walk_at "s1")
  walk_at "nl"
  repeat' (walk_at "s1")
  walk_at "nl"
  repeat' (walk_at "s1")
  walk_at "nl"
  repeat' (walk_at "s1")
  walk_at "nl"
  repeat' (walk_at "s1")
  walk_at "nl"
  walk_at "stc"
  walk_at "nx"
  generalize aa = P at H
  repeat' (walk_at "s1")
  have nd := H.fh.nodup
  obtain ⟨g, H', k₁, fx, -, -⟩ := H.rebase (ms' := [(L + 4, cellP none), (L + 3, cellP none)]) (.cons _ (.cons _ (.cons _ (.cons _ (.cons _ (.cons _ (.cons_cons _ (.cons_cons _ (.cons _ (.cons _ .slnil))))))))))
  simp only [List.map_cons, List.map_nil, List.nodup_cons, List.mem_cons, List.not_mem_nil, or_false, not_or] at nd
  have mk : ∀ {d : Addr} {its : List Value}, (∃ o, g.get? d = some o ∧ listP its o) → g.IsList d its.toArray := fun ⟨o, e, r⟩ => r.is e
  have lP : g.IsList P _ := mk (fx (P, _) (.head _) (by simp only [List.map_cons, List.map_nil, List.mem_cons, List.not_mem_nil, or_false, not_or]; grind))
  have l5 := mk (fx (_, _) (.tail _ (.head _)) (by simp only [List.map_cons, List.map_nil, List.mem_cons, List.not_mem_nil, or_false, not_or]; grind))
  have l4 := mk (fx (_, _) (.tail _ (.tail _ (.head _))) (by simp only [List.map_cons, List.map_nil, List.mem_cons, List.not_mem_nil, or_false, not_or]; grind))
  have l3 := mk (fx (_, _) (.tail _ (.tail _ (.tail _ (.head _)))) (by simp only [List.map_cons, List.map_nil, List.mem_cons, List.not_mem_nil, or_false, not_or]; grind))
  have l2 := mk (fx (_, _) (.tail _ (.tail _ (.tail _ (.tail _ (.head _))))) (by simp only [List.map_cons, List.map_nil, List.mem_cons, List.not_mem_nil, or_false, not_or]; grind))
  have l1 := mk (fx (_, _) (.tail _ (.tail _ (.tail _ (.tail _ (.tail _ (.head _)))))) (by simp only [List.map_cons, List.map_nil, List.mem_cons, List.not_mem_nil, or_false, not_or]; grind))
  have cP : g.IsCell (L + 2) (some (.ref P)) := fx (L + 2, _) (.tail _ (.tail _ (.tail _ (.tail _ (.tail _ (.tail _ (.tail _ (.tail _ (.head _))))))))) (by simp only [List.map_cons, List.map_nil, List.mem_cons, List.not_mem_nil, or_false, not_or]; grind)
  have cM : g.IsCell (L + 1) (some (.int m k1)) := fx (L + 1, _) (.tail _ (.tail _ (.tail _ (.tail _ (.tail _ (.tail _ (.tail _ (.tail _ (.tail _ (.head _)))))))))) (by simp only [List.map_cons, List.map_nil, List.mem_cons, List.not_mem_nil, or_false, not_or]; grind)
  have PW : Paired (wordAt g) pairsL _ := .cons ⟨_, _, _, rfl, l1⟩ (.cons ⟨_, _, _, rfl, l2⟩ (.cons ⟨_, _, _, rfl, l3⟩ (.cons ⟨_, _, _, rfl, l4⟩ (.cons ⟨_, _, _, rfl, l5⟩ .nil))))
  clear l1 l2 l3 l4 l5 fx nd H
  have H := H'
  clear H'
  have W := W.mono k₁
  refine Assign_Tuple ?_ (by rfl) (swapped_of V (by rfl))
  refine fh_comp (clos_of V (by rfl)) (by rfl) (by decide) ?_
  repeat' (walk_at "s1")
  refine fx_range H ?_
  clear H; intro r s₁ t1 t3 H
  refine fx_compR_val 5 (fun _ => true) (fun i y _ => ∃ (p : String × String) (tk : Tok), pairsL[i]? = some p ∧ y = .str (wd m i p.1 p.2) tk) (fun _ _ _ _ f _ => f) hA' V (H.drop (List.Sublist.cons _ (List.Sublist.refl _))) (H.exact (i := 0) rfl) (by decide) (by decide) (by decide) ?hcell ?hkind ?step ?done
  case hcell => decide
  case hkind => rfl
  case step =>
    intro i tk hi G env C mc s hG V H₀
    have hgG : g.StaysIn G := stays_trans H.keep hG
    clear H
    have H := H₀
    clear H₀
    have W := W.mono hgG
    have cP : G.IsCell (L + 2) (some (.ref P)) := let ⟨o, e, r⟩ := cP; ⟨o, hgG _ o e, r⟩
    have cM : G.IsCell (L + 1) (some (.int m k1)) := let ⟨o, e, r⟩ := cM; ⟨o, hgG _ o e, r⟩
    obtain ⟨p, hp⟩ : ∃ p, pairsL[i]? = some p := ⟨pairsL[i]'hi, List.getElem?_eq_getElem hi⟩
    obtain ⟨v, hv, b, tk1, tk2, rfl, hb⟩ := paired_nth PW i p hp
    have hpi : (2 : Int) ^ ((i : Int).toNat) = ((2 ^ i : Nat) : Int) := by simp
    have hp1 : 1 ≤ 2 ^ i := Nat.one_le_pow _ _ (by decide)
    have hp2 : 2 ^ i ≤ 16 := Nat.pow_le_pow_right (by decide) (show i ≤ 4 by omega)
    have hb2 : (Builtin.Int.intBits 2 : Int) = 2 := by decide
    have hidx := idx_int m i
    obtain ⟨tw, htw⟩ := wd_at m i p.1 p.2 (t1 := tk1) (t2 := tk2)
    refine test_K ?_
    intro Kt hKt
    refine assign_Name ?_
    walk_at "st"
    refine tests_nil (hKt.go ⟨rfl, ?_⟩)
    rw [if_pos rfl]
    refine sub_tmp ?_
    refine Subscript_Name ?_
    repeat' (walk_at "s1")
    refine fx_itemL (v := .ref b) (H.glist (lP.at fun o e => hgG _ o e)) (by omega) (by omega) (by simpa using hv) ?_
    repeat' (walk_at "s1")
    refine fx_pow H (by omega) (by rw [hb2]; omega) ?_
    rw [hpi]
    clear H; intro s₁ _ H
    generalize hPi : 2 ^ i = Pi at hpi hp1 hp2 hidx htw ⊢
    refine fx_fdiv H (by omega) (by omega) ?_
    clear H; intro s₁ _ H
    repeat' (walk_at "s1")
    rw [hidx]
    refine fx_itemL (v := .str (wd m i p.1 p.2) tw) (H.glist (hb.at fun o e => hgG _ o e)) (by omega) (by omega) (by rw [Int.toNat_natCast]; exact htw) ?_
    exact ⟨⟨_, H⟩, p, tw, hp, rfl⟩
  case done =>
    clear H
    intro D ys s₂ H hk2 hD hDl hP2
    obtain ⟨tk0, tk1, tk2, tk3, tk4, rfl⟩ := words_of hP2
    refine fx_unpack hA' H (hDl.at fun o e => of_hideAll _ e) rfl rfl ?_
    clear H; intro s₁ H _
    refine in_order ?_
    walk_at "st"
    refine in_order ?_
    walk_at "st"
    refine in_order ?_
    walk_at "st"
    refine in_order ?_
    walk_at "stc"
    refine in_order ?_
    walk_at "stc"
    refine in_order_nil ?_
    walk_at "nx"
    obtain ⟨g2, H', k2, fx, -, -⟩ := H.settle
    clear H
    have H := H'
    clear H'
    have W := W.mono k2
    have c2 : g2.IsCell (L + 4) (some (.str (twoOf m) tk4)) := fx 0 _ _ rfl
    have c1 : g2.IsCell (L + 3) (some (.str (oneOf m) tk3)) := fx 1 _ _ rfl
    clear fx
    repeat' (walk_at "s1")
    walk_at "nl"
    repeat' (walk_at "s1")
    walk_at "nl"
    repeat' (walk_at "s1")
    walk_at "nl"
    repeat' (walk_at "s1")
    walk_at "nl"
    generalize aa = B at H ⊢
    obtain ⟨g3, H', k3, fx, -, -⟩ := H.settle
    clear H
    have H := H'
    clear H'
    have W := W.mono k3
    have lB : g3.IsList B _ := listP.isL (fx 0 _ _ rfl)
    have BP : Paired (pairTag g3) (bareOf m) _ := .cons ⟨_, _, _, rfl, listP.isL (fx 3 _ _ rfl)⟩ (.cons ⟨_, _, _, rfl, listP.isL (fx 2 _ _ rfl)⟩ (.cons ⟨_, _, _, rfl, listP.isL (fx 1 _ _ rfl)⟩ .nil))
    have c1 : g3.IsCell (L + 3) (some (.str (oneOf m) tk3)) := let ⟨o, e, r⟩ := c1; ⟨o, k3 _ o e, r⟩
    have c2 : g3.IsCell (L + 4) (some (.str (twoOf m) tk4)) := let ⟨o, e, r⟩ := c2; ⟨o, k3 _ o e, r⟩
    clear fx
    have hs1 := one_short m
    have hs2 := two_short m
    walk_at "st"
    walk_at "nx"
    repeat' (walk_at "s1")
    walk_at "nl"
    repeat' (walk_at "s1")
    refine fx_addS H (by have : (PySem.Str.ofString "*").length = 1 := rfl; omega) ?_
    clear H; intro s₁ _ H
    repeat' (walk_at "s1")
    walk_at "nl"
    repeat' (walk_at "s1")
    refine fx_addS H (by have : (PySem.Str.ofString "*").length = 1 := rfl; omega) ?_
    clear H; intro s₁ _ H
    repeat' (walk_at "s1")
    walk_at "nl"
    repeat' (walk_at "s1")
    walk_at "nl"
    generalize aa = X1 at H ⊢
    obtain ⟨g4, H', k4, fx, -, -⟩ := H.settle
    clear H
    have H := H'
    clear H'
    have W := W.mono k4
    have lX1 : g4.IsList X1 _ := listP.isL (fx 0 _ _ rfl)
    have XP : Paired (pairTag g4) [(PySem.Str.ofString "{}*", 7), (oneOf m ++ PySem.Str.ofString "*", 56), (twoOf m ++ PySem.Str.ofString "*", 448)] _ := .cons ⟨_, _, _, rfl, listP.isL (fx 3 _ _ rfl)⟩ (.cons ⟨_, _, _, rfl, listP.isL (fx 2 _ _ rfl)⟩ (.cons ⟨_, _, _, rfl, listP.isL (fx 1 _ _ rfl)⟩ .nil))
    have lB : g4.IsList B _ := lB.at fun o e => k4 _ o e
    have BP := paired_mono BP fun _ _ f => f.keeps k4
    have c1 : g4.IsCell (L + 3) (some (.str (oneOf m) tk3)) := let ⟨o, e, r⟩ := c1; ⟨o, k4 _ o e, r⟩
    have c2 : g4.IsCell (L + 4) (some (.str (twoOf m) tk4)) := let ⟨o, e, r⟩ := c2; ⟨o, k4 _ o e, r⟩
    clear fx
    repeat' (walk_at "s1")
    refine fh_comp (clos_of V (by rfl)) (by rfl) (by decide) ?_
    repeat' (walk_at "s1")
    have hlt1 := H.lt
    refine fx_comp_val _ (fun _ => true) (fun i y h => ∃ t, (bareOf m)[i]? = some t ∧ pairTag h ((fun t : Tag => (PySem.Str.ofString "{*}" ++ t.1, 73 * t.2)) t) y) (fun i y h h' f k => let ⟨t, a, b⟩ := f; ⟨t, a, b.keeps k⟩) hA' V H (H.glist lB) (by simp [sizeLine]) ?hcell ?hkind ?step ?done
    case hcell => decide
    case hkind => rfl
    case step =>
      intro i v hi G env C mc s hG V H₀
      have hgG : g4.StaysIn G := stays_trans H.keep hG
      clear H
      have H := H₀
      clear H₀
      have W := W.mono hgG
      have c1 : G.IsCell (L + 3) (some (.str (oneOf m) tk3)) := let ⟨o, e, r⟩ := c1; ⟨o, hgG _ o e, r⟩
      have c2 : G.IsCell (L + 4) (some (.str (twoOf m) tk4)) := let ⟨o, e, r⟩ := c2; ⟨o, hgG _ o e, r⟩
      obtain ⟨t, ht, b, ta, tb, rfl, hb⟩ := paired_get BP i v hi
      have hs := bare_short m t (List.mem_of_getElem? ht)
      have hs1 := one_short m
      have hs2 := two_short m
      refine test_K ?_
      intro Kt hKt
      refine fx_unpack hA' H (H.glist (hb.at fun o e => hgG _ o e)) rfl rfl ?_
      clear H; intro s₁ H _
      refine in_order ?_
      walk_at "st"
      refine in_order ?_
      walk_at "st"
      refine in_order_nil ?_
      refine tests_nil (hKt.go ⟨rfl, ?_⟩)
      rw [if_pos rfl]
      repeat' (walk_at "s1")
      refine fx_addS H (by have : (PySem.Str.ofString "{*}").length = 3 := rfl; omega) ?_
      clear H; intro s₁ _ H
      repeat' (walk_at "s1")
      refine fx_mul H ?_ (IntMulOk.of_right (intBits_le_64 (by omega) (by omega)))
      clear H; intro s₁ _ H
      rw [show (73 : Int) * (t.2 : Int) = ((73 * t.2 : Nat) : Int) by simp]
      repeat' (walk_at "s1")
      have hltC := H.lt
      (with_reducible refine' fx_list H ?_ ?hsz); (case hsz => simp [sizeLine])
      clear H; intro aa s₁ H hge
      exact ⟨⟨_, H.drop (List.nil_sublist _)⟩, t, ht, aa, _, _, rfl, (H.list (i := 0) rfl).at fun o e => above_get e (Nat.lt_of_lt_of_le hltC hge)⟩
    case done =>
      intro D1 ys1 s₂ H' _ _ hl1 hP1
      clear H
      have H := H'
      clear H'
      have Q1 := paired_map (fun t : Tag => (PySem.Str.ofString "{*}" ++ t.1, 73 * t.2)) (range_filter_get (bareOf m) (fun _ => true) _ (fun _ _ _ => rfl) hP1 (G := fun t y => pairTag (above _ s₂.heap) ((fun t : Tag => (PySem.Str.ofString "{*}" ++ t.1, 73 * t.2)) t) y) (fun i t y e f => by obtain ⟨u, e', r⟩ := f; rw [e] at e'; cases e'; exact r))
      rw [List.filter_eq_self.mpr (fun _ _ => rfl)] at Q1
      obtain ⟨g5, H', k5, fx, up, -⟩ := H.settle
      clear H
      have H := H'
      clear H'
      have W := W.mono k5
      have l1 : g5.IsList D1 _ := hl1.at fun o e => up _ hlt1 _ o e
      have Q1 := paired_mono Q1 fun _ _ f => f.keeps (up _ hlt1)
      have lB : g5.IsList B _ := lB.at fun o e => k5 _ o e
      have BP := paired_mono BP fun _ _ f => f.keeps k5
      have c1 : g5.IsCell (L + 3) (some (.str (oneOf m) tk3)) := let ⟨o, e, r⟩ := c1; ⟨o, k5 _ o e, r⟩
      have c2 : g5.IsCell (L + 4) (some (.str (twoOf m) tk4)) := let ⟨o, e, r⟩ := c2; ⟨o, k5 _ o e, r⟩
      have lX1 : g5.IsList X1 _ := lX1.at fun o e => k5 _ o e
      have XP := paired_mono XP fun _ _ f => f.keeps k5
      have e4 : ys1.length = 3 := by rw [← paired_len Q1]; rfl
      refine fx_addL H (H.glist lX1) (H.glist l1) (by simp only [sizeLine, e4, List.length_cons, List.length_nil]; omega) ?_
      clear H; intro W1 s₁ H _
      repeat' (walk_at "s1")
      walk_at "nl"
      repeat' (walk_at "s1")
      walk_at "nl"
      generalize aa = Y1 at H ⊢
      obtain ⟨g6, H', k6, fx, -, -⟩ := H.settle
      clear H
      have H := H'
      clear H'
      have W := W.mono k6
      have lB : g6.IsList B _ := lB.at fun o e => k6 _ o e
      have BP := paired_mono BP fun _ _ f => f.keeps k6
      have c1 : g6.IsCell (L + 3) (some (.str (oneOf m) tk3)) := let ⟨o, e, r⟩ := c1; ⟨o, k6 _ o e, r⟩
      have c2 : g6.IsCell (L + 4) (some (.str (twoOf m) tk4)) := let ⟨o, e, r⟩ := c2; ⟨o, k6 _ o e, r⟩
      have lY1 : g6.IsList Y1 _ := listP.isL (fx 0 _ _ rfl)
      have lW1 : g6.IsList W1 _ := listP.isL (fx 2 _ _ rfl)
      have YP : Paired (pairTag g6) [(PySem.Str.ofString "{*}*", 511)] _ := .cons ⟨_, _, _, rfl, listP.isL (fx 1 _ _ rfl)⟩ .nil
      have WP := paired_app (paired_app (paired_mono XP fun _ _ f => f.keeps k6) (paired_mono Q1 fun _ _ f => f.keeps k6)) YP
      refine fx_addL H (H.glist lW1) (H.glist lY1) (by simp only [sizeLine, List.length_append, e4, List.length_cons, List.length_nil]; omega) ?_
      clear H; intro W2 s₁ H _
      walk_at "st"
      walk_at "nx"
      repeat' (walk_at "s1")
      refine fx_addL H (H.list (i := 0) rfl) (H.glist lB) (by simp only [sizeLine, List.length_append, e4, List.length_cons, List.length_nil]; omega) ?_
      clear H; intro W3 s₁ H _
      obtain ⟨g7, H', k7, fx, -, -⟩ := H.settle
      clear H
      have H := H'
      clear H'
      have W := W.mono k7
      have lB : g7.IsList B _ := lB.at fun o e => k7 _ o e
      have BP := paired_mono BP fun _ _ f => f.keeps k7
      have c1 : g7.IsCell (L + 3) (some (.str (oneOf m) tk3)) := let ⟨o, e, r⟩ := c1; ⟨o, k7 _ o e, r⟩
      have c2 : g7.IsCell (L + 4) (some (.str (twoOf m) tk4)) := let ⟨o, e, r⟩ := c2; ⟨o, k7 _ o e, r⟩
      have lW3 : g7.IsList W3 _ := listP.isL (fx 0 _ _ rfl)
      have WP := paired_app (paired_mono WP fun _ _ f => f.keeps k7) BP
      repeat' (walk_at "s1")
      refine fh_comp (clos_of V (by rfl)) (by rfl) (by decide) ?_
      repeat' (walk_at "s1")
      have hlt2 := H.lt
      refine fx_comp_val _ (fun _ => true) (fun i y h => ∃ t, (bareOf m)[i]? = some t ∧ pairTag h ((fun t : Tag => (oneOf m ++ t.1, 8 * t.2)) t) y) (fun i y h h' f k => let ⟨t, a, b⟩ := f; ⟨t, a, b.keeps k⟩) hA' V H (H.glist lB) (by simp [sizeLine]) ?hcell ?hkind ?step ?done
      case hcell => decide
      case hkind => rfl
      case step =>
        intro i v hi G env C mc s hG V H₀
        have hgG : g7.StaysIn G := stays_trans H.keep hG
        clear H
        have H := H₀
        clear H₀
        have W := W.mono hgG
        have c1 : G.IsCell (L + 3) (some (.str (oneOf m) tk3)) := let ⟨o, e, r⟩ := c1; ⟨o, hgG _ o e, r⟩
        have c2 : G.IsCell (L + 4) (some (.str (twoOf m) tk4)) := let ⟨o, e, r⟩ := c2; ⟨o, hgG _ o e, r⟩
        obtain ⟨t, ht, b, ta, tb, rfl, hb⟩ := paired_get BP i v hi
        have hs := bare_short m t (List.mem_of_getElem? ht)
        have hs1 := one_short m
        have hs2 := two_short m
        refine test_K ?_
        intro Kt hKt
        refine fx_unpack hA' H (H.glist (hb.at fun o e => hgG _ o e)) rfl rfl ?_
        clear H; intro s₁ H _
        refine in_order ?_
        walk_at "st"
        refine in_order ?_
        walk_at "st"
        refine in_order_nil ?_
        refine tests_nil (hKt.go ⟨rfl, ?_⟩)
        rw [if_pos rfl]
        repeat' (walk_at "s1")
        refine fx_addS H (by omega) ?_
        clear H; intro s₁ _ H
        repeat' (walk_at "s1")
        refine fx_mul H ?_ (IntMulOk.of_right (intBits_le_64 (by omega) (by omega)))
        clear H; intro s₁ _ H
        rw [show (8 : Int) * (t.2 : Int) = ((8 * t.2 : Nat) : Int) by simp]
        repeat' (walk_at "s1")
        have hltC := H.lt
        (with_reducible refine' fx_list H ?_ ?hsz); (case hsz => simp [sizeLine])
        clear H; intro aa s₁ H hge
        exact ⟨⟨_, H.drop (List.nil_sublist _)⟩, t, ht, aa, _, _, rfl, (H.list (i := 0) rfl).at fun o e => above_get e (Nat.lt_of_lt_of_le hltC hge)⟩
      case done =>
        intro D2 ys2 s₂ H' _ _ hl2 hP2
        clear H
        have H := H'
        clear H'
        have Q2 := paired_map (fun t : Tag => (oneOf m ++ t.1, 8 * t.2)) (range_filter_get (bareOf m) (fun _ => true) _ (fun _ _ _ => rfl) hP2 (G := fun t y => pairTag (above _ s₂.heap) ((fun t : Tag => (oneOf m ++ t.1, 8 * t.2)) t) y) (fun i t y e f => by obtain ⟨u, e', r⟩ := f; rw [e] at e'; cases e'; exact r))
        rw [List.filter_eq_self.mpr (fun _ _ => rfl)] at Q2
        obtain ⟨g8, H', k8, fx, up, -⟩ := H.settle
        clear H
        have H := H'
        clear H'
        have W := W.mono k8
        have l2 : g8.IsList D2 _ := hl2.at fun o e => up _ hlt2 _ o e
        have Q2 := paired_mono Q2 fun _ _ f => f.keeps (up _ hlt2)
        have lB : g8.IsList B _ := lB.at fun o e => k8 _ o e
        have BP := paired_mono BP fun _ _ f => f.keeps k8
        have c1 : g8.IsCell (L + 3) (some (.str (oneOf m) tk3)) := let ⟨o, e, r⟩ := c1; ⟨o, k8 _ o e, r⟩
        have c2 : g8.IsCell (L + 4) (some (.str (twoOf m) tk4)) := let ⟨o, e, r⟩ := c2; ⟨o, k8 _ o e, r⟩
        have lW3 : g8.IsList W3 _ := lW3.at fun o e => k8 _ o e
        have WP := paired_mono WP fun _ _ f => f.keeps k8
        have e5 : ys2.length = 3 := by rw [← paired_len Q2]; rfl
        refine fx_addL H (H.glist lW3) (H.glist l2) (by simp only [sizeLine, List.length_append, e4, e5, List.length_cons, List.length_nil]; omega) ?_
        clear H; intro W4 s₁ H _
        obtain ⟨g9, H', k9, fx, -, -⟩ := H.settle
        clear H
        have H := H'
        clear H'
        have W := W.mono k9
        have lB : g9.IsList B _ := lB.at fun o e => k9 _ o e
        have BP := paired_mono BP fun _ _ f => f.keeps k9
        have c1 : g9.IsCell (L + 3) (some (.str (oneOf m) tk3)) := let ⟨o, e, r⟩ := c1; ⟨o, k9 _ o e, r⟩
        have c2 : g9.IsCell (L + 4) (some (.str (twoOf m) tk4)) := let ⟨o, e, r⟩ := c2; ⟨o, k9 _ o e, r⟩
        have lW4 : g9.IsList W4 _ := listP.isL (fx 0 _ _ rfl)
        have WP := paired_app (paired_mono WP fun _ _ f => f.keeps k9) (paired_mono Q2 fun _ _ f => f.keeps k9)
        repeat' (walk_at "s1")
        refine fh_comp (clos_of V (by rfl)) (by rfl) (by decide) ?_
        repeat' (walk_at "s1")
        have hlt3 := H.lt
        refine fx_comp_val _ (fun _ => true) (fun i y h => ∃ t, (bareOf m)[i]? = some t ∧ pairTag h ((fun t : Tag => (twoOf m ++ t.1, 64 * t.2)) t) y) (fun i y h h' f k => let ⟨t, a, b⟩ := f; ⟨t, a, b.keeps k⟩) hA' V H (H.glist lB) (by simp [sizeLine]) ?hcell ?hkind ?step ?done
        case hcell => decide
        case hkind => rfl
        case step =>
          intro i v hi G env C mc s hG V H₀
          have hgG : g9.StaysIn G := stays_trans H.keep hG
          clear H
          have H := H₀
          clear H₀
          have W := W.mono hgG
          have c1 : G.IsCell (L + 3) (some (.str (oneOf m) tk3)) := let ⟨o, e, r⟩ := c1; ⟨o, hgG _ o e, r⟩
          have c2 : G.IsCell (L + 4) (some (.str (twoOf m) tk4)) := let ⟨o, e, r⟩ := c2; ⟨o, hgG _ o e, r⟩
          obtain ⟨t, ht, b, ta, tb, rfl, hb⟩ := paired_get BP i v hi
          have hs := bare_short m t (List.mem_of_getElem? ht)
          have hs1 := one_short m
          have hs2 := two_short m
          refine test_K ?_
          intro Kt hKt
          refine fx_unpack hA' H (H.glist (hb.at fun o e => hgG _ o e)) rfl rfl ?_
          clear H; intro s₁ H _
          refine in_order ?_
          walk_at "st"
          refine in_order ?_
          walk_at "st"
          refine in_order_nil ?_
          refine tests_nil (hKt.go ⟨rfl, ?_⟩)
          rw [if_pos rfl]
          repeat' (walk_at "s1")
          refine fx_addS H (by omega) ?_
          clear H; intro s₁ _ H
          repeat' (walk_at "s1")
          refine fx_mul H ?_ (IntMulOk.of_right (intBits_le_64 (by omega) (by omega)))
          clear H; intro s₁ _ H
          rw [show (64 : Int) * (t.2 : Int) = ((64 * t.2 : Nat) : Int) by simp]
          repeat' (walk_at "s1")
          have hltC := H.lt
          (with_reducible refine' fx_list H ?_ ?hsz); (case hsz => simp [sizeLine])
          clear H; intro aa s₁ H hge
          exact ⟨⟨_, H.drop (List.nil_sublist _)⟩, t, ht, aa, _, _, rfl, (H.list (i := 0) rfl).at fun o e => above_get e (Nat.lt_of_lt_of_le hltC hge)⟩
        case done =>
          intro D3 ys3 s₂ H' _ _ hl3 hP3
          clear H
          have H := H'
          clear H'
          have Q3 := paired_map (fun t : Tag => (twoOf m ++ t.1, 64 * t.2)) (range_filter_get (bareOf m) (fun _ => true) _ (fun _ _ _ => rfl) hP3 (G := fun t y => pairTag (above _ s₂.heap) ((fun t : Tag => (twoOf m ++ t.1, 64 * t.2)) t) y) (fun i t y e f => by obtain ⟨u, e', r⟩ := f; rw [e] at e'; cases e'; exact r))
          rw [List.filter_eq_self.mpr (fun _ _ => rfl)] at Q3
          obtain ⟨g10, H', k10, fx, up, -⟩ := H.settle
          clear H
          have H := H'
          clear H'
          have W := W.mono k10
          have l3 : g10.IsList D3 _ := hl3.at fun o e => up _ hlt3 _ o e
          have Q3 := paired_mono Q3 fun _ _ f => f.keeps (up _ hlt3)
          have lB : g10.IsList B _ := lB.at fun o e => k10 _ o e
          have BP := paired_mono BP fun _ _ f => f.keeps k10
          have c1 : g10.IsCell (L + 3) (some (.str (oneOf m) tk3)) := let ⟨o, e, r⟩ := c1; ⟨o, k10 _ o e, r⟩
          have c2 : g10.IsCell (L + 4) (some (.str (twoOf m) tk4)) := let ⟨o, e, r⟩ := c2; ⟨o, k10 _ o e, r⟩
          have lW4 : g10.IsList W4 _ := lW4.at fun o e => k10 _ o e
          have WP := paired_mono WP fun _ _ f => f.keeps k10
          have e6 : ys3.length = 3 := by rw [← paired_len Q3]; rfl
          have hltE := H.lt
          refine fx_addL H (H.glist lW4) (H.glist l3) (by simp only [sizeLine, List.length_append, e4, e5, e6, List.length_cons, List.length_nil]; omega) ?_
          clear H; intro W5 s₁ H hW5
          have WP := paired_app WP Q3
          have kk := stays_trans k₁ (stays_trans k2 (stays_trans k3 (stays_trans k4 (stays_trans k5 (stays_trans k6 (stays_trans k7 (stays_trans k8 (stays_trans k9 k10))))))))
          repeat' (walk_at "s1")
          exact hret W5 s₁ H.same (stays_trans kk H.keep) (tags_of_pairs (H.list (i := 0) rfl) (paired_mono WP fun _ _ f => f.keeps H.keep))
theorem ints_take {vs : List Value} {ns : List Int} (h : IntsAre vs ns) : ∀ k, IntsAre (vs.take k) (ns.take k) := by
  induction h with
  | nil => intro k; simp; exact .nil
  | cons n t _ ih =>
    intro k
    cases k with
    | zero => exact .nil
    | succ k => exact .cons n t (ih k)
theorem ints_drop {vs : List Value} {ns : List Int} (h : IntsAre vs ns) : ∀ k, IntsAre (vs.drop k) (ns.drop k) := by
  induction h with
  | nil => intro k; simp; exact .nil
  | cons n t r ih =>
    intro k
    cases k with
    | zero => exact .cons n t r
    | succ k => exact ih k
theorem ints_app {vs ws : List Value} {ns ks : List Int} (h : IntsAre vs ns) (h' : IntsAre ws ks) : IntsAre (vs ++ ws) (ns ++ ks) := by
  induction h with
  | nil => exact h'
  | cons n t _ ih => exact .cons n t ih
theorem ints_three {vs : List Value} {ns : List Int} (h : IntsAre vs ns) (hl : vs.length = 3) : ∃ x0 x1 x2 t0 t1 t2, vs = [.int x0 t0, .int x1 t1, .int x2 t2] ∧ ns = [x0, x1, x2] := by
  cases h with
  | nil => simp at hl
  | cons a ta h => cases h with
    | nil => simp at hl
    | cons b tb h => cases h with
      | nil => simp at hl
      | cons c tc h => cases h with
        | nil => exact ⟨_, _, _, _, _, _, rfl, rfl⟩
        | cons d td h => simp at hl
theorem cells_list {h : Heap} {C : Addr} {vs : List Value} {ns : List Int} {ta tb tc : Tok} (hi : IntsAre vs ns)
    (hl : h.IsList C (List.toArray ((List.take 3 vs.toArray.toList).toArray.toList ++ (List.drop vs.length #[Value.int 0 ta, Value.int 17 tb, Value.int 128 tc].toList).toArray.toList))) :
    ∃ (x0 x1 x2 : Int) (t0 t1 t2 : Tok), h.IsList C (List.toArray [.int x0 t0, .int x1 t1, .int x2 t2]) := by
  obtain ⟨x0, x1, x2, t0, t1, t2, e, -⟩ := ints_three (ints_app (ints_take hi 3) (ints_drop (.cons 0 ta (.cons 17 tb (.cons 128 tc .nil))) vs.length)) (by simp; omega)
  exact ⟨x0, x1, x2, t0, t1, t2, e ▸ hl⟩
theorem tags_lift {h g : Heap} {l : Addr} {T : List Tag} (f : ∀ (a : Addr) (its : Array Value), h.IsList a its → g.IsList a its) (x : IsTags h l T) : IsTags g l T :=
  let ⟨vs, a, b, c⟩ := x; ⟨vs, f _ _ a, b, fun i t e => let ⟨q, tk, tk2, e1, e2⟩ := c i t e; ⟨q, tk, tk2, e1, f _ _ e2⟩⟩
theorem GroupAt.keeps {w : World} {h h' : Heap} {d : Addr} {T : List Tag} {c : Nat} (x : GroupAt w h d T c) (k : h.StaysIn h') : GroupAt w h' d T c :=
  let ⟨kvs, ⟨o, es, ep, e, r⟩, P⟩ := x; ⟨kvs, ⟨o, es, ep, k _ _ e, r⟩, paired_mono P fun _ _ f => f.keeps k⟩
theorem not_sys {n d : Addr} (h : 30 < n) (hd : n ≤ d) : (d == sysModules) = false := by
  have : d ≠ 1 := Nat.ne_of_gt (Nat.lt_of_lt_of_le (Nat.lt_trans (by decide : 1 < 30) h) hd)
  exact beq_eq_false_iff_ne.mpr this
theorem fmod_nat (x : Int) {b : Nat} (hb : 0 < b) : ∃ m : Nat, x.fmod (b : Int) = (m : Int) ∧ m < b := by
  have h1 : 0 ≤ x.fmod (b : Int) := Int.fmod_nonneg_of_pos _ (by omega)
  have h2 : x.fmod (b : Int) < b := Int.fmod_lt_of_pos _ (by omega)
  exact ⟨(x.fmod (b : Int)).toNat, by omega, by omega⟩

set_option maxHeartbeats 2000000 in
theorem fx_diff_traceback {w : World} {A : Around} {E : Value → Shared → Prop} {s s₀ : Shared} {g : Heap} {L x : Addr} {m : Str → Option Value} {ms : Mut} {t sz sd ct cd : Value} {b : Bool} {Q : Value → Shared → Prop} (H : FX g L s₀ s m ms) (W : Wd w g) (X : DiffAt g x t sz sd ct cd) (hv : handedIn t = true)
    (h : ∀ s', FX g L s₀ s' m ms → Q t s') : wpAny (model Pg w) A (getAttr (.ref x) (Str.ofString "traceback") b) Q E s := by
  obtain ⟨dx, e1, e2⟩ := X
  walk_at "kf"
  refine' fx_getSlot (C := 176) (p := 181) (i := 4) H W.kin ⟨H.keep _ _ e1, rfl, rfl, H.keep _ _ e2⟩ ?hg ?hc ?ha ?hn ?ht ?hp ?hv hv h
  case hg => k_is
  case hc => k_is
  case ha => k_is
  case hn => k_is
  case ht => k_is
  case hp => k_is
  case hv => rfl
set_option maxHeartbeats 2000000 in
theorem fx_diff_size {w : World} {A : Around} {E : Value → Shared → Prop} {s s₀ : Shared} {g : Heap} {L x : Addr} {m : Str → Option Value} {ms : Mut} {t sz sd ct cd : Value} {b : Bool} {Q : Value → Shared → Prop} (H : FX g L s₀ s m ms) (W : Wd w g) (X : DiffAt g x t sz sd ct cd) (hv : handedIn sz = true)
    (h : ∀ s', FX g L s₀ s' m ms → Q sz s') : wpAny (model Pg w) A (getAttr (.ref x) (Str.ofString "size") b) Q E s := by
  obtain ⟨dx, e1, e2⟩ := X
  walk_at "kf"
  refine' fx_getSlot (C := 176) (p := 179) (i := 2) H W.kin ⟨H.keep _ _ e1, rfl, rfl, H.keep _ _ e2⟩ ?hg ?hc ?ha ?hn ?ht ?hp ?hv hv h
  case hg => k_is
  case hc => k_is
  case ha => k_is
  case hn => k_is
  case ht => k_is
  case hp => k_is
  case hv => rfl
set_option maxHeartbeats 2000000 in
theorem fx_diff_size_diff {w : World} {A : Around} {E : Value → Shared → Prop} {s s₀ : Shared} {g : Heap} {L x : Addr} {m : Str → Option Value} {ms : Mut} {t sz sd ct cd : Value} {b : Bool} {Q : Value → Shared → Prop} (H : FX g L s₀ s m ms) (W : Wd w g) (X : DiffAt g x t sz sd ct cd) (hv : handedIn sd = true)
    (h : ∀ s', FX g L s₀ s' m ms → Q sd s') : wpAny (model Pg w) A (getAttr (.ref x) (Str.ofString "size_diff") b) Q E s := by
  obtain ⟨dx, e1, e2⟩ := X
  walk_at "kf"
  refine' fx_getSlot (C := 176) (p := 180) (i := 3) H W.kin ⟨H.keep _ _ e1, rfl, rfl, H.keep _ _ e2⟩ ?hg ?hc ?ha ?hn ?ht ?hp ?hv hv h
  case hg => k_is
  case hc => k_is
  case ha => k_is
  case hn => k_is
  case ht => k_is
  case hp => k_is
  case hv => rfl
set_option maxHeartbeats 2000000 in
theorem fx_diff_count {w : World} {A : Around} {E : Value → Shared → Prop} {s s₀ : Shared} {g : Heap} {L x : Addr} {m : Str → Option Value} {ms : Mut} {t sz sd ct cd : Value} {b : Bool} {Q : Value → Shared → Prop} (H : FX g L s₀ s m ms) (W : Wd w g) (X : DiffAt g x t sz sd ct cd) (hv : handedIn ct = true)
    (h : ∀ s', FX g L s₀ s' m ms → Q ct s') : wpAny (model Pg w) A (getAttr (.ref x) (Str.ofString "count") b) Q E s := by
  obtain ⟨dx, e1, e2⟩ := X
  walk_at "kf"
  refine' fx_getSlot (C := 176) (p := 177) (i := 0) H W.kin ⟨H.keep _ _ e1, rfl, rfl, H.keep _ _ e2⟩ ?hg ?hc ?ha ?hn ?ht ?hp ?hv hv h
  case hg => k_is
  case hc => k_is
  case ha => k_is
  case hn => k_is
  case ht => k_is
  case hp => k_is
  case hv => rfl
set_option maxHeartbeats 2000000 in
theorem fx_diff_count_diff {w : World} {A : Around} {E : Value → Shared → Prop} {s s₀ : Shared} {g : Heap} {L x : Addr} {m : Str → Option Value} {ms : Mut} {t sz sd ct cd : Value} {b : Bool} {Q : Value → Shared → Prop} (H : FX g L s₀ s m ms) (W : Wd w g) (X : DiffAt g x t sz sd ct cd) (hv : handedIn cd = true)
    (h : ∀ s', FX g L s₀ s' m ms → Q cd s') : wpAny (model Pg w) A (getAttr (.ref x) (Str.ofString "count_diff") b) Q E s := by
  obtain ⟨dx, e1, e2⟩ := X
  walk_at "kf"
  refine' fx_getSlot (C := 176) (p := 178) (i := 1) H W.kin ⟨H.keep _ _ e1, rfl, rfl, H.keep _ _ e2⟩ ?hg ?hc ?ha ?hn ?ht ?hp ?hv hv h
  case hg => k_is
  case hc => k_is
  case ha => k_is
  case hn => k_is
  case ht => k_is
  case hp => k_is
  case hv => rfl
set_option maxHeartbeats 2000000 in
theorem law_c {w : World} {A : Around} {s : Shared} {n : Nat} {g : Heap} {l : Addr} {vs : List Value} {ns : List Int} {Q E : Value → Shared → Prop}
   (hA : AOk n A) (hn : n < 400) (W : Wd w g) (hgs : g.StaysIn s.heap) (h30 : g.get? 30 = none) (hT : TabOK g s.heap) (hl : g.IsList l vs.toArray) (hi : IntsAre vs ns) (hlen : vs.length ≤ 63)
   (hret : ∀ s', Same s s' → Heap.ExtBut 30 s.heap s'.heap → (∃ ps, s'.heap.get? 30 = some (tabObj ps)) → Q (.bool true) s') :
   wpAny (model Pg w) A (call (.ref 236) [.ref l]) Q E s := by
  have hg0 : g.StaysIn (s.heap.hide 30) := fun b o e => (Heap.hide_ne _ (fun q => by rw [q, h30] at e; cases e)).trans (hgs _ _ e)
  have W := W.mono hg0
  walk_at "kf"
  refine' fx_enterM (fun L => []) (fun y => if y = Str.ofString "script" then some (.ref l) else none) (fun L => [])
    [(Str.ofString "script", .ref l)] [(30, tabP g)] hA (by omega) W (fun _ _ e => Heap.of_hide e) ?h0 ?h00 ?ho ?hcd ?hbind ?hkind ?hnd ?hcl ?hml ?hms ?h ?hco ?hgen ?hk
  case h0 => intro p hp; cases List.mem_singleton.mp hp; exact ⟨hT, Heap.hide_self _ _⟩
  case h00 => simp
  walk_at "enterM"
  repeat' (walk_at "s1")
  refine fx_slice ?_
  repeat' (walk_at "s1")
  refine ⟨l, vs.toArray, none, some (3 : Nat), _, _, _, _, _, rfl, H.glist (hl.at fun o e => hg0 _ o e), by simp only [List.size_toArray, sizeLine]; omega, .none, .int _ _, H, ?_⟩
  clear H; intro a1 s₁ H _
  rw [slicePick_upto'] at H
  repeat' (walk_at "s1")
  refine slice_tmp ?_
  repeat' (walk_at "s1")
  walk_at "nl"
  repeat' (walk_at "s1")
  refine fx_len H (H.glist (hl.at fun o e => hg0 _ o e)) (by rw [List.size_toArray]; omega) ?_
  rw [List.size_toArray]
  clear H; intro s₁ _ H
  repeat' (walk_at "s1")
  refine ⟨aa, _, some (vs.length : Nat), none, _, _, _, _, _, rfl, H.list (i := 0) rfl, by simp [sizeLine], .int _ _, .none, H, ?_⟩
  clear H; intro a2 s₁ H _
  rw [slicePick_from'] at H
  refine fx_addL H (H.list (i := 2) rfl) (H.list (i := 0) rfl) (by simp [sizeLine]; omega) ?_
  clear H; intro C s₁ H _
  obtain ⟨x0, x1, x2, t0, t1, t2, lC⟩ := cells_list hi (H.list (i := 0) rfl)
  obtain ⟨g1, H', k1, k1', up, lists⟩ := (H.drop (ms' := [(30, tabP g)]) (.cons _ (.cons _ (.cons _ (.cons _ (.refl _)))))).liftL
  have lC := lists _ _ lC
  clear H up lists k1'
  have H := H'
  clear H'
  have W := W.mono k1
  walk_at "st"
  walk_at "nx"
  repeat' (walk_at "s1")
  walk_at "callK"
  refine fx_sum hA' H (H.glist lC) (.cons _ _ (.cons _ _ (.cons _ _ .nil))) ?_
  clear H; intro s₁ _ H
  repeat' (walk_at "s1")
  obtain ⟨m, hm, hm32⟩ := fmod_nat [x0, x1, x2].sum (b := 32) (by decide)
  rw [show ([x0, x1, x2].sum.fmod 32) = (m : Int) from hm]
  have ok := tags_ok hm32
  refine ⟨H.keep, tags_c hA' (by omega) (W.mono H.keep) hm32 ?_⟩
  intro T s' S k hTg
  replace H := H.call S k
  obtain ⟨g2, H', k2, k2', up, lists⟩ := H.liftL
  have hTg := tags_lift lists hTg
  have lC := lC.at fun o e => k2 _ o e
  clear H up lists k2'
  have H := H'
  clear H'
  have W := W.mono k2
  walk_at "st"
  walk_at "nx"
  repeat' (walk_at "s1")
  refine Subscript_Constant ?_
  repeat' (walk_at "s1")
  refine fx_itemL (v := .int x0 t0) (H.glist lC) (by omega) (by omega) rfl ?_
  repeat' (walk_at "s1")
  obtain ⟨y, hy, hy512⟩ := fmod_nat x0 (b := 512) (by decide)
  rw [show (x0.fmod 512) = (y : Int) from hy, show (273 : Int) = ((273 : Nat) : Int) from rfl, bitXor_nat]
  obtain ⟨c, hcy⟩ : ∃ c, c = y ^^^ 273 := ⟨_, rfl⟩
  have hc : c < 512 := hcy ▸ Nat.xor_lt_two_pow (n := 9) hy512 (by decide)
  rw [← hcy]
  walk_at "st"
  walk_at "nx"
  repeat' (walk_at "s1")
  walk_at "callK"
  refine ⟨H.keep, reached_c hA' (by omega) (W.mono H.keep) hc ?_⟩
  intro R s' rv S k hR hRi
  replace H := H.call S k
  obtain ⟨g3, H', k3, k3', up, lists⟩ := H.liftL
  have lR := lists R _ (hR.at fun o e => of_hideAll _ e)
  have hTg := hTg.keeps k3
  have lC := lC.at fun o e => k3 _ o e
  clear H up lists k3' hR
  have H := H'
  clear H'
  have W := W.mono k3
  walk_at "st"
  walk_at "nx"
  repeat' (walk_at "s1")
  walk_at "callK"
  have kk : (s.heap.hide 30).StaysIn g3 := stays_trans k1 (stays_trans k2 k3)
  replace H := H.imp (i := 0) rfl (p' := tabP g3) fun o z => z.up (stays_trans hg0 kk)
  dsimp only [List.set] at H
  have h30' := (H.at (i := 0) rfl).2.2
  have hlt30 := H.mlt (30, _) (.head _)
  refine ⟨H.keep, group_c (g := g3) hA' (by omega) W H.keep h30' (H.at (i := 0) rfl).1 hTg ok ?_⟩
  intro d1 s' S hx hT' hd1 hG1
  have hd1S := not_sys hlt30 hd1
  obtain ⟨o30, ho30, hp30⟩ := hT'
  have k4 : g3.StaysIn (ext g3 s₁.heap.objs.size s'.heap) := extOut_keep H h30' hx
  have hG1 := hG1.keeps (ext_above (g := g3))
  replace H := H.extend S (i := 0) rfl hx ho30 hp30
  dsimp only [List.set] at H
  generalize ext g3 s₁.heap.objs.size s'.heap = g4 at H k4 hG1 hp30
  have hTg := hTg.keeps k4
  have lC := lC.at fun o e => k4 _ o e
  have lR := lR.at fun o e => k4 _ o e
  have W := W.mono k4
  have kk := stays_trans kk k4
  walk_at "st"
  walk_at "nx"
  repeat' (walk_at "s1")
  refine wpAny_For ?_ (fun _ => rfl)
  refine fx_slice ?_
  repeat' (walk_at "s1")
  refine ⟨C, _, some (1 : Nat), none, _, _, _, _, _, rfl, H.glist lC, by simp [sizeLine], .int _ _, .none, H, ?_⟩
  clear H; intro C2 s₁ H _
  rw [slicePick_from'] at H
  have lC2 := H.list (i := 0) rfl
  obtain ⟨g5, H', k5, k5', up, lists⟩ := (H.drop (ms' := [(30, tabP g4)]) (.cons _ (.refl _))).liftL
  have lC2 := lists _ _ lC2
  have hTg := hTg.keeps k5
  have lR := lR.at fun o e => k5 _ o e
  have hG1 := hG1.keeps k5
  clear H up lists k5'
  have H := H'
  clear H'
  have W := W.mono k5
  have kk := stays_trans kk k5
  replace H := H.imp (i := 0) rfl (p' := tabP g5) fun o z => z.up k5
  dsimp only [List.set] at H
  obtain ⟨kvs1, hD1, hP1⟩ := hG1
  have lC2 : g5.IsList C2 (List.toArray [.int x1 t1, .int x2 t2]) := lC2
  refine fx_for_list [.int x1 t1, .int x2 t2] (fun i G m' ms => ∃ tkc, ms = [(30, tabP G)] ∧ m' (Str.ofString "tags") = some (.ref T) ∧ m' (Str.ofString "chosen") = some (.int (c : Nat) tkc) ∧ m' (Str.ofString "reached") = some (.ref R) ∧ m' (Str.ofString "first") = some (.ref d1)) hA' H lC2 ⟨_, rfl, rfl, rfl, rfl, rfl⟩ ?_ ?_
  · clear H
    intro i v hv G m' ms I s₁ hG hP H
    refine body_K ?_
    intro Kb hKb
    obtain ⟨tkc, rfl, hmT, hmC, hmR, hmF⟩ := hP
    obtain ⟨xv, tv, rfl⟩ : ∃ xv tv, v = .int xv tv := by
      match i, hv with
      | 0, hv => cases hv; exact ⟨_, _, rfl⟩
      | 1, hv => cases hv; exact ⟨_, _, rfl⟩
    have W := W.mono hG
    have hTg := hTg.keeps hG
    have lR := lR.at fun o e => hG _ o e
    have hP1 := paired_mono hP1 fun _ _ f => f.keeps hG
    have hD1 : G.DictOf (strKind Pg w) d1 kvs1 := let ⟨o, es, ep, e, r⟩ := hD1; ⟨o, es, ep, hG _ _ e, r⟩
    refine assign_Name ?_
    walk_at "st"
    repeat' (walk_at "s1")
    walk_at "callK"
    refine ⟨H.keep, other_c hA' (by omega) (W.mono H.keep) hc ?_⟩
    intro k tk s' hk S kS
    replace H := H.call S kS
    walk_at "st"
    walk_at "nx"
    repeat' (walk_at "s1")
    walk_at "callK"
    have hlt30 := H.mlt (30, _) (.tail _ (.head _))
    have hkv1 : kvs1.length ≤ 64 := by
      have h1 := paired_len hP1
      have h2 := List.length_filter_le (hits c) (tagsOf m)
      have h3 := ok.small.len
      omega
    refine fx_dictC H (let ⟨o, es, ep, e, r⟩ := hD1; ⟨o, es, ep, H.keep _ _ e, r⟩) hd1S (by simp only [sizeLine]; omega) ?_
    clear H; intro dC s₁ H hdC
    repeat' (walk_at "s1")
    walk_at "callK"
    have h30' := (H.at (i := 2) rfl).2.2
    have hlt30' := H.mlt (30, _) (.tail _ (.tail _ (.head _)))
    refine ⟨H.keep, group_c (g := G) hA' (by omega) W H.keep h30' (H.at (i := 2) rfl).1 hTg ok ?_⟩
    intro d2 s' S hx hT' hd2 hG2
    obtain ⟨o30, ho30, hp30⟩ := hT'
    have k4 : G.StaysIn (ext G s₁.heap.objs.size s'.heap) := extOut_keep H h30' hx
    obtain ⟨kvs2, hD2, hP2⟩ := hG2.keeps (ext_above (g := G))
    replace H := H.extend S (i := 2) rfl hx ho30 hp30
    dsimp only [List.set] at H
    generalize ext G s₁.heap.objs.size s'.heap = G2 at H k4 hD2 hP2 hp30
    have hTg := hTg.keeps k4
    have lR := lR.at fun o e => k4 _ o e
    have W := W.mono k4
    have hP1 := paired_mono hP1 fun _ _ f => f.keeps k4
    repeat' (walk_at "s1")
    have hdCg := (H.at (i := 0) rfl).2.2
    have hdCL := (H.at (i := 0) rfl).2.1
    refine ⟨stays_trans k4 H.keep, compare_c (g := G2) hA' (by omega) W H.keep ok (H.dict (i := 0) rfl) hdCg (not_sys hlt30 hdC) (not_sys hlt30' hd2) hD2 hP1 hP2 ?_⟩
    intro D s'' xs S hx hDge hDl hDP
    have nd := H.fh.nodup
    have k5 : G2.StaysIn (ext G2 s'.heap.objs.size s''.heap) := extOut_keep H hdCg hx
    replace H := (H.drop (ms' := [(I, iterP C2 (i + 1)), (30, tabP G2)]) (.cons _ (.refl _))).extOut S hdCg hdCL (by simp only [List.map_cons, List.map_nil, List.nodup_cons, List.mem_cons, List.not_mem_nil, or_false, not_or] at nd ⊢; grind) hx
    have lD := hDl.at fun o e => ext_above (g := G2) _ o e
    have hDP := paired_mono hDP fun _ _ f => f.keeps (ext_above (g := G2))
    generalize ext G2 s'.heap.objs.size s''.heap = G3 at H k5 lD hDP
    have hTg := hTg.keeps k5
    have lR := lR.at fun o e => k5 _ o e
    have W := W.mono k5
    clear hx hDl nd hdCg hdCL
    obtain ⟨TL, hTL⟩ : ∃ TL, TL = (tagsOf m).filter (hits k) ++ (tagsOf m).filter (fun t => hits c t && !hits k t) := ⟨_, rfl⟩
    rw [← hTL] at hDP
    have hTLm : ∀ t ∈ TL, t ∈ tagsOf m := fun t ht => by
      rw [hTL] at ht
      rcases List.mem_append.mp ht with q | q <;> exact (List.mem_filter.mp q).1
    have hTL64 : TL.length ≤ 128 := by
      have h1 := List.length_filter_le (hits k) (tagsOf m)
      have h2 := List.length_filter_le (fun t => hits c t && !hits k t) (tagsOf m)
      have h3 := ok.small.len
      rw [hTL, List.length_append]
      omega
    have hxl := paired_len hDP
    walk_at "st"
    walk_at "nx"
    walk_at "s1"
    refine fh_comp_assign (swaps_of V (by rfl) (by rfl) (by rfl)) (clos_of V (by rfl)) (by rfl) (by decide) ?_ (fun _ => rfl)
    repeat' (walk_at "s1")
    have hltc := H.lt
    have hmsc := H.mlt
    refine fx_comp_set xs (fun _ => true) (fun i y h => ∃ t, TL[i]? = some t ∧ dueOf (tagsOf m) c k h t y) (fun i y h h' f q => let ⟨t, a, b⟩ := f; ⟨t, a, b.keeps q⟩) hA' V H (H.glist lD) (by simp only [sizeLine]; omega) ?hcell ?hkind ?hy ?hk ?step ?done
    walk_at "compset"
    case step =>
      intro i v hv G' env Cc mc s hG' V' H₀
      have hgG : G3.StaysIn G' := stays_trans H.keep hG'
      clear H
      have V := V'
      have H := H₀
      clear H₀
      have W := W.mono hgG
      obtain ⟨t, ht, x, tk, u1, u2, u3, u4, rfl, X⟩ := paired_get hDP i v hv
      have X := X.keeps hgG
      refine test_K ?_
      intro Kt hKt
      refine assign_Name ?_
      walk_at "st"
      refine tests_nil (hKt.go ⟨rfl, ?_⟩)
      rw [if_pos rfl]
      repeat' (walk_at "s1")
      refine fx_diff_traceback H W X rfl ?_
      clear H; intro s₁ H
      repeat' (walk_at "s1")
      refine fx_diff_size H W X rfl ?_
      clear H; intro s₁ H
      repeat' (walk_at "s1")
      refine fx_diff_size_diff H W X rfl ?_
      clear H; intro s₁ H
      repeat' (walk_at "s1")
      refine fx_diff_count H W X rfl ?_
      clear H; intro s₁ H
      repeat' (walk_at "s1")
      refine fx_diff_count_diff H W X rfl ?_
      clear H; intro s₁ H
      repeat' (walk_at "s1")
      have hltC := H.lt
      refine fx_tuple H ?_ (by simp [sizeLine])
      clear H; intro aT s₁ H haT
      obtain ⟨⟨oT, heT, q1, nT, q2⟩, -⟩ := H.at (i := 0) rfl
      exact ⟨⟨_, H.drop (List.nil_sublist _)⟩, t, ht, aT, _, _, _, _, _, rfl, oT, above_get heT (Nat.lt_of_lt_of_le hltC haT), q1, nT, q2⟩
    case done =>
      intro D2 ys s₂ H₂ hD2' hl2 hP2'
      clear H
      have H := H₂
      clear H₂
      have PY := range_filter_get TL (fun _ => true) _ (fun _ _ _ => rfl) (by rw [hxl]; exact hP2') (G := dueOf (tagsOf m) c k (above _ s₂.heap)) (fun i t y e f => by obtain ⟨u, e', r⟩ := f; rw [e] at e'; cases e'; exact r)
      rw [List.filter_eq_self.mpr (fun _ _ => rfl)] at PY
      obtain ⟨G4, H', k6, -, up, -⟩ := H.rebase (List.Sublist.refl _)
      have lY := hl2.at fun o e => up _ hltc hmsc _ o e
      have PY := paired_mono PY fun _ _ f => f.keeps (up _ hltc hmsc)
      clear H hP2' hl2 up
      have H := H'
      clear H'
      have hTg := hTg.keeps k6
      have lR := lR.at fun o e => k6 _ o e
      have W := W.mono k6
      have hyl := paired_len PY
      walk_at "nx"
      walk_at "s1"
      refine fh_comp_assign (swaps_of V (by rfl) (by rfl) (by rfl)) (clos_of V (by rfl)) (by rfl) (by decide) ?_ (fun _ => rfl)
      repeat' (walk_at "s1")
      have hltc := H.lt
      have hmsc := H.mlt
      refine fx_comp_set ys (fun i => (TL[i]?).any (fun t => isWild t.1 && ((countOf (tagsOf m) (k &&& t.2) : Int) - (countOf (tagsOf m) (c &&& t.2) : Int) != 0))) (fun i y _ => ys[i]? = some y) (fun _ _ _ _ f _ => f) hA' V H (H.glist lY) (by simp only [sizeLine]; omega) ?hcell ?hkind ?hy ?hk ?step ?done
      walk_at "compset"
      case step =>
        intro i v hv G' env Cc mc s hG' V' H₀
        have hgG : G4.StaysIn G' := stays_trans H.keep hG'
        clear H
        have V := V'
        have H := H₀
        clear H₀
        have W := W.mono hgG
        obtain ⟨t, ht, aT, tk, u1, u2, u3, u4, rfl, X⟩ := paired_get PY i v hv
        have htm := hTLm t (List.mem_of_getElem? ht)
        have X : G'.IsTuple aT _ := let ⟨o, e, r⟩ := X; ⟨o, hgG _ o e, r⟩
        have hpi : (TL[i]?).any (fun t => isWild t.1 && ((countOf (tagsOf m) (k &&& t.2) : Int) - (countOf (tagsOf m) (c &&& t.2) : Int) != 0)) = (isWild t.1 && ((countOf (tagsOf m) (k &&& t.2) : Int) - (countOf (tagsOf m) (c &&& t.2) : Int) != 0)) := by rw [ht]; rfl
        refine test_K ?_
        intro Kt hKt
        refine assign_Name ?_
        walk_at "st"
        refine tests_one ?_
        repeat' (walk_at "s1")
        walk_at "callK"
        refine Subscript_Constant ?_
        repeat' (walk_at "s1")
        refine fx_itemT (k := 0) (v := .str t.1 tk) (let ⟨o, e, r⟩ := X; ⟨o, H.keep _ _ e, r⟩) (by decide) rfl ?_
        repeat' (walk_at "s1")
        refine ⟨H.keep, is_wild_c hA' (by omega) (W.mono H.keep) (ok.small.short t htm) ?_⟩
        intro s₂ S q
        replace H := H.call S q
        refine wpAny_truthy_bool ?_
        split
        · rename_i q1
          repeat' (walk_at "s1")
          refine Subscript_Constant ?_
          repeat' (walk_at "s1")
          refine fx_itemT (k := 4) (v := .int ((countOf (tagsOf m) (k &&& t.2) : Int) - (countOf (tagsOf m) (c &&& t.2) : Int)) u4) (let ⟨o, e, r⟩ := X; ⟨o, H.keep _ _ e, r⟩) (by decide) rfl ?_
          repeat' (walk_at "s1")
          split
          · rename_i q2
            repeat' (walk_at "s1")
            refine ⟨?_, ?_⟩
            · show _ = (TL[i]?).any _
              rw [hpi, q1, q2]; rfl
            · walk_at "name"
              exact ⟨⟨_, H⟩, hv⟩
          · rename_i q2
            refine hKt.go ⟨?_, ?_⟩
            · show _ = (TL[i]?).any _
              rw [hpi, q1, Bool.eq_false_iff.mpr q2]; rfl
            · exact ⟨_, H⟩
        · rename_i q1
          refine hKt.go ⟨?_, ?_⟩
          · show _ = (TL[i]?).any _
            rw [hpi, Bool.eq_false_iff.mpr q1, Bool.false_and]
          · exact ⟨_, H⟩
      case done =>
        intro D3 zs s₃ H₃ hD3' hl3 hP3'
        clear H
        have H := H₃
        clear H₃
        have PZ := range_filter_get TL (fun t => isWild t.1 && ((countOf (tagsOf m) (k &&& t.2) : Int) - (countOf (tagsOf m) (c &&& t.2) : Int) != 0)) (fun i => (TL[i]?).any (fun t => isWild t.1 && ((countOf (tagsOf m) (k &&& t.2) : Int) - (countOf (tagsOf m) (c &&& t.2) : Int) != 0))) (fun i t e => by rw [e]; rfl) (by rw [hyl]; exact hP3') (G := dueOf (tagsOf m) c k G4) (fun i t y e f => by
          obtain ⟨u, e', r⟩ := paired_get PY i y f
          rw [e] at e'; cases e'; exact r)
        obtain ⟨G5, H', k7, -, up, -⟩ := H.rebase (List.Sublist.refl _)
        have lZ := hl3.at fun o e => up _ hltc hmsc _ o e
        have PZ := paired_mono PZ fun _ _ f => f.keeps k7
        have PY := paired_mono PY fun _ _ f => f.keeps k7
        have lY := lY.at fun o e => k7 _ o e
        clear H hP3' hl3 up
        have H := H'
        clear H'
        have hTg := hTg.keeps k7
        have lR := lR.at fun o e => k7 _ o e
        have W := W.mono k7
        have hTLok : ∀ t ∈ TL, PyData.strOk t.1 = true := fun t ht => (ok.short t (hTLm t ht)).1
        have hzl : (TL.filter (fun t => isWild t.1 && ((countOf (tagsOf m) (k &&& t.2) : Int) - (countOf (tagsOf m) (c &&& t.2) : Int) != 0))).isEmpty = (reachedOf c).any (· == k) := by
          rw [hTL]; exact law_fact hm32 hc hk
        walk_at "nx"
        repeat' (walk_at "s1")
        walk_at "nl"
        repeat' (walk_at "s1")
        refine fx_eqR hA' (by omega) (reads_dues (H.glist lZ) (paired_mono PZ fun _ _ f => f.keeps H.keep)) (reads_dues (T := tagsOf m) (c1 := c) (c2 := k) (l := []) (ys := []) (H.list (i := 0) rfl) .nil) (shaped_dues fun t ht => hTLok t (List.mem_filter.mp ht).1) (shaped_dues (fun _ h => nomatch h)) ?_
        rw [List.map_nil, eqv_dues_nil, hzl]
        repeat' (walk_at "s1")
        refine in_list_ints (H.glist lR) hRi ?_
        rw [any_cast]
        refine ne_bools ?_
        rw [show (!((reachedOf c).any (· == k) == (reachedOf c).any (· == k))) = false by simp]
        repeat' (walk_at "s1")
        walk_at "callK"
        refine ⟨H.keep, due_c hA' (by omega) (W.mono H.keep) ok (hTg.keeps H.keep) ?_⟩
        intro D4 s' us S q lU PU
        rw [← hTL] at PU
        replace H := H.call S q
        refine fx_neR hA' (by omega) (reads_dues (H.glist lY) (paired_mono PY fun _ _ f => f.keeps H.keep)) (reads_dues (lU.at fun o e => of_hideAll _ e) (paired_mono PU fun _ _ f => f.keeps (above_stays _ _))) (shaped_dues hTLok) (shaped_dues hTLok) ?_
        rw [eqv_dues, Bool.not_true]
        repeat' (walk_at "s1")
        have H := (H.drop (ms' := [(I, iterP C2 (i + 1)), (30, tabP G2)]) (.cons _ (.refl _))).imp (i := 1) rfl (p' := tabP G5) fun o z => z.up (stays_trans k5 (stays_trans k6 k7))
        refine ⟨G5, _, _, stays_trans k4 (stays_trans k5 (stays_trans k6 k7)), ?_, H⟩
        exact ⟨tkc, rfl, hmT, hmC, hmR, hmF⟩
  · intro G m' ms s₁ hG hP H
    obtain ⟨tkc, rfl, -⟩ := hP
    repeat' (walk_at "s1")
    refine hret s₁ H.same (fun b o hb e => H.keep _ _ (hG _ _ (kk _ _ ((Heap.hide_ne _ hb).trans e)))) ?_
    obtain ⟨⟨o, e, ps, rfl, _⟩, _⟩ := H.at (i := 0) rfl
    exact ⟨ps, e⟩
theorem end_bare {s s' : Shared} (S : Same s s') (h : s.gens = #[]) : AllBare s'.gens := fun y hy => by
  obtain ⟨k, hk, e⟩ := Array.getElem_of_mem hy
  have e' : s'.gens[k]? = some y := by rw [Array.getElem?_eq_getElem hk, e]
  rcases S.gens.2 k y e' with q | q
  · rw [h] at q; simp at q
  · exact q
theorem end_old {s s' : Shared} (hT : TabsAt [(34, 30)] s.heap) (hx : Heap.ExtBut 30 s.heap s'.heap) (hg : ∃ ps, s'.heap.get? 30 = some (tabObj ps)) : OldK s.heap s'.heap := by
  obtain ⟨ps, hP⟩ := hg
  have h34 := hT (34, 30) (.head _)
  refine ⟨fun b o e => ?_, fun b o e => ?_⟩
  · by_cases hb : b = 30
    · subst hb
      have e2 := h34.2
      rw [e] at e2
      cases e2
      exact .inr (.inl ⟨(h34.1.tab h34.2).isCodeTable, rfl, #[], ps, rfl, by rw [Array.empty_append]; exact hP⟩)
    · exact .inl (hx b o hb e)
  · by_cases hb : b = 30
    · subst hb; exact ⟨_, hP⟩
    · exact ⟨o, hx b o hb e⟩
theorem end_os {s s' : Shared} (S : Same s s') : s'.os = s.os := by obtain ⟨h, t, g, rfl, _⟩ := S; rfl
end Mine
open Mine
set_option maxHeartbeats 8000000 in
theorem PySem.Challenge.cw_wf0048_01_holds : PySem.Challenge.rw_wf0048_01.Holds := by
  refine Mine.hd ?_
  intro w s₀ s₁ mg mb G Y fa o pm cd doc dV kV ho hd hcd hD hmg hg args vals as hpre hlay hrd hwl hlo
  have KX : (KK w.params).In s₁.heap := km_in_of Y
  have hk := And.intro (rfl : PySem.Challenge.rw_wf0048_01 = PySem.Challenge.rw_wf0048_01) KX
  revert hk
  k_fill
  intro hk
  clear hk
  km_tabs Y
  have X := (Ground.X G).1
  have V := (Ground.X G).2
  refine Ground.open G ?_
  intro T B D TE TW
  try (refine guard_noD D (by decide +kernel) ?_; clear D)
  have hT9 : TabsAt ([(34, 30)] : List (Addr × Addr)) s₁.heap := List.forall_mem_cons.mpr ⟨⟨codeHd_of_K (c := 34) (P := 30) KX (by kernel_rfl), hT8 30 (.head _)⟩, fun _ h => nomatch h⟩
  have hmg : mg (PySem.Str.ofString "law") = some (.ref fa) := hmg
  clear hd hcd hD ho
  wrow_args hpre hlay hrd hwl hlo
  have hfa : mg (PySem.Str.ofString "law") = some (.ref 236) := mg_of KX T.g (by k_is)
  have e : fa = 236 := by have := hmg.symm.trans hfa; cases this; rfl
  subst e
  rename s₁.heap.IsList _ _ => lS
  rename IntsAre _ _ => iS
  have h34 := hT9 (34, 30) (.head _)
  refine law_c (n := 301) (g := ghostOf s₁.heap [(34, 30)]) ⟨rfl, by decide, by decide⟩ (by decide) ⟨ghost_K hT9 KX (by kernel_rfl), _, _, _, _, _, ghost_top hT9 T⟩ (fun b o e => of_hideAll _ e) (hideAll_none _ (.head _)) ⟨_, h34.2, #[], rfl, trivial, fun p v e => nomatch e⟩ (ghost_list hT9 lS) iS (by rw [iS.length]; omega) ?_
  intro s' S hx hg'
  refine ⟨.inl ⟨.bool true, .bool true, [], rfl, fun _ => rfl, .bool true, by with_unfolding_all rfl, fun _ => ⟨List.nodup_nil, fun _ h => nomatch h⟩⟩, end_old hT9 hx hg', end_os S, end_bare S hg⟩
