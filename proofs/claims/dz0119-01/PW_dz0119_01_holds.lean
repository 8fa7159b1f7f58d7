import PyProof.Rows.All
import Wide.All
import OpenK.AllK
import Wide.FinOn
import PySem.Challenge.RW_dz0119_01
open PySem PySem.W PyProof.Rows PySem.Calls
set_option Elab.async false
set_option linter.unusedVariables false
set_option linter.unusedSimpArgs false

namespace Mine
set_option maxRecDepth 100000 in
set_option maxHeartbeats 8000000 in
open_top hd for PySem.Challenge.rw_dz0119_01
end Mine

set_option maxRecDepth 100000
namespace Mine

noncomputable abbrev KK (w : World) : Frag := hd.heap_39 w.params

structure Gd (w : World) (h : Heap) : Prop where
  X : (KK w).In h
  T : ∃ mg mb, TopRead hd.view_39 (looseW hd.view_39 [Str.ofString "safe_repr"]) mg mb h

theorem Gd.keeps {w : World} {h h' : Heap} (G : Gd w h) (hk : ∀ b o, h.get? b = some o → h'.get? b = some o) : Gd w h' :=
  ⟨G.X.keeps hk, let ⟨mg, mb, T⟩ := G.T; ⟨mg, mb, T.keeps hk⟩⟩

/-- the def that stands at an address of the text's own objects -/
noncomputable def fdAt (w : World) (a : Addr) : FuncData := match (KK w).lookup a with
  | some ⟨_, _, .func fd, _⟩ => fd
  | _ => { name := Str.empty, qualname := Str.empty, params := ⟨[], [], none, [], [], none, []⟩, body := .stmts [], scope := ⟨.function, [], false, false, []⟩, globals := 0, closure := [], defaults := .none, kwdefaults := .none, doc := .none, pyModule := .none, annotations := none, code := .none, closureTuple := .none, builtins := 0 }
noncomputable def obAt (w : World) (a : Addr) : Obj := match (KK w).lookup a with
  | some o => o
  | none => { cls := .none, data := .dict #[] }
noncomputable def bodyAt (w : World) (a : Addr) : List Stmt := match (fdAt w a).body with
  | .stmts b => b
  | _ => []
/-- the frame's environment of a call of it, its locals at L -/
noncomputable def ev (w : World) (f L : Addr) : Env := callEnvC (fdAt w f) L f

-- an item of a display or of a call's arguments, by its kind
theorem starList (elts pos rest env) : starEach (.List elts pos :: rest) env = (false, eval (.List elts pos) env) :: starEach rest env := rfl
theorem starName (x pos rest env) : starEach (.Name x pos :: rest) env = (false, eval (.Name x pos) env) :: starEach rest env := rfl
theorem starConst (x k pos rest env) : starEach (.Constant x k pos :: rest) env = (false, eval (.Constant x k pos) env) :: starEach rest env := rfl
theorem starBin (a o b pos rest env) : starEach (.BinOp a o b pos :: rest) env = (false, eval (.BinOp a o b pos) env) :: starEach rest env := rfl
theorem starCall (f a k pos rest env) : starEach (.Call f a k pos :: rest) env = (false, eval (.Call f a k pos) env) :: starEach rest env := rfl
theorem starSub (v i pos rest env) : starEach (.Subscript v i pos :: rest) env = (false, eval (.Subscript v i pos) env) :: starEach rest env := rfl
theorem starIf (a b c pos rest env) : starEach (.IfExp a b c pos :: rest) env = (false, eval (.IfExp a b c pos) env) :: starEach rest env := rfl
theorem starComp (a b c pos rest env) : starEach (.ListComp a b c pos :: rest) env = (false, eval (.ListComp a b c pos) env) :: starEach rest env := rfl
theorem starDict (a b pos rest env) : starEach (.Dict a b pos :: rest) env = (false, eval (.Dict a b pos) env) :: starEach rest env := rfl


section
variable {M : Model} {A : Around} {E : Value → Shared → Prop} {s : Shared} {env : Env} {rest : List Expr} {pos : Pos}
theorem arN {x p} {Q : List Value → Shared → Prop} (h : wpAny M A (eval (.Name x p) env) (fun v s₁ => wpAny M A (spliced (backTo pos (starEach rest env))) (fun vs s₂ => Q (v :: vs) s₂) E s₁) E s) :
    wpAny M A (spliced (backTo pos (starEach (.Name x p :: rest) env))) Q E s := args_cons h (starName _ _ _ _)
theorem cdN {x p} {f : Addr} {o : Obj} {fd : FuncData} {Q : Value → Shared → Prop} (hdat : o.data = .func fd)
    (h : wpAny M A (spliced (backTo pos (starEach (.Name x p :: rest) env))) (fun vs s₁ => s₁.heap.get? f = some o ∧ wpAny M A (call (.ref f) vs) Q E s₁) E s) :
    wpAny M A (callWith pos (.ref f) [] (backTo pos (starEach (.Name x p :: rest) env)) []) Q E s := callWith_def hdat h (starName _ _ _ _)
theorem cbN {x p} {id : String} {Q : Value → Shared → Prop} (hplain : (backTo pos (starEach rest env)).any (·.1) = false)
    (h : wpAny M A (spliced (backTo pos (starEach (.Name x p :: rest) env))) (fun vs s₁ => wpAny M A (call (.builtin id) vs) Q E s₁) E s) :
    wpAny M A (callWith pos (.builtin id) [] (backTo pos (starEach (.Name x p :: rest) env)) []) Q E s := callWith_builtin1 h (starName _ _ _ _) hplain
theorem ctN {x p} {T : String} {Q : Value → Shared → Prop} (hplain : (backTo pos (starEach rest env)).any (·.1) = false)
    (h : wpAny M A (spliced (backTo pos (starEach (.Name x p :: rest) env))) (fun vs s₁ => wpAny M A (call (.type T) vs) Q E s₁) E s) :
    wpAny M A (callWith pos (.type T) [] (backTo pos (starEach (.Name x p :: rest) env)) []) Q E s := callWith_type1 h (starName _ _ _ _) hplain
theorem cmN {x p} {id : String} {first : List Value} {Q : Value → Shared → Prop} (hplain : (backTo pos (starEach rest env)).any (·.1) = false)
    (h : wpAny M A (spliced (backTo pos (starEach (.Name x p :: rest) env))) (fun vs s₁ => wpAny M A (call (.builtin id) (first ++ vs)) Q E s₁) E s) :
    wpAny M A (callWith pos (.builtin id) first (backTo pos (starEach (.Name x p :: rest) env)) []) Q E s := callWith_method1 h (starName _ _ _ _) hplain
theorem arK {x i p} {Q : List Value → Shared → Prop} (h : wpAny M A (eval (.Constant x i p) env) (fun v s₁ => wpAny M A (spliced (backTo pos (starEach rest env))) (fun vs s₂ => Q (v :: vs) s₂) E s₁) E s) :
    wpAny M A (spliced (backTo pos (starEach (.Constant x i p :: rest) env))) Q E s := args_cons h (starConst _ _ _ _ _)
theorem cdK {x i p} {f : Addr} {o : Obj} {fd : FuncData} {Q : Value → Shared → Prop} (hdat : o.data = .func fd)
    (h : wpAny M A (spliced (backTo pos (starEach (.Constant x i p :: rest) env))) (fun vs s₁ => s₁.heap.get? f = some o ∧ wpAny M A (call (.ref f) vs) Q E s₁) E s) :
    wpAny M A (callWith pos (.ref f) [] (backTo pos (starEach (.Constant x i p :: rest) env)) []) Q E s := callWith_def hdat h (starConst _ _ _ _ _)
theorem cbK {x i p} {id : String} {Q : Value → Shared → Prop} (hplain : (backTo pos (starEach rest env)).any (·.1) = false)
    (h : wpAny M A (spliced (backTo pos (starEach (.Constant x i p :: rest) env))) (fun vs s₁ => wpAny M A (call (.builtin id) vs) Q E s₁) E s) :
    wpAny M A (callWith pos (.builtin id) [] (backTo pos (starEach (.Constant x i p :: rest) env)) []) Q E s := callWith_builtin1 h (starConst _ _ _ _ _) hplain
theorem ctK {x i p} {T : String} {Q : Value → Shared → Prop} (hplain : (backTo pos (starEach rest env)).any (·.1) = false)
    (h : wpAny M A (spliced (backTo pos (starEach (.Constant x i p :: rest) env))) (fun vs s₁ => wpAny M A (call (.type T) vs) Q E s₁) E s) :
    wpAny M A (callWith pos (.type T) [] (backTo pos (starEach (.Constant x i p :: rest) env)) []) Q E s := callWith_type1 h (starConst _ _ _ _ _) hplain
theorem cmK {x i p} {id : String} {first : List Value} {Q : Value → Shared → Prop} (hplain : (backTo pos (starEach rest env)).any (·.1) = false)
    (h : wpAny M A (spliced (backTo pos (starEach (.Constant x i p :: rest) env))) (fun vs s₁ => wpAny M A (call (.builtin id) (first ++ vs)) Q E s₁) E s) :
    wpAny M A (callWith pos (.builtin id) first (backTo pos (starEach (.Constant x i p :: rest) env)) []) Q E s := callWith_method1 h (starConst _ _ _ _ _) hplain
theorem arL {x p} {Q : List Value → Shared → Prop} (h : wpAny M A (eval (.List x p) env) (fun v s₁ => wpAny M A (spliced (backTo pos (starEach rest env))) (fun vs s₂ => Q (v :: vs) s₂) E s₁) E s) :
    wpAny M A (spliced (backTo pos (starEach (.List x p :: rest) env))) Q E s := args_cons h (starList _ _ _ _)
theorem cdL {x p} {f : Addr} {o : Obj} {fd : FuncData} {Q : Value → Shared → Prop} (hdat : o.data = .func fd)
    (h : wpAny M A (spliced (backTo pos (starEach (.List x p :: rest) env))) (fun vs s₁ => s₁.heap.get? f = some o ∧ wpAny M A (call (.ref f) vs) Q E s₁) E s) :
    wpAny M A (callWith pos (.ref f) [] (backTo pos (starEach (.List x p :: rest) env)) []) Q E s := callWith_def hdat h (starList _ _ _ _)
theorem cbL {x p} {id : String} {Q : Value → Shared → Prop} (hplain : (backTo pos (starEach rest env)).any (·.1) = false)
    (h : wpAny M A (spliced (backTo pos (starEach (.List x p :: rest) env))) (fun vs s₁ => wpAny M A (call (.builtin id) vs) Q E s₁) E s) :
    wpAny M A (callWith pos (.builtin id) [] (backTo pos (starEach (.List x p :: rest) env)) []) Q E s := callWith_builtin1 h (starList _ _ _ _) hplain
theorem ctL {x p} {T : String} {Q : Value → Shared → Prop} (hplain : (backTo pos (starEach rest env)).any (·.1) = false)
    (h : wpAny M A (spliced (backTo pos (starEach (.List x p :: rest) env))) (fun vs s₁ => wpAny M A (call (.type T) vs) Q E s₁) E s) :
    wpAny M A (callWith pos (.type T) [] (backTo pos (starEach (.List x p :: rest) env)) []) Q E s := callWith_type1 h (starList _ _ _ _) hplain
theorem cmL {x p} {id : String} {first : List Value} {Q : Value → Shared → Prop} (hplain : (backTo pos (starEach rest env)).any (·.1) = false)
    (h : wpAny M A (spliced (backTo pos (starEach (.List x p :: rest) env))) (fun vs s₁ => wpAny M A (call (.builtin id) (first ++ vs)) Q E s₁) E s) :
    wpAny M A (callWith pos (.builtin id) first (backTo pos (starEach (.List x p :: rest) env)) []) Q E s := callWith_method1 h (starList _ _ _ _) hplain
theorem arB {x y z p} {Q : List Value → Shared → Prop} (h : wpAny M A (eval (.BinOp x y z p) env) (fun v s₁ => wpAny M A (spliced (backTo pos (starEach rest env))) (fun vs s₂ => Q (v :: vs) s₂) E s₁) E s) :
    wpAny M A (spliced (backTo pos (starEach (.BinOp x y z p :: rest) env))) Q E s := args_cons h (starBin _ _ _ _ _ _)
theorem cdB {x y z p} {f : Addr} {o : Obj} {fd : FuncData} {Q : Value → Shared → Prop} (hdat : o.data = .func fd)
    (h : wpAny M A (spliced (backTo pos (starEach (.BinOp x y z p :: rest) env))) (fun vs s₁ => s₁.heap.get? f = some o ∧ wpAny M A (call (.ref f) vs) Q E s₁) E s) :
    wpAny M A (callWith pos (.ref f) [] (backTo pos (starEach (.BinOp x y z p :: rest) env)) []) Q E s := callWith_def hdat h (starBin _ _ _ _ _ _)
theorem cbB {x y z p} {id : String} {Q : Value → Shared → Prop} (hplain : (backTo pos (starEach rest env)).any (·.1) = false)
    (h : wpAny M A (spliced (backTo pos (starEach (.BinOp x y z p :: rest) env))) (fun vs s₁ => wpAny M A (call (.builtin id) vs) Q E s₁) E s) :
    wpAny M A (callWith pos (.builtin id) [] (backTo pos (starEach (.BinOp x y z p :: rest) env)) []) Q E s := callWith_builtin1 h (starBin _ _ _ _ _ _) hplain
theorem ctB {x y z p} {T : String} {Q : Value → Shared → Prop} (hplain : (backTo pos (starEach rest env)).any (·.1) = false)
    (h : wpAny M A (spliced (backTo pos (starEach (.BinOp x y z p :: rest) env))) (fun vs s₁ => wpAny M A (call (.type T) vs) Q E s₁) E s) :
    wpAny M A (callWith pos (.type T) [] (backTo pos (starEach (.BinOp x y z p :: rest) env)) []) Q E s := callWith_type1 h (starBin _ _ _ _ _ _) hplain
theorem cmB {x y z p} {id : String} {first : List Value} {Q : Value → Shared → Prop} (hplain : (backTo pos (starEach rest env)).any (·.1) = false)
    (h : wpAny M A (spliced (backTo pos (starEach (.BinOp x y z p :: rest) env))) (fun vs s₁ => wpAny M A (call (.builtin id) (first ++ vs)) Q E s₁) E s) :
    wpAny M A (callWith pos (.builtin id) first (backTo pos (starEach (.BinOp x y z p :: rest) env)) []) Q E s := callWith_method1 h (starBin _ _ _ _ _ _) hplain
theorem arC {x y z p} {Q : List Value → Shared → Prop} (h : wpAny M A (eval (.Call x y z p) env) (fun v s₁ => wpAny M A (spliced (backTo pos (starEach rest env))) (fun vs s₂ => Q (v :: vs) s₂) E s₁) E s) :
    wpAny M A (spliced (backTo pos (starEach (.Call x y z p :: rest) env))) Q E s := args_cons h (starCall _ _ _ _ _ _)
theorem cdC {x y z p} {f : Addr} {o : Obj} {fd : FuncData} {Q : Value → Shared → Prop} (hdat : o.data = .func fd)
    (h : wpAny M A (spliced (backTo pos (starEach (.Call x y z p :: rest) env))) (fun vs s₁ => s₁.heap.get? f = some o ∧ wpAny M A (call (.ref f) vs) Q E s₁) E s) :
    wpAny M A (callWith pos (.ref f) [] (backTo pos (starEach (.Call x y z p :: rest) env)) []) Q E s := callWith_def hdat h (starCall _ _ _ _ _ _)
theorem cbC {x y z p} {id : String} {Q : Value → Shared → Prop} (hplain : (backTo pos (starEach rest env)).any (·.1) = false)
    (h : wpAny M A (spliced (backTo pos (starEach (.Call x y z p :: rest) env))) (fun vs s₁ => wpAny M A (call (.builtin id) vs) Q E s₁) E s) :
    wpAny M A (callWith pos (.builtin id) [] (backTo pos (starEach (.Call x y z p :: rest) env)) []) Q E s := callWith_builtin1 h (starCall _ _ _ _ _ _) hplain
theorem ctC {x y z p} {T : String} {Q : Value → Shared → Prop} (hplain : (backTo pos (starEach rest env)).any (·.1) = false)
    (h : wpAny M A (spliced (backTo pos (starEach (.Call x y z p :: rest) env))) (fun vs s₁ => wpAny M A (call (.type T) vs) Q E s₁) E s) :
    wpAny M A (callWith pos (.type T) [] (backTo pos (starEach (.Call x y z p :: rest) env)) []) Q E s := callWith_type1 h (starCall _ _ _ _ _ _) hplain
theorem cmC {x y z p} {id : String} {first : List Value} {Q : Value → Shared → Prop} (hplain : (backTo pos (starEach rest env)).any (·.1) = false)
    (h : wpAny M A (spliced (backTo pos (starEach (.Call x y z p :: rest) env))) (fun vs s₁ => wpAny M A (call (.builtin id) (first ++ vs)) Q E s₁) E s) :
    wpAny M A (callWith pos (.builtin id) first (backTo pos (starEach (.Call x y z p :: rest) env)) []) Q E s := callWith_method1 h (starCall _ _ _ _ _ _) hplain
theorem arS {x y p} {Q : List Value → Shared → Prop} (h : wpAny M A (eval (.Subscript x y p) env) (fun v s₁ => wpAny M A (spliced (backTo pos (starEach rest env))) (fun vs s₂ => Q (v :: vs) s₂) E s₁) E s) :
    wpAny M A (spliced (backTo pos (starEach (.Subscript x y p :: rest) env))) Q E s := args_cons h (starSub _ _ _ _ _)
theorem cdS {x y p} {f : Addr} {o : Obj} {fd : FuncData} {Q : Value → Shared → Prop} (hdat : o.data = .func fd)
    (h : wpAny M A (spliced (backTo pos (starEach (.Subscript x y p :: rest) env))) (fun vs s₁ => s₁.heap.get? f = some o ∧ wpAny M A (call (.ref f) vs) Q E s₁) E s) :
    wpAny M A (callWith pos (.ref f) [] (backTo pos (starEach (.Subscript x y p :: rest) env)) []) Q E s := callWith_def hdat h (starSub _ _ _ _ _)
theorem cbS {x y p} {id : String} {Q : Value → Shared → Prop} (hplain : (backTo pos (starEach rest env)).any (·.1) = false)
    (h : wpAny M A (spliced (backTo pos (starEach (.Subscript x y p :: rest) env))) (fun vs s₁ => wpAny M A (call (.builtin id) vs) Q E s₁) E s) :
    wpAny M A (callWith pos (.builtin id) [] (backTo pos (starEach (.Subscript x y p :: rest) env)) []) Q E s := callWith_builtin1 h (starSub _ _ _ _ _) hplain
theorem ctS {x y p} {T : String} {Q : Value → Shared → Prop} (hplain : (backTo pos (starEach rest env)).any (·.1) = false)
    (h : wpAny M A (spliced (backTo pos (starEach (.Subscript x y p :: rest) env))) (fun vs s₁ => wpAny M A (call (.type T) vs) Q E s₁) E s) :
    wpAny M A (callWith pos (.type T) [] (backTo pos (starEach (.Subscript x y p :: rest) env)) []) Q E s := callWith_type1 h (starSub _ _ _ _ _) hplain
theorem cmS {x y p} {id : String} {first : List Value} {Q : Value → Shared → Prop} (hplain : (backTo pos (starEach rest env)).any (·.1) = false)
    (h : wpAny M A (spliced (backTo pos (starEach (.Subscript x y p :: rest) env))) (fun vs s₁ => wpAny M A (call (.builtin id) (first ++ vs)) Q E s₁) E s) :
    wpAny M A (callWith pos (.builtin id) first (backTo pos (starEach (.Subscript x y p :: rest) env)) []) Q E s := callWith_method1 h (starSub _ _ _ _ _) hplain
theorem arI {x y z p} {Q : List Value → Shared → Prop} (h : wpAny M A (eval (.IfExp x y z p) env) (fun v s₁ => wpAny M A (spliced (backTo pos (starEach rest env))) (fun vs s₂ => Q (v :: vs) s₂) E s₁) E s) :
    wpAny M A (spliced (backTo pos (starEach (.IfExp x y z p :: rest) env))) Q E s := args_cons h (starIf _ _ _ _ _ _)
theorem cdI {x y z p} {f : Addr} {o : Obj} {fd : FuncData} {Q : Value → Shared → Prop} (hdat : o.data = .func fd)
    (h : wpAny M A (spliced (backTo pos (starEach (.IfExp x y z p :: rest) env))) (fun vs s₁ => s₁.heap.get? f = some o ∧ wpAny M A (call (.ref f) vs) Q E s₁) E s) :
    wpAny M A (callWith pos (.ref f) [] (backTo pos (starEach (.IfExp x y z p :: rest) env)) []) Q E s := callWith_def hdat h (starIf _ _ _ _ _ _)
theorem cbI {x y z p} {id : String} {Q : Value → Shared → Prop} (hplain : (backTo pos (starEach rest env)).any (·.1) = false)
    (h : wpAny M A (spliced (backTo pos (starEach (.IfExp x y z p :: rest) env))) (fun vs s₁ => wpAny M A (call (.builtin id) vs) Q E s₁) E s) :
    wpAny M A (callWith pos (.builtin id) [] (backTo pos (starEach (.IfExp x y z p :: rest) env)) []) Q E s := callWith_builtin1 h (starIf _ _ _ _ _ _) hplain
theorem ctI {x y z p} {T : String} {Q : Value → Shared → Prop} (hplain : (backTo pos (starEach rest env)).any (·.1) = false)
    (h : wpAny M A (spliced (backTo pos (starEach (.IfExp x y z p :: rest) env))) (fun vs s₁ => wpAny M A (call (.type T) vs) Q E s₁) E s) :
    wpAny M A (callWith pos (.type T) [] (backTo pos (starEach (.IfExp x y z p :: rest) env)) []) Q E s := callWith_type1 h (starIf _ _ _ _ _ _) hplain
theorem cmI {x y z p} {id : String} {first : List Value} {Q : Value → Shared → Prop} (hplain : (backTo pos (starEach rest env)).any (·.1) = false)
    (h : wpAny M A (spliced (backTo pos (starEach (.IfExp x y z p :: rest) env))) (fun vs s₁ => wpAny M A (call (.builtin id) (first ++ vs)) Q E s₁) E s) :
    wpAny M A (callWith pos (.builtin id) first (backTo pos (starEach (.IfExp x y z p :: rest) env)) []) Q E s := callWith_method1 h (starIf _ _ _ _ _ _) hplain
theorem arZ {x y z p} {Q : List Value → Shared → Prop} (h : wpAny M A (eval (.ListComp x y z p) env) (fun v s₁ => wpAny M A (spliced (backTo pos (starEach rest env))) (fun vs s₂ => Q (v :: vs) s₂) E s₁) E s) :
    wpAny M A (spliced (backTo pos (starEach (.ListComp x y z p :: rest) env))) Q E s := args_cons h (starComp _ _ _ _ _ _)
theorem cdZ {x y z p} {f : Addr} {o : Obj} {fd : FuncData} {Q : Value → Shared → Prop} (hdat : o.data = .func fd)
    (h : wpAny M A (spliced (backTo pos (starEach (.ListComp x y z p :: rest) env))) (fun vs s₁ => s₁.heap.get? f = some o ∧ wpAny M A (call (.ref f) vs) Q E s₁) E s) :
    wpAny M A (callWith pos (.ref f) [] (backTo pos (starEach (.ListComp x y z p :: rest) env)) []) Q E s := callWith_def hdat h (starComp _ _ _ _ _ _)
theorem cbZ {x y z p} {id : String} {Q : Value → Shared → Prop} (hplain : (backTo pos (starEach rest env)).any (·.1) = false)
    (h : wpAny M A (spliced (backTo pos (starEach (.ListComp x y z p :: rest) env))) (fun vs s₁ => wpAny M A (call (.builtin id) vs) Q E s₁) E s) :
    wpAny M A (callWith pos (.builtin id) [] (backTo pos (starEach (.ListComp x y z p :: rest) env)) []) Q E s := callWith_builtin1 h (starComp _ _ _ _ _ _) hplain
theorem ctZ {x y z p} {T : String} {Q : Value → Shared → Prop} (hplain : (backTo pos (starEach rest env)).any (·.1) = false)
    (h : wpAny M A (spliced (backTo pos (starEach (.ListComp x y z p :: rest) env))) (fun vs s₁ => wpAny M A (call (.type T) vs) Q E s₁) E s) :
    wpAny M A (callWith pos (.type T) [] (backTo pos (starEach (.ListComp x y z p :: rest) env)) []) Q E s := callWith_type1 h (starComp _ _ _ _ _ _) hplain
theorem cmZ {x y z p} {id : String} {first : List Value} {Q : Value → Shared → Prop} (hplain : (backTo pos (starEach rest env)).any (·.1) = false)
    (h : wpAny M A (spliced (backTo pos (starEach (.ListComp x y z p :: rest) env))) (fun vs s₁ => wpAny M A (call (.builtin id) (first ++ vs)) Q E s₁) E s) :
    wpAny M A (callWith pos (.builtin id) first (backTo pos (starEach (.ListComp x y z p :: rest) env)) []) Q E s := callWith_method1 h (starComp _ _ _ _ _ _) hplain
theorem arD {x y p} {Q : List Value → Shared → Prop} (h : wpAny M A (eval (.Dict x y p) env) (fun v s₁ => wpAny M A (spliced (backTo pos (starEach rest env))) (fun vs s₂ => Q (v :: vs) s₂) E s₁) E s) :
    wpAny M A (spliced (backTo pos (starEach (.Dict x y p :: rest) env))) Q E s := args_cons h (starDict _ _ _ _ _)
theorem cdD {x y p} {f : Addr} {o : Obj} {fd : FuncData} {Q : Value → Shared → Prop} (hdat : o.data = .func fd)
    (h : wpAny M A (spliced (backTo pos (starEach (.Dict x y p :: rest) env))) (fun vs s₁ => s₁.heap.get? f = some o ∧ wpAny M A (call (.ref f) vs) Q E s₁) E s) :
    wpAny M A (callWith pos (.ref f) [] (backTo pos (starEach (.Dict x y p :: rest) env)) []) Q E s := callWith_def hdat h (starDict _ _ _ _ _)
theorem cbD {x y p} {id : String} {Q : Value → Shared → Prop} (hplain : (backTo pos (starEach rest env)).any (·.1) = false)
    (h : wpAny M A (spliced (backTo pos (starEach (.Dict x y p :: rest) env))) (fun vs s₁ => wpAny M A (call (.builtin id) vs) Q E s₁) E s) :
    wpAny M A (callWith pos (.builtin id) [] (backTo pos (starEach (.Dict x y p :: rest) env)) []) Q E s := callWith_builtin1 h (starDict _ _ _ _ _) hplain
theorem ctD {x y p} {T : String} {Q : Value → Shared → Prop} (hplain : (backTo pos (starEach rest env)).any (·.1) = false)
    (h : wpAny M A (spliced (backTo pos (starEach (.Dict x y p :: rest) env))) (fun vs s₁ => wpAny M A (call (.type T) vs) Q E s₁) E s) :
    wpAny M A (callWith pos (.type T) [] (backTo pos (starEach (.Dict x y p :: rest) env)) []) Q E s := callWith_type1 h (starDict _ _ _ _ _) hplain
theorem cmD {x y p} {id : String} {first : List Value} {Q : Value → Shared → Prop} (hplain : (backTo pos (starEach rest env)).any (·.1) = false)
    (h : wpAny M A (spliced (backTo pos (starEach (.Dict x y p :: rest) env))) (fun vs s₁ => wpAny M A (call (.builtin id) (first ++ vs)) Q E s₁) E s) :
    wpAny M A (callWith pos (.builtin id) first (backTo pos (starEach (.Dict x y p :: rest) env)) []) Q E s := callWith_method1 h (starDict _ _ _ _ _) hplain
end

section
variable {M : Model} {w : World} {A : Around} {E : Value → Shared → Prop} {s : Shared} {env : Env} {x : Str} {pos : Pos} {v : Value} {Q : Value → Shared → Prop}

/-- a global of the text's own -/
theorem nmG (G : Gd w s.heap) (e : nsIn (KK w) mainGlobals x = some (some v)) (h : Q v s) (he : env.globals = mainGlobals := by rfl)
    (hk : env.scope.kind = .function := by rfl) (hx : env.kindOf x = some .globalImplicit := by rfl) (hd : (x == ("__debug__" : Str)) = false := by decide) :
    wpAny M A (eval (.Name x pos) env) Q E s := by
  obtain ⟨mg, mb, T⟩ := G.T
  exact Name_function_global hk hx (loadGlobal_global (he ▸ T.g) (mg_of G.X T.g e) h) hd

/-- a built-in name -/
theorem nmB (G : Gd w s.heap) (e : nsIn (KK w) mainGlobals x = some none) (hv : bootBuiltins x = some v) (h : Q v s) (he : env.globals = mainGlobals := by rfl) (hb : env.builtins = builtinsNs := by rfl)
    (hk : env.scope.kind = .function := by rfl) (hx : env.kindOf x = some .globalImplicit := by rfl) (hn : x ≠ "__name__" := by decide) (hd : (x == ("__debug__" : Str)) = false := by decide) :
    wpAny M A (eval (.Name x pos) env) Q E s := by
  obtain ⟨mg, mb, T⟩ := G.T
  exact Name_function_global hk hx (loadGlobal_builtin (he ▸ T.g) (mg_none_of G.X T.g e) (hb ▸ T.b) ((T.builtins x hn).trans hv) h) hd
end

/-- the state of a frame: its locals m, its cells cm, what it has made so far (ks); all that stood at the call stands -/
structure Fm (s₀ : Shared) (env : Env) (m cm : Str → Option Value) (ks : List (Addr × Obj)) (s : Shared) : Prop where
  c : InCallC s₀ env.locals m env.cells cm s
  k : ∀ p ∈ ks, s.heap.get? p.1 = some p.2 ∧ p.1 ≠ env.locals ∧ (∀ n c, env.cells.lookup n = some c → c ≠ p.1) ∧ s₀.heap.get? p.1 = none
  nd : (ks.map (·.1)).Nodup

/-- s' is s with more objects: nothing that stood has turned -/
def Kp (s s' : Shared) : Prop := Keeps s s'

section
variable {s₀ s s' : Shared} {env : Env} {m cm : Str → Option Value} {ks : List (Addr × Obj)}

theorem Fm.keep (F : Fm s₀ env m cm ks s) : ∀ b o, s₀.heap.get? b = some o → s.heap.get? b = some o := F.c.toInCall.keep
theorem Fm.get {a : Addr} {o : Obj} (F : Fm s₀ env m cm ks s) (h : (a, o) ∈ ks) : s.heap.get? a = some o := (F.k _ h).1
theorem Fm.done (F : Fm s₀ env m cm ks s) : Kp s₀ s := F.c.done
theorem Fm.sub {ks' : List (Addr × Obj)} (F : Fm s₀ env m cm ks s) (h : ks'.Sublist ks) : Fm s₀ env m cm ks' s := ⟨F.c, fun p hp => F.k p (h.subset hp), (h.map _).nodup F.nd⟩
theorem Fm.perm {ks' : List (Addr × Obj)} (F : Fm s₀ env m cm ks s) (h : ks'.Perm ks) : Fm s₀ env m cm ks' s := ⟨F.c, fun p hp => F.k p (h.mem_iff.mp hp), ((h.map _).nodup_iff).mpr F.nd⟩

theorem Fm.ext (F : Fm s₀ env m cm ks s) (h : Kp s s') : Fm s₀ env m cm ks s' := by
  obtain ⟨h', tk, rfl, hk⟩ := h
  refine ⟨⟨⟨?_, F.c.toInCall.ns.keeps hk, fun b o e => hk b o (F.keep b o e), F.c.toInCall.fresh⟩, fun n c hc => (F.c.cell n c hc).keeps hk, F.c.apart, F.c.above⟩, fun p hp => ⟨hk _ _ (F.k p hp).1, (F.k p hp).2⟩, F.nd⟩
  obtain ⟨h₁, tk₁, rfl⟩ := F.c.toInCall.same
  exact ⟨h', tk, rfl⟩

theorem Kp.refl (s : Shared) : Kp s s := ⟨s.heap, s.toks, rfl, fun _ _ e => e⟩
theorem Kp.tok (s : Shared) (t : Nat) : Kp s { s with toks := t } := ⟨s.heap, t, rfl, fun _ _ e => e⟩
theorem Kp.trans {a b c : Shared} (h : Kp a b) (h' : Kp b c) : Kp a c := by
  obtain ⟨h1, t1, rfl, k1⟩ := h
  obtain ⟨h2, t2, rfl, k2⟩ := h'
  exact ⟨h2, t2, rfl, fun b o e => k2 b o (k1 b o e)⟩
theorem Kp.push (s : Shared) (o : Obj) : Kp s { s with heap := s.heap.push o } := ⟨_, s.toks, rfl, fun _ _ e => Heap.get?_push_of_some _ e⟩
theorem Kp.heap {a b : Shared} (h : Kp a b) : ∀ x o, a.heap.get? x = some o → b.heap.get? x = some o := by
  obtain ⟨h1, t1, rfl, k1⟩ := h
  exact k1
theorem Kp.of {s : Shared} {h' : Heap} {tk : Nat} (h : ∀ b o, s.heap.get? b = some o → h'.get? b = some o) : Kp s { s with heap := h', toks := tk } := ⟨h', tk, rfl, h⟩
theorem Kp.extBut {s : Shared} {h' : Heap} (h : Heap.ExtBut s.heap.objs.size s.heap h') : Kp s { s with heap := h' } := ⟨h', s.toks, rfl, fun b o e => h b o (Nat.ne_of_lt (Heap.lt_size e)) e⟩

theorem Fm.tok (F : Fm s₀ env m cm ks s) (t : Nat) : Fm s₀ env m cm ks { s with toks := t } := F.ext (Kp.tok s t)

/-- a new object -/
theorem Fm.new {a : Addr} {o : Obj} (F : Fm s₀ env m cm ks s) (h : Kp s s') (hn : s.heap.get? a = none) (hg : s'.heap.get? a = some o) : Fm s₀ env m cm ((a, o) :: ks) s' := by
  have F' := F.ext h
  refine ⟨F'.c, fun p hp => ?_, ?_⟩
  · rcases List.mem_cons.mp hp with rfl | hp
    · refine ⟨hg, fun e => ?_, fun n c hc e => ?_, ?_⟩
      · obtain ⟨o', _, _, ho, _⟩ := F.c.toInCall.ns
        have e' : a = env.locals := e
        rw [e', ho] at hn; cases hn
      · obtain ⟨o₁, ho₁, _⟩ := F.c.cell n c hc
        have e' : c = a := e
        rw [← e', ho₁] at hn; cases hn
      · cases q : s₀.heap.get? a with
        | none => rfl
        | some o' => rw [F.keep _ _ q] at hn; cases hn
    · exact F'.k p hp
  · refine List.nodup_cons.mpr ⟨fun hm => ?_, F.nd⟩
    obtain ⟨p, hp, e⟩ := List.mem_map.mp hm
    have := (F.k p hp).1
    rw [show p.1 = a from e, hn] at this; cases this

theorem Fm.push (F : Fm s₀ env m cm ks s) (o : Obj) (hf : o.isFreed = false := by rfl) : Fm s₀ env m cm ((s.heap.objs.size, o) :: ks) { s with heap := s.heap.push o } :=
  F.new (Kp.push s o) (by
    cases q : s.heap.get? s.heap.objs.size with
    | none => rfl
    | some o' => exact absurd (Heap.lt_size q) (Nat.lt_irrefl _)) (Heap.get?_push_size _ hf)

/-- an object that the frame has made is turned -/
theorem Fm.upd {a : Addr} {o o' : Obj} {k₁ k₂ : List (Addr × Obj)} {h' : Heap} {tk : Nat} (F : Fm s₀ env m cm (k₁ ++ (a, o) :: k₂) s) (hs : Heap.ExtBut a s.heap h') (hg : h'.get? a = some o') :
    Fm s₀ env m cm (k₁ ++ (a, o') :: k₂) { s with heap := h', toks := tk } := by
  have hm : (a, o) ∈ k₁ ++ (a, o) :: k₂ := List.mem_append_right _ (.head _)
  obtain ⟨_, hL, hC, h0⟩ := F.k _ hm
  have hL' : a ≠ env.locals := hL
  have hnd := F.nd
  rw [List.map_append, List.map_cons] at hnd
  refine ⟨⟨⟨?_, F.c.toInCall.ns.extBut hs (Ne.symm hL'), fun b ob e => hs b ob (fun q => ?_) (F.keep b ob e), F.c.toInCall.fresh⟩, fun n c hc => ?_, F.c.apart, F.c.above⟩, fun p hp => ?_, ?_⟩
  · obtain ⟨h₁, tk₁, rfl⟩ := F.c.toInCall.same
    exact ⟨h', tk, rfl⟩
  · rw [q] at e; rw [show s₀.heap.get? a = none from h0] at e; cases e
  · obtain ⟨oc, hoc, hd⟩ := F.c.cell n c hc
    exact ⟨oc, hs c oc (hC n c hc) hoc, hd⟩
  · have hne : ∀ q : Addr × Obj, q ∈ k₁ ∨ q ∈ k₂ → q.1 ≠ a := by
      intro q hq e
      rcases hq with hq | hq
      · exact (List.nodup_append.mp hnd).2.2 q.1 (List.mem_map_of_mem hq) a (.head _) e
      · exact (List.nodup_cons.mp (List.nodup_append.mp hnd).2.1).1 (List.mem_map.mpr ⟨q, hq, e⟩)
    rcases List.mem_append.mp hp with hp | hp
    · have := F.k p (List.mem_append_left _ hp)
      exact ⟨hs _ _ (hne p (.inl hp)) this.1, this.2⟩
    · rcases List.mem_cons.mp hp with rfl | hp
      · exact ⟨hg, hL, hC, h0⟩
      · have := F.k p (List.mem_append_right _ (.tail _ hp))
        exact ⟨hs _ _ (hne p (.inr hp)) this.1, this.2⟩
  · rw [List.map_append, List.map_cons]; exact hnd
end

section
variable {M : Model} {A : Around} {E : Value → Shared → Prop} {s₀ s : Shared} {env : Env} {m cm : Str → Option Value} {ks : List (Addr × Obj)} {x : Str} {pos : Pos} {v : Value}

theorem nmL {Q : Value → Shared → Prop} (F : Fm s₀ env m cm ks s) (hv : m x = some v) (h : Q v s)
    (hk : env.scope.kind = .function := by rfl) (hx : env.kindOf x = some .local := by rfl) (hd : (x == ("__debug__" : Str)) = false := by decide) :
    wpAny M A (eval (.Name x pos) env) Q E s := wpAny_Name (wpAny_loadName_local hk hx F.c.toInCall.ns hv h) hd
theorem nmC {Q : Value → Shared → Prop} {c : Addr} (F : Fm s₀ env m cm ks s) (hc : env.cells.lookup x = some c) (hv : cm x = some v) (h : Q v s)
    (hk : env.scope.kind = .function := by rfl) (hx : env.kindOf x = some .cell := by rfl) (hd : (x == ("__debug__" : Str)) = false := by decide) :
    wpAny M A (eval (.Name x pos) env) Q E s := wpAny_Name (ldCC F.c hk hx hc hv h) hd

theorem stL {Q : Unit → Shared → Prop} (F : Fm s₀ env m cm ks s) (h : ∀ s', Fm s₀ env (fun y => if y = x then some v else m y) cm ks s' → Q () s')
    (hk : env.scope.kind = .function := by rfl) (hx : env.kindOf x = some .local := by rfl) : wpAny M A (storeName env x v) Q E s := by
  refine wpAny_storeName_local hx F.c.toInCall.ns (fun h' hn' hs' => h _ ⟨⟨⟨?_, hn', fun b o e => ?_, F.c.toInCall.fresh⟩, fun k c hc => ?_, F.c.apart, F.c.above⟩, fun p hp => ?_, F.nd⟩) (by rw [hk]; rfl)
  · obtain ⟨h₁, tk, rfl⟩ := F.c.toInCall.same
    exact ⟨h', _, rfl⟩
  · exact hs'.extBut b o (Nat.ne_of_lt (Nat.lt_of_lt_of_le (Heap.lt_size e) F.c.toInCall.fresh)) (F.keep b o e)
  · exact (F.c.cell k c hc).sameBut hs' (Nat.ne_of_gt (F.c.above k c (mem_of_lookup hc)))
  · exact ⟨(hs'.2 _ (F.k p hp).2.1).trans (F.k p hp).1, (F.k p hp).2⟩

theorem stC {Q : Unit → Shared → Prop} {c : Addr} (F : Fm s₀ env m cm ks s) (hc : env.cells.lookup x = some c) (h : ∀ s', Fm s₀ env m (fun y => if y = x then some v else cm y) ks s' → Q () s')
    (hk : env.scope.kind = .function := by rfl) (hx : env.kindOf x = some .cell := by rfl) : wpAny M A (storeName env x v) Q E s := by
  have hLc := F.c.above x c (mem_of_lookup hc)
  refine wpAny_storeName_cell hk hx hc (F.c.cell x c hc) fun h' hc' hs' => h _ ⟨⟨⟨?_, F.c.toInCall.ns.sameBut hs' (Nat.ne_of_lt hLc), fun b o e => ?_, F.c.toInCall.fresh⟩, fun k c' hk' => ?_, F.c.apart, F.c.above⟩, fun p hp => ?_, F.nd⟩
  · obtain ⟨h₁, tk, rfl⟩ := F.c.toInCall.same
    exact ⟨h', _, rfl⟩
  · exact hs'.extBut b o (Nat.ne_of_lt (Nat.lt_trans (Nat.lt_of_lt_of_le (Heap.lt_size e) F.c.toInCall.fresh) hLc)) (F.keep b o e)
  · by_cases hkn : k = x
    · subst hkn
      rw [hc] at hk'; cases hk'
      simpa using hc'
    · rw [if_neg hkn]
      exact (F.c.cell k c' hk').sameBut hs' fun e => hkn (name_of_addr F.c.apart (mem_of_lookup hk') (e ▸ mem_of_lookup hc))
  · exact ⟨(hs'.2 _ (Ne.symm ((F.k p hp).2.2.1 x c hc))).trans (F.k p hp).1, (F.k p hp).2⟩
end

section
variable {prog : Program} {w : World} {A : Around} {E : Value → Shared → Prop} {s : Shared} {Q : Value → Shared → Prop}

/-- a call of a def of the text's own: its body, from a new frame -/
theorem callF {f : Addr} {vals : List Value} {binds : List (Str × Value)} {o : Obj} (G : Gd w s.heap) (hroom : A.depth < recursionLimit)
    (ho : (KK w).lookup f = some o) (hdata : o.data = .func (fdAt w f)) (hcd : codeIn (KK w) (fdAt w f).code (fdAt w f).qualname = true) (hbody : (fdAt w f).body = .stmts (bodyAt w f))
    (hbind : bindArgs (fdAt w f) ⟨vals, []⟩ = pure binds) (hclo : (fdAt w f).closure = [])
    (hkind : (binds.all fun y => (fdAt w f).scope.names.lookup y.1 == some .local || (fdAt w f).scope.names.lookup y.1 == some .cell) = true)
    (h : ∀ s₁, Fm s (ev w f s.heap.objs.size) (bindL (ev w f s.heap.objs.size).kindOf binds fun _ => none) (bindC (ev w f s.heap.objs.size).kindOf binds fun _ => none) [] s₁ → Gd w s₁.heap →
      wpAny (model prog w) (A.deeper (ev w f s.heap.objs.size)) (execs (bodyAt w f) (ev w f s.heap.objs.size)) (fun fl s' => match fl with | .ret v => Q v s' | _ => Q .none s')
        (fun e s' => wpAny (model prog w) (A.deeper (ev w f s.heap.objs.size)) (leaving (ev w f s.heap.objs.size) e) (fun _ s'' => E e s'') (fun e' s'' => E e' s'') s') s₁)
    (hco : (fdAt w f).scope.isCoroutine = false := by rfl) (hgen : (fdAt w f).scope.isGenerator = false := by rfl) (hk : (fdAt w f).scope.kind = .function := by rfl) :
    wpAny (model prog w) A (call (.ref f) vals) Q E s := by
  obtain ⟨mg, mb, T⟩ := G.T
  refine wpAny_call (codeAny_call_cells (binds := binds) hroom (G.X f _ ho) hdata T.nolimit (codeRec_of G.X hcd) hbody hbind hclo (kindsX hkind _) (fun s₁ hc => ?_) hco hgen hk)
  refine wpAny_mono (h s₁ ⟨hc, fun _ hp => (nomatch hp), List.nodup_nil⟩ (G.keeps hc.toInCall.keep)) (fun fl s' hq => ?_) fun _ _ x => x
  cases fl <;> exact hq
end

theorem g39 (w : World) : nsIn (KK w) mainGlobals (Str.ofString "_law_written") = some (some (.ref 39)) := rfl
theorem gsum (w : World) : nsIn (KK w) mainGlobals (Str.ofString "sum") = some none := rfl
theorem bsum : bootBuiltins (Str.ofString "sum") = some (.builtin "sum") := by boot_fast

end Mine

namespace Mine

theorem newAt (s : Shared) : s.heap.get? s.heap.objs.size = none := by
  cases q : s.heap.get? s.heap.objs.size with
  | none => rfl
  | some o' => exact absurd (Heap.lt_size q) (Nat.lt_irrefl _)
theorem none_of_keeps {s s' : Shared} {a : Addr} (k : Kp s s') (h : s'.heap.get? a = none) : s.heap.get? a = none := by
  cases q : s.heap.get? a with
  | none => rfl
  | some o => rw [k.heap _ _ q] at h; cases h
theorem isList_new (h : Heap) (items : Array Value) : (h.push { cls := .type "list", data := .seq items }).IsList h.objs.size items := ⟨_, Heap.get?_push_size _ rfl, rfl, _, rfl⟩
theorem isList_kp {s s' : Shared} {a : Addr} {items : Array Value} (k : Kp s s') (x : s.heap.IsList a items) : s'.heap.IsList a items := let ⟨o, ho, r⟩ := x; ⟨o, k.heap a o ho, r⟩

theorem le1 (a : Value) : [a].length ≤ sizeLine := by show 1 ≤ sizeLine; decide
theorem le2 (a b : Value) : [a, b].length ≤ sizeLine := by show 2 ≤ sizeLine; decide
theorem le3 (a b c : Value) : [a, b, c].length ≤ sizeLine := by show 3 ≤ sizeLine; decide
theorem le4 (a b c d : Value) : [a, b, c, d].length ≤ sizeLine := by show 4 ≤ sizeLine; decide

section
variable {prog : Program} {w : World} {M : Model} {A : Around} {E : Value → Shared → Prop} {s : Shared} {env : Env} {Q : Value → Shared → Prop}

theorem cStr {x : Str} {k : Nat} {pos : Pos} (h : ∀ t s', Kp s s' → Q (.str x t) s') : wpAny M A (eval (.Constant (.str x) k pos) env) Q E s := wpAny_Constant_str (h _ _ (Kp.tok s _))
theorem cInt {i : Int} {k : Nat} {pos : Pos} (h : ∀ t s', Kp s s' → Q (.int i t) s') : wpAny M A (eval (.Constant (.int i) k pos) env) Q E s := wpAny_Constant_int (h _ _ (Kp.tok s _))
theorem addS {x y : Str} {t u : Tok} (hsz : x.length + y.length ≤ sizeLine) (h : ∀ t s', Kp s s' → Q (.str (x ++ y) t) s') : wpAny (model prog w) A (binaryOp .Add (.str x t) (.str y u)) Q E s :=
  PyProof.Rows.add_str (fun t' tk => h _ _ (Kp.tok s tk)) hsz
theorem addI {a b : Int} {t u : Tok} (h : ∀ t s', Kp s s' → Q (.int (a + b) t) s') : wpAny (model prog w) A (binaryOp .Add (.int a t) (.int b u)) Q E s := PyProof.Rows.add_int (h _ _ (Kp.tok s _))
theorem modI {a b : Int} {t u : Tok} (hb : 0 < b) (h : ∀ t s', Kp s s' → Q (.int (a % b) t) s') : wpAny (model prog w) A (binaryOp .Mod (.int a t) (.int b u)) Q E s :=
  PyProof.Rows.mod_int' (by omega) (by rw [Int.fmod_eq_emod_of_nonneg a (by omega)]; exact h _ _ (Kp.tok s _))
theorem divI {a b : Int} {t u : Tok} (hb : 0 < b) (hb2 : b < 1073741824) (h : ∀ t s', Kp s s' → Q (.int (a / b) t) s') : wpAny (model prog w) A (binaryOp .FloorDiv (.int a t) (.int b u)) Q E s :=
  PyProof.Rows.floordiv_int (by omega) (by rw [Int.fdiv_eq_ediv_of_nonneg a (by omega)]; exact h _ _ (Kp.tok s _)) (Or.inl (PyProof.noPylong_small (by omega)))
theorem negI {a : Int} {t : Tok} (h : ∀ t s', Kp s s' → Q (.int (-a) t) s') : wpAny (model prog w) A (unaryOp .USub (.int a t)) Q E s := PyProof.Rows.neg_int (h _ _ (Kp.tok s _))
theorem strI {a : Int} {t : Tok} (ha : a.natAbs.log2 < 1920) (h : ∀ t s', Kp s s' → Q (.str (Str.ofString (toString a)) t) s') : wpAny (model prog w) A (call (.type "str") [.int a t]) Q E s := P.str_of_int ha (h _ _ (Kp.tok s _))
theorem lenL {l : Addr} {items : Array Value} (hl : s.heap.IsList l items) (hfit : items.size < 2 ^ 62) (h : ∀ t s', Kp s s' → Q (.int items.size t) s') : wpAny (model prog w) A (call (.builtin "len") [.ref l]) Q E s :=
  PyProof.Rows.len_list hl (by omega) (h _ _ (Kp.tok s _))
theorem lenS {x : Str} {t : Tok} (hfit : x.length < 2 ^ 62) (h : ∀ t s', Kp s s' → Q (.int x.length t) s') : wpAny (model prog w) A (call (.builtin "len") [.str x t]) Q E s :=
  PyProof.Rows.len_str (by omega) (h _ _ (Kp.tok s _))
theorem rng1 {n : Nat} {t : Tok} (h : ∀ r t u v s', Kp s s' → s.heap.get? r = none → IsRange s'.heap r 0 (n : Int) 1 t u v → Q (.ref r) s') : wpAny (model prog w) A (call (.type "range") [.int (n : Int) t]) Q E s :=
  call_range_1 (h _ _ _ _ _ (Kp.of fun _ _ e => Heap.get?_push_of_some _ e) (newAt s) (IsRange.new _ _ _ _ _ _ _))
/-- a display's end -/
theorem endL {elts : List Expr} {pos : Pos}
    (h : wpAny M A (spliced (backTo pos (starEach elts env))) (fun vs s₁ => vs.length ≤ sizeLine ∧ ∀ a s', Kp s₁ s' → s₁.heap.get? a = none → s'.heap.PlainList a vs.toArray → Q (.ref a) s') E s) :
    wpAny M A (eval (.List elts pos) env) Q E s :=
  wpAny_List (wpAny_mono h (fun vs s₁ h₁ => ⟨h₁.1, h₁.2 _ _ (Kp.push s₁ _) (newAt s₁) ⟨_, Heap.get?_push_size _ rfl⟩⟩) fun _ _ x => x)
/-- a display of two written texts -/
theorem dis2 {x y : Str} {k1 k2 : Nat} {p1 p2 pos : Pos} (h : ∀ a t1 t2 s', Kp s s' → s.heap.get? a = none → s'.heap.IsList a #[.str x t1, .str y t2] → Q (.ref a) s') :
    wpAny M A (eval (.List [.Constant (.str x) k1 p1, .Constant (.str y) k2 p2] pos) env) Q E s :=
  endL (arK (cStr fun t1 s1 K1 => arK (cStr fun t2 s2 K2 => args_nil ⟨by show 2 ≤ sizeLine; decide, fun a s' K3 hn hl => h a t1 t2 s' ((K1.trans K2).trans K3) (none_of_keeps (K1.trans K2) hn) hl.isList⟩)))

theorem addL {l b : Addr} {vs us : Array Value} (hl : s.heap.IsList l vs) (hb : s.heap.IsList b us) (hsz : vs.size + us.size ≤ sizeLine)
    (h : ∀ a s', Kp s s' → s.heap.get? a = none → s'.heap.IsList a (vs ++ us) → Q (.ref a) s') :
    wpAny (model prog w) A (binaryOp .Add (.ref l) (.ref b)) Q E s := by
  obtain ⟨⟨cls, dd, data, sl⟩, ho, hc, n, hd⟩ := id hl
  obtain ⟨⟨cls2, dd2, data2, sl2⟩, ho2, hc2, n2, hd2⟩ := id hb
  simp only at hc hd hc2 hd2
  subst hc hd hc2 hd2
  exact concat_meets ⟨_, ho, rfl⟩ ⟨_, ho2, rfl⟩ noFill_list_add seq_list_add PySem.F.slot_list_add PySem.F.entry_list_add (PySem.F.args_list_add_2 _ _) (list_addW l b vs us n n2 dd dd2 sl sl2 hsz)
    ⟨ho, ho2, h _ _ (Kp.push _ _) (newAt s) (isList_new _ _)⟩

/-- x[k] of a list -/
theorem itemL {value slice : Expr} {l : Addr} {items : Array Value} {k : Nat} {u : Tok} {x : Value} (hl : s.heap.IsList l items) (hx : items[k]? = some x) (hk : k < 2 ^ 62) (h : Q x s)
    (hs : subscripted slice false (.ref l) (.int k u) = operate [.ref l, .int k u] (getItem (.ref l) (.int k u)) := by with_unfolding_all rfl) :
    wpAny (model prog w) A (subscriptTail value slice (.ref l) (.int (k : Int) u)) Q E s :=
  tail_any hl.typeIs slot_list_getitem.lookup (wpAny_getItem_list hl (by omega) (by omega) (by simpa using hx) h) hs

theorem joinS {D : Addr} {items : Array Value} {ys : List Str} {x : Str} {t : Tok} (hl : s.heap.IsList D items) (hi : StrsAre items.toList ys) (hsep : x.length ≤ 64) (hok : (ys.map (·.length)).sum + ys.length * 64 ≤ 16777216)
    (h : ∀ t s', Kp s s' → Q (.str (Str.join x ys) t) s') : wpAny (model prog w) A (call (.builtin "str.join") [.str x t, .ref D]) Q E s :=
  join_listC hl hi hsep hok fun t' k => by rw [show Txt.join x ys = Str.join x ys from StrLaws.glued_eq_join x ys]; exact h _ _ (Kp.tok s k)

theorem nmCell {c : Addr} {x : Str} {pos : Pos} {v : Value} (hv : s.heap.IsCell c (some v)) (hc : env.cells.lookup x = some c) (h : Q v s)
    (hk : env.scope.kind = .function := by rfl) (hx : env.kindOf x = some .cell := by rfl) (hd : (x == ("__debug__" : Str)) = false := by decide) :
    wpAny M A (eval (.Name x pos) env) Q E s := wpAny_Name (wpAny_loadName_cell hk hx hc hv h) hd
theorem nmLoc {m : Str → Option Value} {x : Str} {pos : Pos} {v : Value} (hn : s.heap.Ns env.locals m) (hv : m x = some v) (h : Q v s)
    (hk : env.scope.kind = .function := by rfl) (hx : env.kindOf x = some .local := by rfl) (hd : (x == ("__debug__" : Str)) = false := by decide) :
    wpAny M A (eval (.Name x pos) env) Q E s := wpAny_Name (wpAny_loadName_local hk hx hn hv h) hd
end

section
variable {prog : Program} {w : World} {M : Model} {A : Around} {E : Value → Shared → Prop} {s : Shared} {env : Env}

/-- a, b = l -/
theorem asg2 {l : Addr} {v1 v2 : Value} {x1 x2 : Str} {p1 p2 pos : Pos} {k : Nat} {Q : Unit → Shared → Prop} (hl : s.heap.IsList l #[v1, v2]) (hh : A.handled = none)
    (h : ∀ s', Kp s s' → wpAny (model prog w) A (storeName env x1 v1) (fun _ s₁ => wpAny (model prog w) A (storeName env x2 v2) Q E s₁) E s') :
    wpAny (model prog w) A (assign (.Tuple [.Name x1 p1, .Name x2 p2] k pos) env (.ref l)) Q E s := by
  rw [PyProof.Rows.assign_Tuple]
  refine wpAny_bind (wpAny_standAt ?_)
  show wpAny _ _ (unpack (.ref l) [(false, assign (.Name x1 p1) env), (false, assign (.Name x2 p2) env)]) Q E s
  unfold unpack
  refine wpAny_bind (wpAny_holding (kun_itemsOf (items := #[v1, v2]) hh hl fun h' he => ?_))
  refine assignInOrder_cons (PyProof.Rows.assign_Name (wpAny_mono (h _ (Kp.extBut he)) (fun _ s₁ h₁ => ?_) fun _ _ x => x))
  exact assignInOrder_cons (PyProof.Rows.assign_Name (wpAny_mono h₁ (fun _ s₂ h₂ => assignInOrder_nil h₂) fun _ _ x => x))

/-- a test of two ints, of two texts, at an if -/
theorem eqI {a b : Int} {t u : Tok} {Q : Bool → Shared → Prop} (h : Q (decide (a = b)) s) : wpAny (model prog w) A (compareOp .Eq (.int a t) (.int b u)) (fun c s₃ => wpAny (model prog w) A (truthy c) Q E s₃) E s :=
  PyProof.Rows.eq_int (wpAny_truthy_bool (by rw [show (a == b) = decide (a = b) from rfl]; exact h))
theorem eqS {a b : Str} {t u : Tok} {Q : Bool → Shared → Prop} (h : Q (a == b) s) : wpAny (model prog w) A (compareOp .Eq (.str a t) (.str b u)) (fun c s₃ => wpAny (model prog w) A (truthy c) Q E s₃) E s :=
  PyProof.Rows.eq_str (wpAny_truthy_bool h)
theorem neS {a b : Str} {t u : Tok} {Q : Bool → Shared → Prop} (h : Q (a != b) s) : wpAny (model prog w) A (compareOp .NotEq (.str a t) (.str b u)) (fun c s₃ => wpAny (model prog w) A (truthy c) Q E s₃) E s :=
  PyProof.Rows.ne_str (wpAny_truthy_bool h)

/-- a statement that goes on to the next in every case -/
theorem execs_join {st : Stmt} {rest : List Stmt} {Q : Flow → Shared → Prop} (mid : Shared → Prop)
    (h : wpAny M A (exec st env) (fun f s' => f = .next ∧ mid s') E s) (k : ∀ s', mid s' → wpAny M A (execs rest env) Q E s') : wpAny M A (execs (st :: rest) env) Q E s :=
  wpAny_execs_cons (wpAny_mono h (fun f s' hf => by obtain ⟨rfl, hm⟩ := hf; exact k s' hm) fun _ _ x => x)
end

section
variable {M : Model} {A : Around} {E : Value → Shared → Prop} {s : Shared} {env : Env} {Q : Value → Shared → Prop}

/-- o.name(args): the method by its name, then the call -/
theorem meth {o : Expr} {name : Str} {apos pos : Pos} {args : List Expr}
    (h : wpAny M A (eval o env) (fun ov s₁ => wpAny M A (getMethod ov name (do return (← importBound o env).getD true)) (fun fx s₂ => wpAny M A (callWith pos fx.1 fx.2 (backTo pos (starEach args env)) []) Q E s₂) E s₁) E s)
    (hb : attributeBase o name env (eval o env) = eval o env) (hf : methodCallForm args.length (backTo pos (starEach args env)) [] = true) (hp : (apos.endLine == pos.line) = true) :
    wpAny M A (eval (.Call (.Attribute o name apos) args [] pos) env) Q E s := by
  rw [arm_eval_Call, hb]
  refine wpAny_bind (wpAny_mono h (fun ov s₁ h₁ => wpAny_bind (wpAny_standAt ?_)) fun _ _ x => x)
  unfold methodCall calleeOf methodCallPos
  show wpAny M A (do
    let (f, first) ← holding [ov] (if methodCallForm args.length (backTo pos (starEach args env)) [] then getMethod ov name (do return (← importBound o env).getD true) else do pure (← getAttr ov name true, []))
    let callPos ← (if !methodCallForm args.length (backTo pos (starEach args env)) [] || apos.endLine == pos.line then pure pos else _)
    callWith callPos f first (backTo pos (starEach args env)) []) Q E s₁
  rw [hf, hp]
  refine wpAny_bind (wpAny_holding (wpAny_mono h₁ (fun fx s₂ h₂ => ?_) fun _ _ x => x))
  exact wpAny_bind (wpAny_pure h₂)
theorem baseConst (x k p name env) : attributeBase (.Constant x k p) name env (eval (.Constant x k p) env) = eval (.Constant x k p) env := rfl
theorem baseName (x p name env) : attributeBase (.Name x p) name env (eval (.Name x p) env) = eval (.Name x p) env := rfl
theorem baseSub (x y p name env) : attributeBase (.Subscript x y p) name env (eval (.Subscript x y p) env) = eval (.Subscript x y p) env := rfl
theorem form1N (x p pos env) : methodCallForm 1 (backTo pos (starEach [.Name x p] env)) [] = true := rfl
theorem form1L (x p pos env) : methodCallForm 1 (backTo pos (starEach [.List x p] env)) [] = true := rfl
theorem form1C (x y z p pos env) : methodCallForm 1 (backTo pos (starEach [.Call x y z p] env)) [] = true := rfl
end

-- the built-in names
theorem bstr : bootBuiltins (Str.ofString "str") = some (.type "str") := by boot_fast
theorem blen : bootBuiltins (Str.ofString "len") = some (.builtin "len") := by boot_fast
theorem brange : bootBuiltins (Str.ofString "range") = some (.type "range") := by boot_fast
theorem bsum' : bootBuiltins (Str.ofString "sum") = some (.builtin "sum") := by boot_fast
theorem bmin : bootBuiltins (Str.ofString "min") = some (.builtin "min") := by boot_fast
theorem bchr : bootBuiltins (Str.ofString "chr") = some (.builtin "chr") := by boot_fast
theorem btuple : bootBuiltins (Str.ofString "tuple") = some (.type "tuple") := by boot_fast
theorem brepr : bootBuiltins (Str.ofString "repr") = some (.builtin "repr") := by boot_fast
end Mine

namespace Mine
section
variable {prog : Program} {w : World} {A : Around} {E : Value → Shared → Prop} {s : Shared} {env : Env}

theorem eq_of_places {vs us : List Value} (hl : us.length = vs.length) (h : ∀ (j : Nat) (v : Value), us[j]? = some v → vs[j]? = some v) : us = vs := by
  refine List.ext_getElem? fun j => ?_
  cases q : us[j]? with
  | some v => exact (h j v q).symm
  | none =>
    have : us.length ≤ j := by simpa using q
    exact (List.getElem?_eq_none (by omega)).symm

theorem filter_all (vs : List Value) : vs.filter (fun _ => true) = vs := List.filter_eq_self.mpr fun _ _ => rfl

/-- a comprehension over a list, its element making objects at most -/
theorem compList {elt iter : Expr} {x : Str} {px : Pos} {scope : Scope} {cl : List (Str × Addr)} {pos : Pos} {Q : Value → Shared → Prop} (F : Value → Value → Prop)
    (hh : A.handled = none)
    (h : wpAny (model prog w) A (eval iter env) (fun xv s₁ => ∃ a vs, xv = .ref a ∧ s₁.heap.IsList a (vs : List Value).toArray ∧ vs.length ≤ sizeLine ∧
      (∀ C v s₃ m₃ E', s₁.heap.objs.size ≤ C → v ∈ vs → s₃.heap.Ns C m₃ → m₃ x = some v → (∀ b o, s₁.heap.get? b = some o → s₃.heap.get? b = some o) →
        wpAny (model prog w) A (eval elt (compEnvC scope cl C env)) (fun y s₄ => F v y ∧ Keeps s₃ s₄) E' s₃) ∧
      (∀ D ys s', Kp s₁ s' → s₁.heap.get? D = none → s'.heap.IsList D ys → Paired F vs ys.toList → Q (.ref D) s')) E s)
    (hclos : closureFor scope env = pure cl := by rfl) (hcell : ∀ y ∈ scope.names, y.2 ≠ .cell := by decide) (hkind : scope.kind = .function := by rfl)
    (hnames : ∀ y ∈ scope.names, y.2 = .local → scope.names.lookup y.1 = some .local := by decide) (hx : scope.names.lookup x = some .local := by rfl)
    (hs : ∀ x, foldedSetIterable iter env x = pure x := by intro _; rfl) :
    wpAny (model prog w) A (eval (.ListComp elt [⟨.Name x px, iter, [], 0⟩] scope pos) env) Q E s := by
  refine wpAny_ListComp_free (fun _ => true) F hclos hcell hkind hnames hx (wpAny_mono h (fun xv s₁ h₁ => ?_) fun _ _ e => e) hs
  obtain ⟨a, vs, rfl, hl, hsz, helt, hQ⟩ := h₁
  obtain ⟨o, ho, _⟩ := id hl
  have hlt : a < s₁.heap.objs.size := Heap.lt_size ho
  refine wpAny_pyIter_list hl ?_
  have hk1 : ∀ b o, s₁.heap.get? b = some o → (s₁.heap.push { cls := .type "list_iterator", data := .fields #[.ref a, .int 0 0] }).get? b = some o := fun b o e => Heap.get?_push_of_some _ e
  refine ⟨s₁.heap.objs.size, _, _, _, _, _, rfl, Walks.list hh _ a (Nat.ne_of_lt hlt) vs.toArray, by simpa using hsz, ⟨⟨_, Heap.get?_push_size _ rfl, rfl, rfl⟩, hl.push _⟩, ?_, ⟨?_, ?_⟩, ?_⟩
  · intro b hb
    rw [Heap.size_push]
    rcases List.mem_cons.mp hb with rfl | hb
    · exact Nat.lt_succ_self _
    · rw [List.mem_singleton.mp hb]; exact Nat.lt_succ_of_lt hlt
  · intro C i v s₃ m₃ E' _ _ _ _ _ _
    exact wpAny_pure ⟨rfl, Kp.refl _⟩
  · intro C i v s₃ m₃ E' hC hP _ hn hm hk _
    rw [Heap.size_push] at hC
    refine helt C v s₃ m₃ E' (by omega) ?_ hn hm fun b o e => hk b o (fun hb => ?_) (hk1 b o e)
    · have hP' : vs[i]? = some v := by simpa using hP
      exact List.mem_of_getElem? hP'
    · rw [List.mem_singleton.mp hb] at e; exact absurd (Heap.lt_size e) (Nat.lt_irrefl _)
  · intro D h' tk ys us hD hyl _ hlen hP hF hk
    have e : us = vs := eq_of_places (by simpa using hlen) fun j v hj => by simpa using hP j v hj
    subst e
    rw [filter_all] at hF
    refine hQ D ys _ (Kp.of fun b o e => hk b o (fun hb => ?_) (hk1 b o e)) ?_ hyl hF
    · rw [List.mem_singleton.mp hb] at e; exact absurd (Heap.lt_size e) (Nat.lt_irrefl _)
    · cases q : s₁.heap.get? D with
      | none => rfl
      | some o => rw [hk1 _ _ q] at hD; cases hD

theorem rangeSmall {n : Nat} (h : n ≤ 16777216) : Builtin.Range.small 0 (n : Int) 1 = true := by
  refine small_one (by decide) (by decide) ?_ ?_ <;> omega

/-- a comprehension over range(n) -/
theorem compRange {elt iter : Expr} {x : Str} {px : Pos} {scope : Scope} {cl : List (Str × Addr)} {pos : Pos} {Q : Value → Shared → Prop} (F : Value → Value → Prop)
    (hh : A.handled = none)
    (h : wpAny (model prog w) A (eval iter env) (fun xv s₁ => ∃ r t u v, ∃ n : Nat, xv = .ref r ∧ IsRange s₁.heap r 0 n 1 t u v ∧ n ≤ sizeLine ∧
      (∀ (C i : Nat) t s₃ m₃ E', s₁.heap.objs.size ≤ C → i < n → s₃.heap.Ns C m₃ → m₃ x = some (Value.int (i : Int) t) → (∀ b o, s₁.heap.get? b = some o → s₃.heap.get? b = some o) →
        wpAny (model prog w) A (eval elt (compEnvC scope cl C env)) (fun y s₄ => F (Value.int (i : Int) t) y ∧ Keeps s₃ s₄) E' s₃) ∧
      (∀ D ys us s', Kp s₁ s' → s₁.heap.get? D = none → s'.heap.IsList D ys → us.length = n → (∀ (j : Nat) (v : Value), us[j]? = some v → ∃ t, v = Value.int (j : Int) t) → Paired F us ys.toList → Q (.ref D) s')) E s)
    (hclos : closureFor scope env = pure cl := by rfl) (hcell : ∀ y ∈ scope.names, y.2 ≠ .cell := by decide) (hkind : scope.kind = .function := by rfl)
    (hnames : ∀ y ∈ scope.names, y.2 = .local → scope.names.lookup y.1 = some .local := by decide) (hx : scope.names.lookup x = some .local := by rfl)
    (hs : ∀ x, foldedSetIterable iter env x = pure x := by intro _; rfl) :
    wpAny (model prog w) A (eval (.ListComp elt [⟨.Name x px, iter, [], 0⟩] scope pos) env) Q E s := by
  refine wpAny_ListComp_free (fun _ => true) F hclos hcell hkind hnames hx (wpAny_mono h (fun xv s₁ h₁ => ?_) fun _ _ e => e) hs
  obtain ⟨r, t, u, v, n, rfl, hr, hsz, helt, hQ⟩ := h₁
  rw [sizeLine_eq] at hsz
  have hrs : Builtin.Range.rangeSize 0 (n : Int) 1 = (n : Int) := by
    rw [rangeSize_nat]; omega
  refine wpAny_pyIter_range hr (rangeSmall hsz) ?_
  have hk1 : ∀ b o, s₁.heap.get? b = some o → (s₁.heap.push { cls := .type "range_iterator", data := .fields #[rawInt 0, rawInt (Builtin.Range.rangeSize 0 (n : Int) 1), rawInt 1] }).get? b = some o := fun b o e => Heap.get?_push_of_some _ e
  refine ⟨s₁.heap.objs.size, _, _, _, _, _, rfl, (Walks.range hh _ 0 1 n).bound, by rw [sizeLine_eq]; exact hsz, ?_, ?_, ⟨?_, ?_⟩, ?_⟩
  · show IsRangeIter _ _ _ _ _
    rw [hrs]
    simpa using Heap.get?_push_size _ rfl
  · intro b hb
    rw [List.mem_singleton.mp hb, Heap.size_push]; exact Nat.lt_succ_self _
  · intro C i v s₃ m₃ E' _ _ _ _ _ _
    exact wpAny_pure ⟨rfl, Kp.refl _⟩
  · intro C i v s₃ m₃ E' hC hP _ hn hm hk _
    rw [Heap.size_push] at hC
    obtain ⟨hin, t, e⟩ := hP
    have e' : v = Value.int (i : Int) t := by simpa using e
    subst e'
    refine helt C i t s₃ m₃ E' (Nat.le_of_succ_le hC) hin hn hm fun b o e => hk b o (fun hb => ?_) (hk1 b o e)
    rw [List.mem_singleton.mp hb] at e; exact absurd (Heap.lt_size e) (Nat.lt_irrefl _)
  · intro D h' tk ys us hD hyl _ hlen hP hF hk
    rw [filter_all] at hF
    refine hQ D ys us _ (Kp.of fun b o e => hk b o (fun hb => ?_) (hk1 b o e)) ?_ hyl hlen (fun j v hj => ?_) hF
    · rw [List.mem_singleton.mp hb] at e; exact absurd (Heap.lt_size e) (Nat.lt_irrefl _)
    · cases q : s₁.heap.get? D with
      | none => rfl
      | some o => rw [hk1 _ _ q] at hD; cases hD
    · obtain ⟨_, t, e⟩ := hP j v hj
      exact ⟨t, by simpa using e⟩
end
end Mine

namespace Mine
section
variable {s₀ s : Shared} {env : Env} {m cm : Str → Option Value} {ks : List (Addr × Obj)}

/-- an object that the frame has made goes out of sight -/
theorem Fm.drop {a : Addr} {o : Obj} {h' : Heap} {tk : Nat} (F : Fm s₀ env m cm ((a, o) :: ks) s) (hs : Heap.ExtBut a s.heap h') : Fm s₀ env m cm ks { s with heap := h', toks := tk } := by
  obtain ⟨_, hL, hC, h0⟩ := F.k _ (.head _)
  have hL' : a ≠ env.locals := hL
  have hnd := F.nd
  rw [List.map_cons] at hnd
  refine ⟨⟨⟨?_, F.c.toInCall.ns.extBut hs (Ne.symm hL'), fun b ob e => hs b ob (fun q => ?_) (F.keep b ob e), F.c.toInCall.fresh⟩, fun n c hc => ?_, F.c.apart, F.c.above⟩, fun p hp => ?_, (List.nodup_cons.mp hnd).2⟩
  · obtain ⟨h₁, tk₁, rfl⟩ := F.c.toInCall.same
    exact ⟨h', tk, rfl⟩
  · rw [q] at e; rw [show s₀.heap.get? a = none from h0] at e; cases e
  · obtain ⟨oc, hoc, hd⟩ := F.c.cell n c hc
    exact ⟨oc, hs c oc (hC n c hc) hoc, hd⟩
  · have := F.k p (.tail _ hp)
    refine ⟨hs _ _ (fun e => ?_) this.1, this.2⟩
    exact (List.nodup_cons.mp hnd).1 (List.mem_map.mpr ⟨p, hp, e⟩)
theorem Fm.tail {p : Addr × Obj} (F : Fm s₀ env m cm (p :: ks) s) : Fm s₀ env m cm ks s := F.sub (List.sublist_cons_self _ _)
end

section
variable {prog : Program} {w : World} {A : Around} {E : Value → Shared → Prop} {s₀ s : Shared} {env : Env} {m cm : Str → Option Value} {ks : List (Addr × Obj)}

theorem forW {R : Result → Shared → Prop} {target : Expr} {body : List Stmt} {I : Addr} {oI : Obj} {fp : List Addr} {n : Nat} {P : Nat → Value → Prop} {St : Nat → Heap → Prop} (W : Walks prog w A I fp [I] n P St)
    (hlive : ∀ i h, St i h → ∃ o, h.get? I = some o)
    (hgo : ∀ i (s' : Shared) v (Q' : Unit → Shared → Prop) E', St i s'.heap → Q' () s' → wpAny (model prog w) A (letOwnedTupleGo target (.ref I) v) Q' E' s')
    (J : Nat → (Str → Option Value) → (Str → Option Value) → List (Addr × Obj) → Prop)
    (hfix : ∀ b ∈ fp, b = I ∨ ∃ o, ∀ i m cm ks s', J i m cm ks → Fm s₀ env m cm ks s' → s'.heap.get? b = some o)
    (F : Fm s₀ env m cm ((I, oI) :: ks) s) (hst : St 0 s.heap) (h0 : J 0 m cm ks)
    (turn : ∀ i v m cm ks s' oI E', i < n → P i v → J i m cm ks → Fm s₀ env m cm ((I, oI) :: ks) s' →
      wpAny (model prog w) A (assign target env v) (fun _ s₂ => wpAny (model prog w) A (execs body env) (fun f s₃ => match f with
        | .next | .cont => ∃ m' cm' ks', J (i + 1) m' cm' ks' ∧ Fm s₀ env m' cm' ((I, oI) :: ks') s₃
        | .brk => R (.ok .next) s₃
        | .ret v => R (.ok (.ret v)) s₃) E' s₂) E' s')
    (done : ∀ m cm ks s', J n m cm ks → Fm s₀ env m cm ks s' → R (.ok .next) s') :
    codeAny (model prog w) A (.forLoop target (.ref I) body [] env) R s := by
  refine codeAny_forLoop_any
    (fun k s' => ∃ i m cm ks oI, i ≤ n ∧ k = n + 1 - i ∧ J i m cm ks ∧ Fm s₀ env m cm ((I, oI) :: ks) s' ∧ St i s'.heap) ?_ (n + 1)
    ⟨0, m, cm, ks, oI, Nat.zero_le _, rfl, h0, F, hst⟩
  rintro k s' ⟨i, m, cm, ks, oI, hi, rfl, hJ, F, hst⟩
  by_cases hlt : i < n
  · refine W.item i _ _ _ hlt hst fun v h₁ tk₁ hP hst₁ hk₁ => ?_
    obtain ⟨oI', hoI'⟩ := hlive _ _ hst₁
    have F₁ : Fm s₀ env m cm ((I, oI') :: ks) { s' with heap := h₁, toks := tk₁ } := Fm.upd (k₁ := []) F (fun b o hb e => hk₁ b o (fun h => hb (List.mem_singleton.mp h)) e) hoI'
    refine hgo (i + 1) _ v _ _ hst₁ ?_
    refine wpAny_mono (turn i v m cm ks _ oI' _ hlt hP hJ F₁) (fun _ s₂ h₂ => wpAny_mono h₂ (fun f s₃ h₃ => ?_) fun _ _ e => e) fun _ _ e => e
    have fin : (∃ m' cm' ks', J (i + 1) m' cm' ks' ∧ Fm s₀ env m' cm' ((I, oI') :: ks') s₃) → ∃ m, m < n + 1 - i ∧ ∃ i m_1 cm ks oI, i ≤ n ∧ m = n + 1 - i ∧ J i m_1 cm ks ∧ Fm s₀ env m_1 cm ((I, oI) :: ks) s₃ ∧ St i s₃.heap := by
      rintro ⟨m', cm', ks', hJ', F'⟩
      refine ⟨n + 1 - (i + 1), by omega, i + 1, m', cm', ks', oI', hlt, rfl, hJ', F', W.frame _ _ _ hst₁ fun b hb o e => ?_⟩
      rcases hfix b hb with rfl | ⟨ob, hob⟩
      · have e1 : h₁.get? b = some o := e
        rw [hoI'] at e1; cases e1
        exact F'.get (.head _)
      · have e1 := hob _ _ _ _ _ hJ F₁.tail
        have e2 : h₁.get? b = some o := e
        have e3 : h₁.get? b = some ob := e1
        rw [e2] at e3; cases e3
        exact hob _ _ _ _ _ hJ' F'.tail
    cases f with
    | next => exact fin h₃
    | cont => exact fin h₃
    | brk => exact h₃
    | ret v => exact h₃
  · have hin : i = n := by omega
    subst hin
    refine W.done _ _ _ hst fun h₁ tk₁ hk₁ => wpAny_execs_nil ?_
    exact done m cm ks _ hJ (F.drop fun b o hb e => hk₁ b o (fun h => hb (List.mem_singleton.mp h)) e)

/-- for x in range(n) -/
theorem forRange {x : Str} {px : Pos} {iter : Expr} {body : List Stmt} {pos : Pos} {n : Nat} {Q : Flow → Shared → Prop} (hh : A.handled = none)
    (J : Nat → (Str → Option Value) → (Str → Option Value) → List (Addr × Obj) → Prop)
    (h : wpAny (model prog w) A (eval iter env) (fun xv s₁ => ∃ r t u v m cm ks, xv = .ref r ∧ IsRange s₁.heap r 0 (n : Int) 1 t u v ∧ n ≤ 16777216 ∧ Fm s₀ env m cm ks s₁ ∧ J 0 m cm ks) E s)
    (turn : ∀ i t m cm ks s' I oI E', i < n → J i m cm ks → Fm s₀ env m cm ((I, oI) :: ks) s' →
      wpAny (model prog w) A (storeName env x (.int (i : Nat) t)) (fun _ s₂ => wpAny (model prog w) A (execs body env) (fun f s₃ => match f with
        | .next | .cont => ∃ m' cm' ks', J (i + 1) m' cm' ks' ∧ Fm s₀ env m' cm' ((I, oI) :: ks') s₃
        | .brk => Q .next s₃
        | .ret v => Q (.ret v) s₃) E' s₂) E' s')
    (done : ∀ m cm ks s', J n m cm ks → Fm s₀ env m cm ks s' → Q .next s') (hs : ∀ x, foldedSetIterable iter env x = pure x := by intro _; rfl) :
    wpAny (model prog w) A (exec (.For (.Name x px) iter body [] pos) env) Q E s := by
  refine wpAny_For (wpAny_mono h (fun xv s₁ h₁ => ?_) fun _ _ e => e) hs
  obtain ⟨r, t, u, v, m, cm, ks, rfl, hr, hsz, F, h0⟩ := h₁
  have hrs : Builtin.Range.rangeSize 0 (n : Int) 1 = (n : Int) := by rw [rangeSize_nat]; omega
  refine wpAny_pyIter_range hr (rangeSmall hsz) ?_
  refine forW (R := fun r s' => match r with | .ok f => Q f s' | .error e => cameBackBy (model prog w) A env E e s') (Walks.range hh _ 0 1 n) (fun i h st => ⟨_, st⟩) (fun i s' v Q' E' _ hQ => wpAny_pure hQ) J (fun b hb => .inl (List.mem_singleton.mp hb)) (F.push _) ?_ h0
    (fun i v m cm ks s' oI E' hi hP hJ F' => ?_) done
  · show IsRangeIter _ _ _ _ _
    rw [hrs]
    simpa using Heap.get?_push_size _ rfl
  · obtain ⟨t, e⟩ := hP
    have e' : v = Value.int (i : Int) t := by simpa using e
    subst e'
    exact wpAny_assign_Name (turn i t m cm ks s' _ oI E' hi hJ F')

/-- for a, b in l, the items being lists of two -/
theorem forList {target iter : Expr} {body : List Stmt} {pos : Pos} {l : Addr} {ol : Obj} {vs : List Value} {nl : Nat} {Q : Flow → Shared → Prop} (hh : A.handled = none)
    (J : Nat → (Str → Option Value) → (Str → Option Value) → List (Addr × Obj) → Prop) (hlc : ol.cls = .type "list") (hld : ol.data = .seq vs.toArray nl)
    (hfix : ∀ i m cm ks s', J i m cm ks → Fm s₀ env m cm ks s' → s'.heap.get? l = some ol)
    (h : wpAny (model prog w) A (eval iter env) (fun xv s₁ => ∃ m cm ks, xv = .ref l ∧ Fm s₀ env m cm ks s₁ ∧ J 0 m cm ks) E s)
    (turn : ∀ (i : Nat) v m cm ks s' I oI E', vs[i]? = some v → J i m cm ks → Fm s₀ env m cm ((I, oI) :: ks) s' →
      wpAny (model prog w) A (assign target env v) (fun _ s₂ => wpAny (model prog w) A (execs body env) (fun f s₃ => match f with
        | .next | .cont => ∃ m' cm' ks', J (i + 1) m' cm' ks' ∧ Fm s₀ env m' cm' ((I, oI) :: ks') s₃
        | .brk => Q .next s₃
        | .ret v => Q (.ret v) s₃) E' s₂) E' s')
    (done : ∀ m cm ks s', J vs.length m cm ks → Fm s₀ env m cm ks s' → Q .next s') (hs : ∀ x, foldedSetIterable iter env x = pure x := by intro _; rfl) :
    wpAny (model prog w) A (exec (.For target iter body [] pos) env) Q E s := by
  refine wpAny_For (wpAny_mono h (fun xv s₁ h₁ => ?_) fun _ _ e => e) hs
  obtain ⟨m, cm, ks, rfl, F, h0⟩ := h₁
  have hl : s₁.heap.get? l = some ol := hfix 0 m cm ks s₁ h0 F
  have hlt : l < s₁.heap.objs.size := Heap.lt_size hl
  have hL : s₁.heap.IsList l vs.toArray := ⟨ol, hl, hlc, nl, hld⟩
  refine wpAny_pyIter_list hL ?_
  have W := Walks.list (prog := prog) (w := w) hh s₁.heap.objs.size l (Nat.ne_of_lt hlt) vs.toArray
  rw [show vs.toArray.size = vs.length by simp] at W
  refine forW (R := fun r s' => match r with | .ok f => Q f s' | .error e => cameBackBy (model prog w) A env E e s') W (fun i h st => let ⟨o, ho, _⟩ := st.1; ⟨o, ho⟩) (fun i s' v Q' E' st hQ => letGo_listiter st.1 hQ) J ?_ (F.push _) ⟨⟨_, Heap.get?_push_size _ rfl, rfl, rfl⟩, hL.push _⟩ h0
    (fun i v m cm ks s' oI E' hi hP hJ F' => turn i v m cm ks s' _ oI E' (by simpa using hP) hJ F') done
  intro b hb
  rcases List.mem_cons.mp hb with rfl | hb
  · exact .inl rfl
  · rw [List.mem_singleton.mp hb]; exact .inr ⟨ol, hfix⟩
end
end Mine

namespace Mine

/-- a piece: one of the four things, a number, a text -/
inductive Pc where
  | thing (k : Nat)
  | num (n : Int)
  | txt (x : Str)

def opn (k : Nat) : Str := if k = 1 then Str.ofString "{" else if k = 3 then Str.ofString "(" else Str.ofString "["
def cls (k : Nat) : Str := if k = 1 then Str.ofString "}" else if k = 3 then Str.ofString ")" else Str.ofString "]"
/-- a dict's parts bear their keys -/
def keyed (i : Nat) : List Str → List Str
  | [] => []
  | t :: ts => (Str.ofString (toString (i : Int)) ++ Str.ofString ": " ++ t) :: keyed (i + 1) ts
def dress (k : Nat) (ts : List Str) : List Str := if k = 1 then keyed 0 ts else ts
def clsOf (k n : Nat) : Str := if k = 3 ∧ n = 1 then Str.ofString "," ++ cls k else cls k
def wrap (k : Nat) (ts : List Str) : Str := opn k ++ Str.join (Str.ofString ", ") (dress k ts) ++ clsOf k ts.length
def dots (k : Nat) : Str := opn k ++ Str.ofString "..." ++ cls k

/-- the writing of a piece, the way that leads to it being given -/
def wr (ins : Nat → List Pc) : Nat → Pc → List Nat → Str
  | _, .num n, _ => Str.ofString (toString n)
  | _, .txt x, _ => Str.ofString "'" ++ x ++ Str.ofString "'"
  | 0, .thing k, _ => dots k
  | n + 1, .thing k, way => if k ∈ way then dots k else wrap k ((ins k).map fun p => wr ins n p (way ++ [k]))

theorem wr_num (ins : Nat → List Pc) (n : Nat) (i : Int) (way : List Nat) : wr ins n (.num i) way = Str.ofString (toString i) := by cases n <;> rfl
theorem wr_txt (ins : Nat → List Pc) (n : Nat) (x : Str) (way : List Nat) : wr ins n (.txt x) way = Str.ofString "'" ++ x ++ Str.ofString "'" := by cases n <;> rfl
theorem wr_thing (ins : Nat → List Pc) (n k : Nat) (way : List Nat) : wr ins (n + 1) (.thing k) way = if k ∈ way then dots k else wrap k ((ins k).map fun p => wr ins n p (way ++ [k])) := rfl
theorem wr_thing0 (ins : Nat → List Pc) (k : Nat) (way : List Nat) : wr ins 0 (.thing k) way = dots k := rfl

def OkPc : Pc → Prop
  | .thing k => k < 4
  | .num n => n.natAbs < 10 ^ 90
  | .txt x => x.length < 90 ∧ ∀ c ∈ x.cps.toList, 97 ≤ c ∧ c ≤ 122

structure OkIns (ins : Nat → List Pc) : Prop where
  len : ∀ k, (ins k).length ≤ 9
  pcs : ∀ k, ∀ p ∈ ins k, OkPc p

theorem len_append (a b : Str) : (a ++ b).length = a.length + b.length := strLen_append a b
theorem len_opn (k : Nat) : (opn k).length = 1 := by unfold opn; (repeat' split) <;> decide +kernel
theorem len_cls (k : Nat) : (cls k).length = 1 := by unfold cls; (repeat' split) <;> decide +kernel
theorem len_dots (k : Nat) : (dots k).length = 5 := by
  unfold dots
  rw [len_append, len_append, len_opn, len_cls, show (Str.ofString "...").length = 3 from by decide +kernel]
theorem len_clsOf (k n : Nat) : (clsOf k n).length ≤ 2 := by
  unfold clsOf
  split
  · rw [len_append, len_cls, show (Str.ofString ",").length = 1 from by decide +kernel]; omega
  · rw [len_cls]; omega
theorem len_num {n : Int} (h : n.natAbs < 10 ^ 90) : (Str.ofString (toString n)).length ≤ 91 := by
  have := int_text_length_le10 (a := n) (k := 90) (by decide) h
  rw [PySem.ofString_length]; exact this
theorem log_num {n : Int} (h : n.natAbs < 10 ^ 90) : n.natAbs.log2 < 1920 := by
  rcases Nat.eq_zero_or_pos n.natAbs with e | e
  · rw [e]; decide
  · rw [Nat.log2_lt (by omega)]
    refine Nat.lt_of_lt_of_le h ?_
    decide +kernel

theorem len_keyed {B : Nat} : ∀ (ts : List Str) (i : Nat), i + ts.length ≤ 99 → (∀ t ∈ ts, t.length ≤ B) → ∀ t ∈ keyed i ts, t.length ≤ B + 4
  | [], _, _, _, t, ht => by cases ht
  | x :: ts, i, hi, hB, t, ht => by
    rw [List.length_cons] at hi
    rcases List.mem_cons.mp ht with rfl | ht
    · have h1 := hB x (.head _)
      have h2 : (Str.ofString (toString (i : Int))).length ≤ 2 := toString_length_le (k := 2) (by omega) (by decide) (by omega)
      rw [len_append, len_append, show (Str.ofString ": ").length = 2 from by decide +kernel]; omega
    · exact len_keyed ts (i + 1) (by omega) (fun t ht => hB t (.tail _ ht)) t ht
theorem keyed_length : ∀ (ts : List Str) (i : Nat), (keyed i ts).length = ts.length
  | [], _ => rfl
  | _ :: ts, i => by rw [keyed, List.length_cons, List.length_cons, keyed_length ts (i + 1)]
theorem dress_length (k : Nat) (ts : List Str) : (dress k ts).length = ts.length := by
  unfold dress; split
  · exact keyed_length ts 0
  · rfl
theorem len_dress {B k : Nat} {ts : List Str} (hl : ts.length ≤ 9) (hB : ∀ t ∈ ts, t.length ≤ B) : ∀ t ∈ dress k ts, t.length ≤ B + 4 := by
  unfold dress; split
  · exact len_keyed ts 0 (by omega) hB
  · exact fun t ht => Nat.le_trans (hB t ht) (Nat.le_add_right _ _)
theorem sum_le {B : Nat} : ∀ (ts : List Str), (∀ t ∈ ts, t.length ≤ B) → (ts.map (·.length)).sum ≤ ts.length * B
  | [], _ => Nat.zero_le _
  | t :: ts, h => by
    have h1 := h t (.head _)
    have h2 := sum_le ts fun t ht => h t (.tail _ ht)
    rw [List.map_cons, List.sum_cons, List.length_cons, Nat.succ_mul]; omega
theorem len_wrap {B k : Nat} {ts : List Str} (hl : ts.length ≤ 9) (hB : ∀ t ∈ ts, t.length ≤ B) : (wrap k ts).length ≤ 9 * (B + 6) + 3 := by
  unfold wrap
  have h1 := StrLaws.join_length_le (Str.ofString ", ") (dress k ts)
  have h2 := sum_le (dress k ts) (len_dress (k := k) hl hB)
  have h3 := len_clsOf k ts.length
  rw [dress_length] at h1 h2
  rw [show (Str.ofString ", ").length = 2 from by decide +kernel] at h1
  have h4 : ts.length * (B + 4) ≤ 9 * (B + 4) := Nat.mul_le_mul_right _ hl
  rw [len_append, len_append, len_opn]; omega

def bnd : Nat → Nat
  | 0 => 100
  | n + 1 => 9 * (bnd n + 6) + 3
theorem bnd_ge : ∀ n, 100 ≤ bnd n
  | 0 => Nat.le_refl _
  | n + 1 => by have := bnd_ge n; show 100 ≤ 9 * (bnd n + 6) + 3; omega

theorem len_wr {ins : Nat → List Pc} (ok : OkIns ins) : ∀ (n : Nat) (p : Pc) (way : List Nat), OkPc p → (wr ins n p way).length ≤ bnd n
  | n, .num i, way, h => by rw [wr_num]; have := len_num h; have := bnd_ge n; omega
  | n, .txt x, way, h => by
    rw [wr_txt, len_append, len_append, show (Str.ofString "'").length = 1 from by decide +kernel]
    have := h.1; have := bnd_ge n; omega
  | 0, .thing k, way, h => by rw [wr_thing0, len_dots]; show 5 ≤ 100; omega
  | n + 1, .thing k, way, h => by
    rw [wr_thing]
    split
    · rw [len_dots]; have := bnd_ge (n + 1); omega
    · refine len_wrap (B := bnd n) (by rw [List.length_map]; exact ok.len k) fun t ht => ?_
      obtain ⟨p, hp, rfl⟩ := List.mem_map.mp ht
      exact len_wr ok n p _ (ok.pcs k p hp)

theorem bnd4 : bnd 4 ≤ 1000000 := by decide
theorem bnd_mono : ∀ {a b : Nat}, a ≤ b → bnd a ≤ bnd b
  | a, 0, h => by have : a = 0 := by omega
                  subst this; exact Nat.le_refl _
  | a, b + 1, h => by
    rcases Nat.lt_or_ge a (b + 1) with h' | h'
    · have := bnd_mono (a := a) (b := b) (by omega)
      show bnd a ≤ 9 * (bnd b + 6) + 3; omega
    · have : a = b + 1 := by omega
      subst this; exact Nat.le_refl _
theorem wr_fits {ins : Nat → List Pc} (ok : OkIns ins) {n : Nat} (hn : n ≤ 4) (p : Pc) (way : List Nat) (h : OkPc p) : (wr ins n p way).length ≤ 1000000 :=
  Nat.le_trans (len_wr ok n p way h) (Nat.le_trans (bnd_mono hn) bnd4)
end Mine

namespace Mine

def PcIs (p : Pc) (kv wv : Value) : Prop := match p with
  | .thing k => (∃ t, kv = .str (Str.ofString "thing") t) ∧ ∃ t, wv = .int (k : Int) t
  | .num n => (∃ t, kv = .str (Str.ofString "number") t) ∧ ∃ t, wv = .int n t
  | .txt x => (∃ t, kv = .str (Str.ofString "text") t) ∧ ∃ t, wv = .str x t
def PcAt (h : Heap) (v : Value) (p : Pc) : Prop := ∃ a kv wv, v = .ref a ∧ h.IsList a #[kv, wv] ∧ PcIs p kv wv
def PcsAt (h : Heap) (v : Value) (ps : List Pc) : Prop := ∃ a vs, v = .ref a ∧ h.IsList a vs.toArray ∧ Paired (PcAt h) vs ps
def InsAt (h : Heap) (v : Value) (ins : Nat → List Pc) : Prop := ∃ a v0 v1 v2 v3, v = .ref a ∧ h.IsList a #[v0, v1, v2, v3] ∧ PcsAt h v0 (ins 0) ∧ PcsAt h v1 (ins 1) ∧ PcsAt h v2 (ins 2) ∧ PcsAt h v3 (ins 3)
def WayAt (h : Heap) (v : Value) (way : List Nat) : Prop := ∃ a vs, v = .ref a ∧ h.IsList a vs.toArray ∧ IntsAre vs (way.map (fun (k : Nat) => (k : Int)))

section
variable {h h' : Heap} (hk : ∀ b o, h.get? b = some o → h'.get? b = some o)
include hk
theorem isList_keeps {a : Addr} {items : Array Value} (x : h.IsList a items) : h'.IsList a items := let ⟨o, ho, r⟩ := x; ⟨o, hk a o ho, r⟩
theorem PcAt.keeps {v : Value} {p : Pc} (x : PcAt h v p) : PcAt h' v p := let ⟨a, kv, wv, e, l, r⟩ := x; ⟨a, kv, wv, e, isList_keeps hk l, r⟩
theorem PcsAt.keeps {v : Value} {ps : List Pc} (x : PcsAt h v ps) : PcsAt h' v ps := let ⟨a, vs, e, l, r⟩ := x; ⟨a, vs, e, isList_keeps hk l, r.mono fun _ _ y => y.keeps hk⟩
theorem InsAt.keeps {v : Value} {ins : Nat → List Pc} (x : InsAt h v ins) : InsAt h' v ins := let ⟨a, v0, v1, v2, v3, e, l, r0, r1, r2, r3⟩ := x; ⟨a, v0, v1, v2, v3, e, isList_keeps hk l, r0.keeps hk, r1.keeps hk, r2.keeps hk, r3.keeps hk⟩
theorem WayAt.keeps {v : Value} {way : List Nat} (x : WayAt h v way) : WayAt h' v way := let ⟨a, vs, e, l, r⟩ := x; ⟨a, vs, e, isList_keeps hk l, r⟩
end

theorem Paired.left {α β : Type} {F : α → β → Prop} : ∀ {l₁ : List α} {l₂ : List β}, Paired F l₁ l₂ → ∀ a ∈ l₁, ∃ b, b ∈ l₂ ∧ F a b
  | _, _, .nil, a, h => by cases h
  | _, _, .cons h t, a, ha => by
    rcases List.mem_cons.mp ha with rfl | ha
    · exact ⟨_, .head _, h⟩
    · obtain ⟨b, hb, hf⟩ := Paired.left t a ha
      exact ⟨b, .tail _ hb, hf⟩

section
variable {prog : Program} {w : World} {ins : Nat → List Pc}

theorem IntsAre.any_eq {k : Nat} {way : List Nat} : ((way.map (fun (k : Nat) => (k : Int))).any (· == (k : Int))) = decide (k ∈ way) := by
  induction way with
  | nil => rfl
  | cons x r ih =>
    rw [List.map_cons, List.any_cons, ih]
    by_cases h : x = k
    · subst h; simp
    · have : ((x : Int) == (k : Int)) = false := by simp only [beq_eq_false_iff_ne]; omega
      rw [this, Bool.false_or]
      simp [List.mem_cons, Ne.symm h]

theorem PcAt.inj {h : Heap} {v : Value} {p p' : Pc} (x : PcAt h v p) (y : PcAt h v p') : p = p' := by
  obtain ⟨a, kv, wv, rfl, ⟨o, ho, _, n, hd⟩, hp⟩ := x
  obtain ⟨a', kv', wv', e, ⟨o', ho', _, n', hd'⟩, hp'⟩ := y
  cases e
  rw [ho] at ho'
  cases ho'
  rw [hd] at hd'
  have e := (Data.seq.inj hd').1
  have e1 : kv = kv' := by have := congrArg (fun x : Array Value => x[0]?) e; simpa using this
  have e2 : wv = wv' := by have := congrArg (fun x : Array Value => x[1]?) e; simpa using this
  subst e1 e2
  have d1 : Str.ofString "thing" ≠ Str.ofString "number" := by decide +kernel
  have d2 : Str.ofString "thing" ≠ Str.ofString "text" := by decide +kernel
  have d3 : Str.ofString "number" ≠ Str.ofString "text" := by decide +kernel
  cases p <;> cases p' <;> obtain ⟨⟨t1, e1⟩, ⟨t2, e2⟩⟩ := hp <;> obtain ⟨⟨t3, e3⟩, ⟨t4, e4⟩⟩ := hp' <;> rw [e1] at e3 <;> rw [e2] at e4 <;> injection e3 <;> injection e4 <;> first | (exfalso; simp_all; done) | simp_all
  all_goals omega

theorem IntsAre.app : ∀ {vs us : List Value} {ns ms : List Int}, IntsAre vs ns → IntsAre us ms → IntsAre (vs ++ us) (ns ++ ms)
  | _, _, _, _, .nil, h => h
  | _, _, _, _, .cons n t h', h => .cons n t (IntsAre.app h' h)

theorem strs_of_paired {h : Heap} {f : Pc → Str} : ∀ {vs ys : List Value} {ps : List Pc}, Paired (PcAt h) vs ps → Paired (fun v y => ∀ p, PcAt h v p → p ∈ ps → ∃ t, y = .str (f p) t) vs ys → StrsAre ys (ps.map f) := by
  have key : ∀ {vs ys : List Value} {ps all : List Pc}, (∀ p ∈ ps, p ∈ all) → Paired (PcAt h) vs ps → Paired (fun v y => ∀ p, PcAt h v p → p ∈ all → ∃ t, y = .str (f p) t) vs ys → StrsAre ys (ps.map f) := by
    intro vs ys ps all hall h1
    induction h1 generalizing ys with
    | nil => intro h2; cases h2; exact .nil
    | cons hp _ ih =>
      intro h2
      cases h2 with
      | cons hf h2 =>
        obtain ⟨t, rfl⟩ := hf _ hp (hall _ (.head _))
        exact .cons _ _ (ih (fun p hp => hall p (.tail _ hp)) h2)
  intro vs ys ps h1 h2
  exact key (fun _ h => h) h1 h2

theorem mem_of_four {way : List Nat} {k : Nat} (hnd : way.Nodup) (hlt : ∀ k ∈ way, k < 4) (hl : way.length = 4) (hk : k < 4) : k ∈ way := by
  match way, hl with
  | [a, b, c, d], _ =>
    have ha := hlt a (by simp)
    have hb := hlt b (by simp)
    have hc := hlt c (by simp)
    have hd := hlt d (by simp)
    simp only [List.nodup_cons, List.mem_cons, List.not_mem_nil, or_false, not_or, List.nodup_nil, and_true] at hnd
    simp only [List.mem_cons, List.not_mem_nil, or_false]
    omega

end
end Mine

namespace Mine

theorem strs_keyed {ts : List Str} {us ys : List Value} (hlen : us.length = ts.length) (hus : ∀ (j : Nat) (v : Value), us[j]? = some v → ∃ t, v = Value.int (j : Int) t)
    (hF : Paired (fun v y => ∀ i : Nat, (∃ t, v = Value.int (i : Int) t) → ∀ x, ts[i]? = some x → ∃ t, y = Value.str (Str.ofString (toString (i : Int)) ++ Str.ofString ": " ++ x) t) us ys) : StrsAre ys (keyed 0 ts) := by
  have key : ∀ (ts' : List Str) (us ys : List Value) (i : Nat), us.length = ts'.length → (∀ j : Nat, ts[i + j]? = ts'[j]?) → (∀ (j : Nat) (v : Value), us[j]? = some v → ∃ t, v = Value.int ((i + j : Nat) : Int) t) →
      Paired (fun v y => ∀ i : Nat, (∃ t, v = Value.int (i : Int) t) → ∀ x, ts[i]? = some x → ∃ t, y = Value.str (Str.ofString (toString (i : Int)) ++ Str.ofString ": " ++ x) t) us ys → StrsAre ys (keyed i ts') := by
    intro ts'
    induction ts' with
    | nil =>
      intro us ys i hl _ _ hF
      have : us = [] := List.length_eq_zero_iff.mp hl
      subst this
      cases hF
      exact .nil
    | cons x r ih =>
      intro us ys i hl hts hu hF
      cases hF with
      | nil => cases hl
      | cons h1 h2 =>
        obtain ⟨t, e⟩ := h1 i (by simpa using hu 0 _ rfl) x (by simpa using hts 0)
        subst e
        refine .cons _ _ (ih _ _ (i + 1) (by simpa using hl) (fun j => ?_) (fun j v hj => ?_) h2)
        · have := hts (j + 1)
          rw [show i + 1 + j = i + (j + 1) by omega]
          simpa using this
        · have := hu (j + 1) v (by simpa using hj)
          rw [show i + 1 + j = i + (j + 1) by omega]
          exact this
  exact key ts us ys 0 hlen (fun j => by rw [Nat.zero_add]) (fun j v hj => by rw [Nat.zero_add]; exact hus j v hj) hF

section
variable {prog : Program} {w : World}

theorem tail39 {s s12 : Shared} {L : Addr} {A : Around} {E : Value → Shared → Prop} {Q : Value → Shared → Prop} {m cm : Str → Option Value} {k D : Nat} {oD : Obj} {ys : Array Value} {nD : Nat} {tb tb' t2 : Tok} {ts : List Str}
    (F : Fm s (ev w 39 L) m cm [(D, oD)] s12) (G : Gd w s.heap) (hh : A.handled = none) (hu : A.units < 9000)
    (hop : m (Str.ofString "opened") = some (.str (opn k) tb)) (hcl : m (Str.ofString "closed") = some (.str (cls k) tb')) (hpa : cm (Str.ofString "parts") = some (.ref D)) (hwh : cm (Str.ofString "what") = some (.int (k : Int) t2))
    (hk4 : k < 4) (hoc : oD.cls = .type "list") (hod : oD.data = .seq ys nD) (hS : StrsAre ys.toList ts) (htl : ts.length ≤ 9) (htB : ∀ t ∈ ts, t.length ≤ 100000)
    (hQ : ∀ t s', Kp s s' → Q (.str (wrap k ts) t) s') :
    wpAny (model prog w) A (execs ((bodyAt w 39).drop 6) (ev w 39 L)) (fun fl s' => match fl with | .ret v => Q v s' | _ => Q .none s') E s12 := by
  refine execs_join (fun s' => ∃ D' oD' ys' nD' cm', Fm s (ev w 39 L) m cm' [(D', oD')] s' ∧ cm' (Str.ofString "parts") = some (.ref D') ∧ cm' (Str.ofString "what") = some (.int (k : Int) t2) ∧
    oD'.cls = .type "list" ∧ oD'.data = .seq ys' nD' ∧ StrsAre ys'.toList (dress k ts)) ?_ ?_
  · refine wpAny_If (wpAny_isTrue_Compare1 (nmC F rfl hwh (cInt fun t1 s1 K1 => eqI ?_)))
    have F₁ := F.ext K1
    have G₁ := G.keeps F₁.keep
    by_cases h1 : k = 1
    · subst h1
      rw [if_pos (by decide)]
      have hyl : s1.heap.IsList D ys := ⟨oD, F₁.get (.head _), hoc, nD, hod⟩
      have hsz : ys.size = ts.length := by have := StrsAre.length hS; simpa using this
      refine wpAny_execs_cons (wpAny_Assign_Name (compRange (fun v y => ∀ i : Nat, (∃ t, v = .int (i : Int) t) → ∀ x, ts[i]? = some x → ∃ t, y = .str (Str.ofString (toString (i : Int)) ++ Str.ofString ": " ++ x) t) hh ?_))
      refine Call_ (nmB G₁ (by rfl) brange (ctC (by rfl) (arC (Call_ (nmB G₁ (by rfl) blen (cbN (by rfl) (arN (nmC F₁ rfl hpa (args_nil (lenL hyl (by omega) fun tl s2 K2 => args_nil ?_)))))))))) 
      refine rng1 fun r t u v s3 K3 hnr hr => ?_
      have K := K2.trans K3
      rw [hsz] at hr
      refine ⟨_, _, _, _, ts.length, rfl, hr, by rw [sizeLine_eq]; omega, ?_, ?_⟩
      · intro C i t s₃ m₃ E' hC hi hns hm hk
        have hk' : ∀ b o, s1.heap.get? b = some o → s₃.heap.get? b = some o := fun b o e => hk b o (K.heap b o e)
        have cP := (F₁.c.cell (Str.ofString "parts") _ rfl).keeps hk'
        rw [hpa] at cP
        obtain ⟨x, hx⟩ : ∃ x, ts[i]? = some x := ⟨ts[i], by simp [hi]⟩
        obtain ⟨tx, hyx⟩ := StrsAre.at hS hx
        have hxB := htB x (List.mem_of_getElem? hx)
        have hi10 : (Str.ofString (toString (i : Int))).length ≤ 2 := toString_length_le (k := 2) (by omega) (by decide) (by omega)
        refine wpAny_BinOp (wpAny_BinOp (Call_ (nmB (G₁.keeps hk') (by rfl) bstr (ctN (by rfl) (arN (nmLoc hns hm (args_nil (strI (log_num (by omega)) fun ts' s4 K4 => cStr fun t5 s5 K5 => addS ?_ fun t6 s6 K6 => ?_)))))))) 
        · rw [show (Str.ofString ": ").length = 2 from by decide +kernel, sizeLine_eq]; omega
        · have K7 := (K4.trans K5).trans K6
          refine Subscript_ (nmCell (cP.keeps K7.heap) rfl (nmLoc (hns.keeps K7.heap) hm (itemL (isList_kp K7 (Mine.isList_keeps hk' hyl)) (by simpa using hyx) (by omega) (addS ?_ fun t8 s8 K8 => ?_))))
          · rw [len_append, show (Str.ofString ": ").length = 2 from by decide +kernel, sizeLine_eq]; omega
          · refine ⟨fun j hj y hy => ?_, K7.trans K8⟩
            obtain ⟨tj, ej⟩ := hj
            have e : (i : Int) = (j : Int) := by injection ej
            have e' : i = j := by omega
            subst e'
            rw [hx] at hy
            cases hy
            exact ⟨_, rfl⟩
      · intro D2 ys2 us s' hK hD2 hyl2 hlen hus hF
        obtain ⟨o2, ho2, hc2, n2, hd2⟩ := hyl2
        have KK' := K.trans hK
        refine stC ((F₁.sub (List.nil_sublist _)).new KK' (none_of_keeps K hD2) ho2) rfl fun s5 F₅ => ?_
        refine wpAny_execs_nil ⟨rfl, D2, o2, ys2, n2, _, F₅, by rfl, ?_, hc2, hd2, ?_⟩
        · rw [if_neg (by decide)]; exact hwh
        · unfold dress; rw [if_pos rfl]; exact strs_keyed hlen hus hF
    · rw [if_neg (by simp; omega)]
      exact wpAny_execs_nil ⟨rfl, D, oD, ys, nD, cm, F₁, hpa, hwh, hoc, hod, by unfold dress; rw [if_neg h1]; exact hS⟩
  · rintro s13 ⟨D', oD', ys', nD', cm', F', hpa', hwh', hoc', hod', hS'⟩
    clear F hpa hwh hoc hod hS
    have hyl : ∀ {s' : Shared}, Kp s13 s' → s'.heap.IsList D' ys' := fun K => isList_kp K ⟨oD', F'.get (.head _), hoc', nD', hod'⟩
    have hsz : ys'.size = ts.length := by have := StrsAre.length hS'; rw [dress_length] at this; simpa using this
    refine execs_join (fun s' => ∃ m' tc to, Fm s (ev w 39 L) m' cm' [(D', oD')] s' ∧ m' (Str.ofString "opened") = some (.str (opn k) to) ∧ m' (Str.ofString "closed") = some (.str (clsOf k ts.length) tc) ∧ s'.heap.IsList D' ys') ?_ ?_
    · refine wpAny_If (wpAny_isTrue_BoolOp (wpAny_allTrue_And_cons (wpAny_isTrue_Compare1 (nmC F' rfl hwh' (cInt fun t1 s1 K1 => eqI ?_)))))
      have F₁ := F'.ext K1
      by_cases h3 : k = 3
      · subst h3
        rw [if_pos (by decide)]
        refine wpAny_allTrue_And_cons (wpAny_isTrue_Compare1 (Call_ (nmB (G.keeps F₁.keep) (by rfl) blen (cbN (by rfl) (arN (nmC F₁ rfl hpa' (args_nil (lenL (hyl K1) (by omega) fun t2 s2 K2 => cInt fun t3 s3 K3 => eqI ?_))))))))
        have F₃ := F₁.ext (K2.trans K3)
        by_cases h1 : ts.length = 1
        · rw [if_pos (by rw [hsz, h1]; rfl)]
          refine wpAny_allTrue_And_nil ?_
          rw [if_pos rfl]
          refine wpAny_execs_cons (wpAny_Assign_Name (wpAny_BinOp (cStr fun t4 s4 K4 => nmL (F₃.ext K4) hcl (addS ?_ fun t5 s5 K5 => stL (F₃.ext (K4.trans K5)) fun s6 F₆ => wpAny_execs_nil ⟨rfl, _, t5, tb, F₆, ?_, ?_, ?_⟩))))
          · rw [show (Str.ofString ",").length = 1 from by decide +kernel, len_cls, sizeLine_eq]; omega
          · rw [if_neg (by decide)]; exact hop
          · rw [if_pos rfl, h1]; rfl
          · exact ⟨oD', F₆.get (.head _), hoc', nD', hod'⟩
        · rw [if_neg (by rw [hsz]; simp; omega), if_neg (by decide)]
          refine wpAny_execs_nil ⟨rfl, m, tb', tb, F₃, hop, ?_, oD', F₃.get (.head _), hoc', nD', hod'⟩
          rw [hcl]; unfold clsOf; rw [if_neg (by omega)]
      · rw [if_neg (by simp; omega), if_neg (by decide)]
        refine wpAny_execs_nil ⟨rfl, m, tb', tb, F₁, hop, ?_, oD', F₁.get (.head _), hoc', nD', hod'⟩
        rw [hcl]; unfold clsOf; rw [if_neg (by omega)]
    · rintro s14 ⟨m', tc, to, F₂, hop', hcl', hl2⟩
      have hsum := sum_le (dress k ts) (len_dress (k := k) (B := 100000) htl htB)
      rw [dress_length] at hsum
      have hmul : ts.length * (100000 + 4) ≤ 9 * (100000 + 4) := Nat.mul_le_mul_right _ htl
      have hwl : (wrap k ts).length ≤ 9 * (100000 + 6) + 3 := len_wrap htl htB
      have hwl' := hwl
      unfold wrap at hwl'
      rw [len_append] at hwl'
      have hwl'' := hwl'
      rw [len_append] at hwl''
      refine wpAny_execs_cons (wpAny_Return_some (wpAny_BinOp (wpAny_BinOp (nmL F₂ hop' ?_))))
      refine meth ?_ ?mb ?mf ?mp
      case mb => exact baseConst _ _ _ _ _
      case mf => exact form1N _ _ _ _
      case mp => rfl
      refine cStr fun t1 s1 K1 => ?_
      refine GM.join ?_
      refine cmN (by rfl) (arN (nmC (F₂.ext K1) rfl hpa' (args_nil ?_)))
      refine joinS (isList_kp K1 hl2) hS' (by decide +kernel) (by rw [dress_length]; omega) fun t2 s2 K2 => addS (by rw [sizeLine_eq]; omega) fun t3 s3 K3 => nmL (F₂.ext ((K1.trans K2).trans K3)) hcl' (addS (by rw [sizeLine_eq, len_append]; omega) fun t4 s4 K4 => ?_)
      exact hQ _ _ (F₂.ext (((K1.trans K2).trans K3).trans K4)).done
end
end Mine

namespace Mine
section
variable {prog : Program} {w : World} {ins : Nat → List Pc}

def Spec39 (prog : Program) (w : World) (ins : Nat → List Pc) (n : Nat) : Prop := ∀ (p : Pc) (way : List Nat) (A : Around) (E : Value → Shared → Prop) (s : Shared) (Q : Value → Shared → Prop) (vI vP vW : Value),
    OkPc p → way.Nodup → (∀ k ∈ way, k < 4) → n + way.length = 4 → Gd w s.heap → A.handled = none → A.depth + n < 900 → A.units + 20 * n < 9000 →
    InsAt s.heap vI ins → PcAt s.heap vP p → WayAt s.heap vW way → (∀ t s', Kp s s' → Q (.str (wr ins n p way) t) s') →
    wpAny (model prog w) A (call (.ref 39) [vI, vP, vW]) Q E s

set_option maxHeartbeats 4000000 in
theorem step39 (ok : OkIns ins) (n : Nat) (IH : ∀ n', n' + 1 = n → Spec39 prog w ins n') : Spec39 prog w ins n := by
  intro p way A E s Q vI vP vW hp hnd hlt hn G hh hd hu hI hP hW hQ
  obtain ⟨aP, kv, wv, rfl, hl, hpc⟩ := hP
  refine callF (binds := [(Str.ofString "inside", vI), (Str.ofString "piece", .ref aP), (Str.ofString "way", vW)]) G (Nat.lt_of_le_of_lt (Nat.le_add_right _ _) (Nat.lt_of_lt_of_le hd (by decide))) rfl rfl rfl rfl rfl rfl rfl ?_
  intro s₁ F G₁
  refine wpAny_execs_cons (Assign_Tuple (nmL F rfl (asg2 (isList_keeps F.keep hl) hh fun s₂ k₂ => stL (F.ext k₂) fun s₃ F₃ => stC F₃ rfl fun s₄ F₄ => ?_)))
  clear F F₃ k₂ hl
  dsimp only
  refine wpAny_execs_cons (wpAny_If (wpAny_isTrue_Compare1 (nmL F₄ rfl (wpAny_Constant_str ?_))))
  cases p with
  | num i =>
    obtain ⟨⟨t1, rfl⟩, ⟨t2, rfl⟩⟩ := hpc
    refine PyProof.Rows.eq_str (wpAny_truthy_bool ?_)
    rw [if_pos (by decide +kernel)]
    have F₅ := F₄.tok (s₄.toks + 1)
    refine wpAny_execs_cons (wpAny_Return_some (Call_ (nmB (G.keeps F₅.keep) rfl bstr (callWith_type1 (args_cons (nmC F₅ rfl rfl (args_nil ?_)))))))
    refine P.str_of_int (log_num hp) ?_
    rw [wr_num] at hQ
    exact hQ _ _ (F₅.tok _).done
  | txt x =>
    obtain ⟨⟨t1, rfl⟩, ⟨t2, rfl⟩⟩ := hpc
    refine PyProof.Rows.eq_str (wpAny_truthy_bool ?_)
    rw [if_neg (by decide +kernel)]
    have F₅ := F₄.tok (s₄.toks + 1)
    refine wpAny_execs_nil (wpAny_execs_cons (wpAny_If (wpAny_isTrue_Compare1 (nmL F₅ rfl (wpAny_Constant_str ?_)))))
    refine PyProof.Rows.eq_str (wpAny_truthy_bool ?_)
    rw [if_pos (by decide +kernel)]
    have F₆ := F₅.tok (s₄.toks + 1 + 1)
    refine wpAny_execs_cons (wpAny_Return_some (wpAny_BinOp (wpAny_BinOp (wpAny_Constant_str ?_))))
    have F₇ := F₆.tok (s₄.toks + 1 + 1 + 1)
    have hx := hp.1
    refine nmC F₇ rfl rfl (PyProof.Rows.add_str (fun t' tk => wpAny_Constant_str (PyProof.Rows.add_str (fun t'' tk' => ?_) ?_)) ?_)
    · rw [wr_txt] at hQ
      exact hQ _ _ (F₇.tok _).done
    · rw [len_append, show (Str.ofString "'").length = 1 from by decide +kernel, sizeLine_eq]; omega
    · rw [show (Str.ofString "'").length = 1 from by decide +kernel, sizeLine_eq]; omega
  | thing k =>
    obtain ⟨⟨t1, rfl⟩, ⟨t2, rfl⟩⟩ := hpc
    refine PyProof.Rows.eq_str (wpAny_truthy_bool ?_)
    rw [if_neg (by decide +kernel)]
    have F₅ := F₄.tok (s₄.toks + 1)
    refine wpAny_execs_nil (wpAny_execs_cons (wpAny_If (wpAny_isTrue_Compare1 (nmL F₅ rfl (wpAny_Constant_str ?_)))))
    refine PyProof.Rows.eq_str (wpAny_truthy_bool ?_)
    rw [if_neg (by decide +kernel)]
    have F₆ := F₅.tok (s₄.toks + 1 + 1)
    clear F₄ F₅
    refine wpAny_execs_nil ?_
    refine wpAny_execs_cons ?_
    refine Assign_Tuple ?_
    refine Subscript_ ?_
    refine wpAny_List ?_
    refine arL ?_
    refine dis2 fun a0 u0 v0 s5 K5 n0 L0 => ?_
    refine arL ?_
    refine dis2 fun a1 u1 v1 s6 K6 n1 L1 => ?_
    refine arL ?_
    refine dis2 fun a2 u2 v2 s7 K7 n2 L2 => ?_
    refine arL ?_
    refine dis2 fun a3 u3 v3 s8 K8 n3 L3 => ?_
    refine wpAny_items_nil ⟨by show 4 ≤ sizeLine; decide, ?_⟩
    have KK := ((K5.trans K6).trans K7).trans K8
    have hk4 : k < 4 := hp
    have KP : Kp s8 { s8 with heap := s8.heap.push { cls := .type "list", data := .seq #[.ref a0, .ref a1, .ref a2, .ref a3] } } := Kp.push _ _
    have hsel : ∃ b tb tb', (#[Value.ref a0, .ref a1, .ref a2, .ref a3] : Array Value)[k]? = some (.ref b) ∧ ({ s8 with heap := s8.heap.push { cls := .type "list", data := .seq #[.ref a0, .ref a1, .ref a2, .ref a3] } } : Shared).heap.IsList b #[.str (opn k) tb, .str (cls k) tb'] := by
      rcases (by omega : k = 0 ∨ k = 1 ∨ k = 2 ∨ k = 3) with rfl | rfl | rfl | rfl
      · exact ⟨a0, _, _, rfl, isList_keeps (((K6.trans K7).trans K8).trans KP).heap L0⟩
      · exact ⟨a1, _, _, rfl, isList_keeps ((K7.trans K8).trans KP).heap L1⟩
      · exact ⟨a2, _, _, rfl, isList_keeps (K8.trans KP).heap L2⟩
      · exact ⟨a3, _, _, rfl, isList_keeps KP.heap L3⟩
    obtain ⟨b, tb, tb', hb, Lb⟩ := hsel
    have L4 : ({ s8 with heap := s8.heap.push { cls := .type "list", data := .seq #[.ref a0, .ref a1, .ref a2, .ref a3] } } : Shared).heap.IsList s8.heap.objs.size #[.ref a0, .ref a1, .ref a2, .ref a3] := isList_new _ _
    have F₇ := F₆.ext (KK.trans KP)
    clear F₆
    revert L4 Lb F₇ KP
    generalize ({ s8 with heap := s8.heap.push { cls := .type "list", data := .seq #[.ref a0, .ref a1, .ref a2, .ref a3] } } : Shared) = s9'
    intro KP Lb L4 F₇
    clear K5 K6 K7 K8 L0 L1 L2 L3 n0 n1 n2 n3
    refine nmC F₇ rfl rfl (itemL L4 hb (by omega) (asg2 Lb hh fun s9 K9 => stL (F₇.ext K9) fun s10 F₁₀ => stL F₁₀ fun s11 F₁₁ => ?_))
    clear F₇ F₁₀ K9 Lb hb KP KK L4
    dsimp only
    -- if what in way
    obtain ⟨aW, ws, rfl, hWl, hWi⟩ := hW
    refine wpAny_execs_cons (wpAny_If (wpAny_isTrue_Compare1 (nmC F₁₁ rfl rfl (nmC F₁₁ rfl rfl ?_))))
    refine in_list_ints (isList_keeps F₁₁.keep hWl) hWi (wpAny_truthy_bool ?_)
    rw [IntsAre.any_eq]
    by_cases hin : k ∈ way
    · rw [if_pos (by simpa using hin)]
      have e : wr ins n (.thing k) way = dots k := by
        cases n with
        | zero => exact wr_thing0 _ _ _
        | succ n => rw [wr_thing, if_pos hin]
      rw [e] at hQ
      refine wpAny_execs_cons (wpAny_Return_some (wpAny_BinOp (wpAny_BinOp (nmL F₁₁ rfl (wpAny_Constant_str (PyProof.Rows.add_str (fun t' tk => nmL (F₁₁.tok _) rfl (PyProof.Rows.add_str (fun t'' tk' => ?_) ?_)) ?_))))))
      · exact hQ _ _ (F₁₁.tok _).done
      · rw [len_append, len_opn, len_cls, show (Str.ofString "...").length = 3 from by decide +kernel, sizeLine_eq]; omega
      · rw [len_opn, show (Str.ofString "...").length = 3 from by decide +kernel, sizeLine_eq]; omega
    · rw [if_neg (by simpa using hin)]
      obtain ⟨n', rfl⟩ : ∃ n', n = n' + 1 := by
        cases n with
        | succ n' => exact ⟨n', rfl⟩
        | zero => exact absurd (mem_of_four hnd hlt (by omega) hk4) hin
      refine wpAny_execs_nil (wpAny_execs_cons (wpAny_Assign_Name ?_))
      obtain ⟨aI, w0, w1, w2, w3, rfl, hIl, q0, q1, q2, q3⟩ := id hI
      obtain ⟨vk, hvk, ak, vs, rfl, hkl, hkp⟩ : ∃ vk, (#[w0, w1, w2, w3] : Array Value)[k]? = some vk ∧ PcsAt s.heap vk (ins k) := by
        rcases (by omega : k = 0 ∨ k = 1 ∨ k = 2 ∨ k = 3) with rfl | rfl | rfl | rfl
        · exact ⟨_, rfl, q0⟩
        · exact ⟨_, rfl, q1⟩
        · exact ⟨_, rfl, q2⟩
        · exact ⟨_, rfl, q3⟩
      refine compList (fun v y => ∀ p, PcAt s.heap v p → p ∈ ins k → ∃ t, y = .str (wr ins n' p (way ++ [k])) t) hh ?_
      refine Subscript_ (nmC F₁₁ rfl rfl (nmC F₁₁ rfl rfl (itemL (isList_keeps F₁₁.keep hIl) hvk (by omega) ?_)))
      refine ⟨ak, vs, rfl, isList_keeps F₁₁.keep hkl, ?_, ?_, ?_⟩
      · rw [hkp.length, sizeLine_eq]; have := ok.len k; omega
      · intro C v s₃ m₃ E' hC hv hns hm hk
        obtain ⟨p0, hp0, hpc⟩ := Mine.Paired.left hkp v hv
        have G₃ : Gd w s₃.heap := (G.keeps F₁₁.keep).keeps hk
        have cI : s₃.heap.IsCell (s.heap.objs.size + 1) (some (.ref aI)) := (F₁₁.c.cell (Str.ofString "inside") _ rfl).keeps hk
        have cW : s₃.heap.IsCell (s.heap.objs.size + 1 + 1) (some (.ref aW)) := (F₁₁.c.cell (Str.ofString "way") _ rfl).keeps hk
        have cH : s₃.heap.IsCell (s.heap.objs.size + 1 + 1 + 1) (some (.int (k : Int) t2)) := (F₁₁.c.cell (Str.ofString "what") _ rfl).keeps hk
        have kk : ∀ b o, s.heap.get? b = some o → s₃.heap.get? b = some o := fun b o e => hk b o (F₁₁.keep b o e)
        refine Call_ (nmG G₃ (g39 w) (cdN (o := obAt w 39) (fd := fdAt w 39) rfl (arN (nmCell cI rfl (arN (nmLoc hns hm (arB (wpAny_BinOp ?_))))))))
        refine nmCell cW rfl (wpAny_List (arN (nmCell cH rfl (args_nil ⟨by show 1 ≤ sizeLine; decide, ?_⟩))))
        refine addL (isList_keeps (Kp.push s₃ _).heap (isList_keeps kk hWl)) (isList_new _ _) ?_ fun a s6 K6 hna La => args_nil ⟨K6.heap _ _ ((Kp.push s₃ _).heap _ _ (G₃.X 39 (obAt w 39) rfl)), ?_⟩
        · have e1 := IntsAre.length hWi
          rw [List.length_map] at e1
          rw [sizeLine_eq]
          simp only [List.size_toArray, List.length_cons, List.length_nil]
          omega
        · have K7 := (Kp.push s₃ _).trans K6
          refine IH n' rfl p0 (way ++ [k]) _ _ _ _ _ _ _ (ok.pcs k p0 hp0) ?_ ?_ ?_ (G₃.keeps K7.heap) hh ?_ ?_ ((hI.keeps kk).keeps K7.heap) ((hpc.keeps kk).keeps K7.heap) ⟨a, ws ++ [Value.int (k : Int) t2], rfl, by simpa using La, ?_⟩ ?_
          · rw [List.nodup_append]
            refine ⟨hnd, by simp, fun x hx y hy e => ?_⟩
            rw [List.mem_singleton.mp hy] at e
            exact hin (e ▸ hx)
          · intro x hx
            rcases List.mem_append.mp hx with hx | hx
            · exact hlt x hx
            · rw [List.mem_singleton.mp hx]; exact hk4
          · rw [List.length_append, List.length_singleton]; omega
          · show A.depth + 1 + n' < 900; omega
          · show A.units + 3 + 20 * n' < 9000; omega
          · rw [List.map_append]
            exact Mine.IntsAre.app hWi (.cons (k : Int) t2 .nil)
          · intro t s' hK
            refine ⟨fun p hp _ => ⟨t, by rw [PcAt.inj hp hpc]⟩, (K7.trans hK)⟩
      · intro D ys s' hK hD hyl hF
        have hS : StrsAre ys.toList ((ins k).map fun p => wr ins n' p (way ++ [k])) := strs_of_paired hkp hF
        generalize hts : ((ins k).map fun p => wr ins n' p (way ++ [k])) = ts at hS
        have htl : ts.length ≤ 9 := by rw [← hts, List.length_map]; exact ok.len k
        have htB : ∀ t ∈ ts, t.length ≤ 100000 := by
          intro t ht
          rw [← hts] at ht
          obtain ⟨p, hp, rfl⟩ := List.mem_map.mp ht
          exact Nat.le_trans (len_wr ok n' p _ (ok.pcs k p hp)) (Nat.le_trans (bnd_mono (by omega : n' ≤ 3)) (by decide))
        have hwr : wr ins (n' + 1) (.thing k) way = wrap k ts := by rw [wr_thing, if_neg hin, hts]
        rw [hwr] at hQ
        clear hF hwr hts IH hkp hkl hvk q0 q1 q2 q3
        obtain ⟨oD, hoD, hoc, nD, hod⟩ := hyl
        refine stC (F₁₁.new hK hD hoD) rfl fun s12 F₁₂ => ?_
        clear F₁₁ hK hD hoD
        dsimp only
        exact tail39 F₁₂ G hh (by show A.units + 3 < 9000; omega) rfl rfl rfl rfl hk4 hoc hod hS htl htB hQ

theorem call39 (ok : OkIns ins) : ∀ n, Spec39 prog w ins n
  | 0 => step39 ok 0 (fun _ h => by omega)
  | n + 1 => step39 ok (n + 1) (fun n' h => by
    have e : n' = n := by omega
    subst e
    exact call39 ok n')
end
end Mine

namespace Mine

/-- a plain list object -/
abbrev lo (items : Array Value) (n : Nat) : Obj := { cls := .type "list", data := .seq items n }

section
variable {prog : Program} {w : World} {M : Model} {A : Around} {E : Value → Shared → Prop} {s : Shared} {env : Env} {Q : Value → Shared → Prop}

theorem slicePick_mem {items : Array Value} {lo hi st : Option Int} {v : Value} (h : v ∈ slicePick items lo hi st) : v ∈ items := by
  unfold slicePick at h
  rw [List.mem_toArray, List.mem_filterMap] at h
  obtain ⟨i, _, hi⟩ := h
  exact Array.mem_of_getElem? hi
theorem slicePick_le (items : Array Value) (lo hi st : Option Int) : (slicePick items lo hi st).size ≤ items.size := slicePick_size_le items lo hi st

theorem evN (h : Q .none s) : wpAny M A (evalPart none env) Q E s := wpAny_pure h
theorem evS {e : Expr} (h : wpAny M A (eval e env) Q E s) : wpAny M A (evalPart (some e) env) Q E s := h

/-- x[a:b:c] of a list -/
theorem subSl {value : Expr} {lower upper step : Option Expr} {p pos : Pos} {ops : Value → Value → List Value}
    (h : wpAny (model prog w) A (eval value env) (fun o s₁ => wpAny (model prog w) A (evalPart lower env) (fun vl s₂ => wpAny (model prog w) A (evalPart upper env) (fun vu s₃ => wpAny (model prog w) A (evalPart step env) (fun vs s₄ =>
      ∃ l items lo hi st, o = .ref l ∧ s₄.heap.IsList l items ∧ items.size ≤ sizeLine ∧ IsPart vl lo ∧ IsPart vu hi ∧ IsPart vs st ∧ st ≠ some 0 ∧
        ∀ a s', Kp s₄ s' → s₄.heap.get? a = none → s'.heap.IsList a (slicePick items lo hi st) → Q (.ref a) s') E s₃) E s₂) E s₁) E s)
    (hs : ∀ o i, subscripted (.Slice lower upper step p) false o i = operate (ops o i) (getItem o i)) :
    wpAny (model prog w) A (eval (.Subscript value (.Slice lower upper step p) pos) env) Q E s := by
  refine Subscript_ (wpAny_mono h (fun o s₁ h₁ => wpAny_Slice (wpAny_mono h₁ (fun vl s₂ h₂ => wpAny_mono h₂ (fun vu s₃ h₃ => wpAny_mono h₃ (fun vs s₄ h₄ => ?_) fun _ _ e => e) fun _ _ e => e) fun _ _ e => e)) fun _ _ e => e)
  obtain ⟨l, items, lo, hi, st, rfl, hl, hsz, pl, pu, ps, h0, hQ⟩ := h₄
  refine tail_any (hl.push _).typeIs slot_list_getitem.lookup (wpAny_getItem_list_slice (hl.push _) (Heap.IsSliceOf.new ..) pl pu ps h0 ?_ hsz) (hs _ _)
  refine hQ _ _ ((Kp.push _ _).trans (Kp.push _ _)) ?_ (isList_new _ _)
  exact none_of_keeps (Kp.push s₄ _) (newAt _)
theorem subSl_two (a : Option Expr) (b : Option Expr) (p : Pos) (o i : Value) : subscripted (.Slice a b none p) false o i = operate [i, o] (getItem o i) := rfl
theorem subSl_three (a : Option Expr) (b : Option Expr) (c : Expr) (p : Pos) (o i : Value) : subscripted (.Slice a b (some c) p) false o i = operate [o, i] (getItem o i) := rfl

theorem sumL {l : Addr} {items : Array Value} (hh : A.handled = none) (hl : s.heap.IsList l items) (hall : AllInts items) (h : ∀ x t s', Kp s s' → Q (.int x t) s') : wpAny (model prog w) A (call (.builtin "sum") [.ref l]) Q E s := by
  obtain ⟨xs, rfl⟩ := hall.items
  exact sum_intListG hh hl fun h' tk t' hk => h _ _ _ (Kp.of hk)

theorem p90 : (10 : Int) ^ 90 = 1000000000000000000000000000000000000000000000000000000000000000000000000000000000000000000 := by decide +kernel
theorem pow90 {t u : Tok} (h : ∀ t s', Kp s s' → Q (.int (10 ^ 90) t) s') : wpAny (model prog w) A (binaryOp .Pow (.int 10 t) (.int 90 u)) Q E s :=
  AutoIntOps.pow_4 (by decide) (by decide) (by decide) (by decide) (by decide +kernel) (h _ _ (Kp.tok s _))
theorem mod90 {a : Int} {t u : Tok} (h : ∀ t s', Kp s s' → Q (.int (a % 10 ^ 90) t) s') : wpAny (model prog w) A (binaryOp .Mod (.int a t) (.int (10 ^ 90) u)) Q E s := by
  have hp : (0 : Int) < 10 ^ 90 := by rw [p90]; decide
  exact PyProof.Rows.mod_int' (Int.ne_of_gt hp) (by rw [Int.fmod_eq_emod_of_nonneg a (Int.le_of_lt hp)]; exact h _ _ (Kp.tok s _))

theorem chrI {i : Int} {t : Tok} (h0 : 0 ≤ i) (h1 : i ≤ 1114111) (h : ∀ t s', Kp s s' → Q (.str ⟨#[i.toNat]⟩ t) s') : wpAny (model prog w) A (call (.builtin "chr") [.int i t]) Q E s :=
  chr_of_range h0 h1 (h _ _ (Kp.tok s _))
theorem minI {a b : Int} {t u : Tok} (hh : A.handled = none) (h : ∀ t s', Kp s s' → Q (.int (if b < a then b else a) t) s') : wpAny (model prog w) A (call (.builtin "min") [.int a t, .int b u]) Q E s := by
  refine min_two_ints hh fun h' tk hk => ?_
  by_cases hc : b < a
  · rw [if_pos hc]; have := h u _ (Kp.of (tk := tk) hk); rwa [if_pos hc] at this
  · rw [if_neg hc]; have := h t _ (Kp.of (tk := tk) hk); rwa [if_neg hc] at this

theorem rep_cps (c : Nat) : ∀ (n : Nat) (acc : Array Nat), ((List.replicate n #[c]).foldl (· ++ ·) acc).toList = acc.toList ++ List.replicate n c
  | 0, acc => by simp
  | n + 1, acc => by
    rw [List.replicate_succ, List.foldl_cons, rep_cps c n]
    simp [List.replicate_succ]
/-- a letter, so many times -/
theorem mul_letter {c : Nat} {n : Int} (h0 : 0 ≤ n) (h1 : n < 1000) : (Txt.mul ⟨#[c]⟩ n).cps.toList = List.replicate n.toNat c := by
  unfold Txt.mul
  split
  · have : n = 0 := by omega
    subst this; rfl
  · split
    · rename_i h2 h3
      have e : n = 1 := by
        have hl : ((⟨#[c]⟩ : Str).length == 0) = false := rfl
        rw [hl, Bool.or_false] at h3
        exact eq_of_beq h3
      subst e; rfl
    · have := rep_cps c n.toNat #[]
      simpa using this
theorem mulS {c : Nat} {n : Int} {t u : Tok} (h0 : 0 ≤ n) (h1 : n < 1000) (h : ∀ x t s', Kp s s' → x.cps.toList = List.replicate n.toNat c → Q (.str x t) s') : wpAny (model prog w) A (binaryOp .Mult (.str ⟨#[c]⟩ t) (.int n u)) Q E s := by
  refine SB.mul ⟨?_, fun _ _ => ?_, fun _ _ => ?_⟩ fun t' k => h _ _ _ (Kp.tok s k) (mul_letter h0 h1)
  · simp only [Bool.or_eq_false_iff, decide_eq_false_iff_not]; omega
  · have : ((⟨#[c]⟩ : Str).length : Int) = 1 := rfl
    rw [this]
    have hp : (1 : Int) ≤ (2 ^ 63 - 1) / n := by
      rw [Int.le_ediv_iff_mul_le (by omega)]; omega
    omega
  · unfold Builtin.Str.tooLong
    have : (⟨#[c]⟩ : Str).length = 1 := rfl
    rw [this, sizeLine_eq]
    simp only [decide_eq_false_iff_not]; omega
end

section
variable {prog : Program} {w : World} {M : Model} {A : Around} {E : Value → Shared → Prop} {s : Shared} {env : Env}
theorem geI {a b : Int} {t u : Tok} {Q : Bool → Shared → Prop} (h : Q (decide (b ≤ a)) s) : wpAny (model prog w) A (compareOp .GtE (.int a t) (.int b u)) (fun c s₃ => wpAny (model prog w) A (truthy c) Q E s₃) E s :=
  PyProof.Rows.ge_int (wpAny_truthy_bool h)
theorem ltI {a b : Int} {t u : Tok} {Q : Bool → Shared → Prop} (h : Q (decide (a < b)) s) : wpAny (model prog w) A (compareOp .Lt (.int a t) (.int b u)) (fun c s₃ => wpAny (model prog w) A (truthy c) Q E s₃) E s :=
  PyProof.Rows.lt_int (wpAny_truthy_bool h)

/-- l.append, of a list that the frame has made -/
theorem getApp {s₀ : Shared} {m cm : Str → Option Value} {k₁ k₂ : List (Addr × Obj)} {l : Addr} {items : Array Value} {n : Nat} {pl : Sem Bool} {Q : Value × List Value → Shared → Prop} (F : Fm s₀ env m cm (k₁ ++ (l, lo items n) :: k₂) s)
    (h : Q (.builtin "list.append", [.ref l]) s) : wpAny M A (getMethod (.ref l) (Str.ofString "append") pl) Q E s :=
  getMethod_list_append (F.get (List.mem_append_right _ (.head _))) rfl rfl h
theorem doApp {s₀ : Shared} {m cm : Str → Option Value} {k₁ k₂ : List (Addr × Obj)} {l : Addr} {items : Array Value} {n : Nat} {x : Value} {Q : Value → Shared → Prop} (F : Fm s₀ env m cm (k₁ ++ (l, lo items n) :: k₂) s) (hsz : items.size ≤ sizeLine)
    (h : ∀ n' s', Fm s₀ env m cm (k₁ ++ (l, lo (items.push x) n') :: k₂) s' → Q .none s') : wpAny (model prog w) A (call (.builtin "list.append") [.ref l, x]) Q E s :=
  wpAny_list_append_plain ⟨n, F.get (List.mem_append_right _ (.head _))⟩ (fun h' hl hs => let ⟨n', e⟩ := hl; h n' _ (Fm.upd (tk := s.toks) F hs.extBut e)) hsz
end
end Mine

namespace Mine

noncomputable def loopAt (w : World) (f : Addr) (i : Nat) : List Stmt := match (bodyAt w f).drop i with
  | .For _ _ b _ _ :: _ => b
  | _ => []

def PcIn (pk : List (Addr × Obj)) (v : Value) (p : Pc) : Prop := ∃ a kv wv n, v = .ref a ∧ (a, lo #[kv, wv] n) ∈ pk ∧ PcIs p kv wv
theorem PcIn.more {pk pk' : List (Addr × Obj)} (h : ∀ q ∈ pk, q ∈ pk') {v : Value} {p : Pc} (x : PcIn pk v p) : PcIn pk' v p := let ⟨a, kv, wv, n, e, hm, r⟩ := x; ⟨a, kv, wv, n, e, h _ hm, r⟩
theorem PcIn.at {s₀ s : Shared} {env : Env} {m cm : Str → Option Value} {ks pk : List (Addr × Obj)} (F : Fm s₀ env m cm ks s) (h : ∀ q ∈ pk, q ∈ ks) {v : Value} {p : Pc} (x : PcIn pk v p) : PcAt s.heap v p :=
  let ⟨a, kv, wv, n, e, hm, r⟩ := x; ⟨a, kv, wv, e, ⟨_, F.get (h _ hm), rfl, n, rfl⟩, r⟩

def J29 (aS aI a0 a1 a2 a3 : Addr) (nI : Nat) (i : Nat) (m cm : Str → Option Value) (ks : List (Addr × Obj)) : Prop := ∃ (vs0 vs1 vs2 vs3 : List Value) (n0 n1 n2 n3 : Nat) (ins : Nat → List Pc) (pk : List (Addr × Obj)),
  ks = (aI, lo #[.ref a0, .ref a1, .ref a2, .ref a3] nI) :: (a0, lo vs0.toArray n0) :: (a1, lo vs1.toArray n1) :: (a2, lo vs2.toArray n2) :: (a3, lo vs3.toArray n3) :: pk ∧
  m (Str.ofString "script") = some (.ref aS) ∧ m (Str.ofString "inside") = some (.ref aI) ∧
  Paired (PcIn pk) vs0 (ins 0) ∧ Paired (PcIn pk) vs1 (ins 1) ∧ Paired (PcIn pk) vs2 (ins 2) ∧ Paired (PcIn pk) vs3 (ins 3) ∧
  (∀ k, ∀ p ∈ ins k, OkPc p) ∧ (∀ p ∈ ins 3, ∃ k, k < 3 ∧ p = .thing k) ∧ ∀ k, (ins k).length ≤ if k = 3 then 2 else 1 + i

section
variable {prog : Program} {w : World} {A : Around}

/-- script[:63] and its like hold ints -/
theorem ints_pick {items : Array Value} {lo hi st : Option Int} (h : AllInts items) : AllInts (slicePick items lo hi st) := fun v hv => h v (slicePick_mem hv)

set_option maxHeartbeats 4000000 in
theorem piece29 {s₀ s' : Shared} {L : Addr} {E : Value → Shared → Prop} {m cm : Str → Option Value} {ks : List (Addr × Obj)} {X : Int} {tx tl : Tok} (F : Fm s₀ (ev w 29 L) m cm ks s') (G : Gd w s₀.heap) (hh : A.handled = none)
    (hx : m (Str.ofString "x") = some (.int X tx)) (hl : m (Str.ofString "left") = some (.int (X / 9) tl)) (Q : Flow → Shared → Prop) (rest : List Stmt)
    (hQ : ∀ a kv wv n p s'', PcIs p kv wv → OkPc p → Fm s₀ (ev w 29 L) (fun y => if y = Str.ofString "piece" then some (.ref a) else m y) cm ((a, lo #[kv, wv] n) :: ks) s'' → wpAny (model prog w) A (execs ((loopAt w 29 3).drop 3) (ev w 29 L)) Q E s'') :
    wpAny (model prog w) A (execs ((loopAt w 29 3).drop 2) (ev w 29 L)) Q E s' := by
  refine execs_join (fun s'' => ∃ a kv wv n p, PcIs p kv wv ∧ OkPc p ∧ Fm s₀ (ev w 29 L) (fun y => if y = Str.ofString "piece" then some (.ref a) else m y) cm ((a, lo #[kv, wv] n) :: ks) s'') ?_ ?_
  rotate_left
  · rintro s'' ⟨a, kv, wv, n, p, h1, h2, h3⟩
    exact hQ a kv wv n p s'' h1 h2 h3
  refine wpAny_If (wpAny_isTrue_Compare1 (wpAny_BinOp (wpAny_BinOp (nmL F hx (cInt fun t1 s1 K1 => divI (by decide) (by decide) fun t2 s2 K2 => cInt fun t3 s3 K3 => modI (by decide) fun t4 s4 K4 => cInt fun t5 s5 K5 => eqI ?_)))))
  have F5 := F.ext ((((K1.trans K2).trans K3).trans K4).trans K5)
  clear F K1 K2 K3 K4 K5
  have fin : ∀ {kv wv : Value} {p : Pc} {s7 s8 : Shared} {a : Addr} {Q' : Unit → Shared → Prop}, PcIs p kv wv → OkPc p → Kp s5 s7 → Kp s7 s8 → s7.heap.get? a = none → s8.heap.PlainList a [kv, wv].toArray →
      (∀ s9, (∃ a kv wv n p, PcIs p kv wv ∧ OkPc p ∧ Fm s₀ (ev w 29 L) (fun y => if y = Str.ofString "piece" then some (Value.ref a) else m y) cm ((a, lo #[kv, wv] n) :: ks) s9) → Q' () s9) →
      wpAny (model prog w) A (storeName (ev w 29 L) (Str.ofString "piece") (.ref a)) Q' E s8 := by
    intro kv wv p s7 s8 a Q' h1 h2 K1 K2 hn hp hq
    obtain ⟨n, hg⟩ := hp
    exact stL ((F5.ext K1).new K2 hn hg) fun s9 F9 => hq s9 ⟨a, kv, wv, n, p, h1, h2, F9⟩
  by_cases h0 : X / 3 % 3 = 0
  · rw [if_pos (by simpa using h0)]
    refine wpAny_execs_cons (wpAny_Assign_Name (endL (arK (cStr fun t6 s6 K6 => arB (wpAny_BinOp (nmL (F5.ext K6) hl (cInt fun t7 s7 K7 => modI (by decide) fun t8 s8 K8 => args_nil ⟨by show 2 ≤ sizeLine; decide, fun a s9 K9 hn hp => ?_⟩)))))))
    have e : X / 9 % 4 = (((X / 9 % 4).toNat : Nat) : Int) := by omega
    rw [e] at hp
    exact fin (p := .thing (X / 9 % 4).toNat) ⟨⟨_, rfl⟩, ⟨_, rfl⟩⟩ (by show (X / 9 % 4).toNat < 4; omega) ((K6.trans K7).trans K8) K9 hn hp fun s9 h9 => wpAny_execs_nil ⟨rfl, h9⟩
  · rw [if_neg (by simpa using h0)]
    refine wpAny_execs_cons (wpAny_If (wpAny_isTrue_Compare1 (wpAny_BinOp (wpAny_BinOp (nmL F5 hx (cInt fun t1 s1 K1 => divI (by decide) (by decide) fun t2 s2 K2 => cInt fun t3 s3 K3 => modI (by decide) fun t4 s4 K4 => cInt fun t5 s6 K5 => eqI ?_))))))
    have K6 := (((K1.trans K2).trans K3).trans K4).trans K5
    clear K1 K2 K3 K4 K5
    by_cases h1 : X / 3 % 3 = 1
    · rw [if_pos (by simpa using h1)]
      have hp90 : (0 : Int) < 10 ^ 90 := by rw [p90]; decide
      have hp90' : ((10 ^ 90 : Nat) : Int) = 10 ^ 90 := by decide +kernel
      refine wpAny_execs_cons (wpAny_Assign_Name (endL (arK (cStr fun t6 s7 K7 => arI (wpAny_IfExp (wpAny_isTrue_Compare1 (nmL (F5.ext (K6.trans K7)) hl (cInt fun t8 s8 K8 => geI ?_))))))))
      have F8 := F5.ext ((K6.trans K7).trans K8)
      by_cases hg : 0 ≤ X / 9
      · rw [if_pos (by simpa using hg)]
        refine wpAny_BinOp (nmL F8 hl (wpAny_BinOp (cInt fun t9 s9 K9 => cInt fun t10 s10 K10 => pow90 fun t11 s11 K11 => mod90 fun t12 s12 K12 => args_nil ⟨by show 2 ≤ sizeLine; decide, fun a s13 K13 hn hp => ?_⟩)))
        refine fin (p := .num (X / 9 % 10 ^ 90)) ⟨⟨_, rfl⟩, ⟨_, rfl⟩⟩ ?_ ((((((K6.trans K7).trans K8).trans K9).trans K10).trans K11).trans K12) K13 hn hp fun s9 h9 => wpAny_execs_nil (wpAny_execs_nil ⟨rfl, h9⟩)
        have := Int.emod_nonneg (X / 9) (Int.ne_of_gt hp90)
        have := Int.emod_lt_of_pos (X / 9) hp90
        show (X / 9 % 10 ^ 90).natAbs < 10 ^ 90
        generalize X / 9 % 10 ^ 90 = y at *
        rw [← hp90'] at *
        generalize (10 ^ 90 : Nat) = z at *
        omega
      · rw [if_neg (by simpa using hg)]
        refine wpAny_UnaryOp (wpAny_BinOp (wpAny_UnaryOp (nmL F8 hl (negI fun t9 s9 K9 => wpAny_BinOp (cInt fun t10 s10 K10 => cInt fun t11 s11 K11 => pow90 fun t12 s12 K12 => mod90 fun t13 s13 K13 => negI fun t14 s14 K14 => args_nil ⟨by show 2 ≤ sizeLine; decide, fun a s15 K15 hn hp => ?_⟩)))))
        refine fin (p := .num (-(-(X / 9) % 10 ^ 90))) ⟨⟨_, rfl⟩, ⟨_, rfl⟩⟩ ?_ ((((((((K6.trans K7).trans K8).trans K9).trans K10).trans K11).trans K12).trans K13).trans K14) K15 hn hp fun s9 h9 => wpAny_execs_nil (wpAny_execs_nil ⟨rfl, h9⟩)
        have := Int.emod_nonneg (-(X / 9)) (Int.ne_of_gt hp90)
        have := Int.emod_lt_of_pos (-(X / 9)) hp90
        show (-(-(X / 9) % 10 ^ 90)).natAbs < 10 ^ 90
        generalize -(X / 9) % 10 ^ 90 = y at *
        rw [← hp90'] at *
        generalize (10 ^ 90 : Nat) = z at *
        omega
    · rw [if_neg (by simpa using h1)]
      have F6 := F5.ext K6
      refine wpAny_execs_cons (wpAny_Assign_Name (endL (arK (cStr fun t6 s7 K7 => arB (wpAny_BinOp (Call_ (nmB (G.keeps (F6.ext K7).keep) (by rfl) bchr (cbB (by rfl) (arB (wpAny_BinOp (cInt fun t8 s8 K8 => wpAny_BinOp (wpAny_BinOp (nmL (F6.ext (K7.trans K8)) hl (cInt fun t9 s9 K9 => divI (by decide) (by decide) fun t10 s10 K10 =>
        cInt fun t11 s11 K11 => modI (by decide) fun t12 s12 K12 => addI fun t13 s13 K13 => args_nil (chrI (by omega) (by omega) fun t14 s14 K14 => ?_)))))))))))))))
      have K := ((((((K7.trans K8).trans K9).trans K10).trans K11).trans K12).trans K13).trans K14
      refine wpAny_BinOp (nmL (F6.ext K) hl (cInt fun t15 s15 K15 => modI (by decide) fun t16 s16 K16 => mulS (by omega) (by omega) fun x t17 s17 K17 hrep => args_nil ⟨by show 2 ≤ sizeLine; decide, fun a s18 K18 hn hp => ?_⟩))
      refine fin (p := .txt x) ⟨⟨_, rfl⟩, ⟨_, rfl⟩⟩ ⟨?_, ?_⟩ ((((K6.trans K).trans K15).trans K16).trans K17) K18 hn hp fun s9 h9 => wpAny_execs_nil (wpAny_execs_nil ⟨rfl, h9⟩)
      · have : x.length = x.cps.toList.length := by simp [Str.length]
        rw [this, hrep, List.length_replicate]; omega
      · intro c hc
        rw [hrep] at hc
        have := List.eq_of_mem_replicate hc
        omega
end
end Mine

namespace Mine

theorem PcIn.paired {pk pk' : List (Addr × Obj)} (h : ∀ q ∈ pk, q ∈ pk') {vs : List Value} {ps : List Pc} (x : Paired (PcIn pk) vs ps) : Paired (PcIn pk') vs ps := x.mono fun _ _ y => y.more h

section
variable {prog : Program} {w : World} {A : Around}

set_option maxHeartbeats 4000000 in
theorem turn29 {s₀ s' : Shared} {L I aS aI a0 a1 a2 a3 : Addr} {oI : Obj} {nI i : Nat} {t : Tok} {E : Value → Shared → Prop} {m cm : Str → Option Value} {ks : List (Addr × Obj)} {items : Array Value} {Q : Flow → Shared → Prop}
    (hi : i < 8) (hS : s₀.heap.IsList aS items) (hall : AllInts items) (hsz : items.size ≤ sizeLine) (G : Gd w s₀.heap) (hh : A.handled = none)
    (hJ : J29 aS aI a0 a1 a2 a3 nI i m cm ks) (F : Fm s₀ (ev w 29 L) m cm ((I, oI) :: ks) s')
    (hQ : ∀ m' cm' ks' s'', J29 aS aI a0 a1 a2 a3 nI (i + 1) m' cm' ks' → Fm s₀ (ev w 29 L) m' cm' ((I, oI) :: ks') s'' → Q .next s'') :
    wpAny (model prog w) A (storeName (ev w 29 L) (Str.ofString "k") (.int (i : Nat) t)) (fun _ s₂ => wpAny (model prog w) A (execs (loopAt w 29 3) (ev w 29 L)) Q E s₂) E s' := by
  obtain ⟨vs0, vs1, vs2, vs3, n0, n1, n2, n3, ins, pk, rfl, hms, hmi, P0, P1, P2, P3, hok, hok3, hlen⟩ := hJ
  refine stL F fun s1 F1 => ?_
  clear F
  have e1 : (if Str.ofString "script" = Str.ofString "k" then some (Value.int (i : Int) t) else m (Str.ofString "script")) = some (.ref aS) := by rw [if_neg (by decide)]; exact hms
  -- x = sum(script[:63][k::8])
  refine wpAny_execs_cons (wpAny_Assign_Name (Call_ (nmB (G.keeps F1.keep) (by rfl) bsum' (cbS (by rfl) (arS (subSl (subSl (nmL F1 e1 ?_) (subSl_two _ _ _)) (subSl_three _ _ _ _)))))))
  refine evN (evS (cInt fun t2 s2 K2 => evN ⟨aS, items, _, _, _, rfl, isList_keeps (F1.ext K2).keep hS, hsz, .none, .int _ _, .none, by simp, fun b1 s3 K3 hb1 hl1 => ?_⟩))
  refine evS (nmL (F1.ext (K2.trans K3)) rfl (evN (evS (cInt fun t4 s4 K4 => ⟨b1, _, _, _, _, rfl, isList_kp K4 hl1, Nat.le_trans (slicePick_le _ _ _ _) hsz, .int _ _, .none, .int _ _, by simp, fun b2 s5 K5 hb2 hl2 => args_nil (sumL hh hl2 (ints_pick (ints_pick hall)) fun X tx s6 K6 => ?_)⟩))))
  refine stL (F1.ext ((((K2.trans K3).trans K4).trans K5).trans K6)) fun s7 F7 => ?_
  clear F1 K2 K3 K4 K5 K6 hl1 hl2
  dsimp only
  -- left = x // 9
  refine wpAny_execs_cons (wpAny_Assign_Name (wpAny_BinOp (nmL F7 rfl (cInt fun t8 s8 K8 => divI (by decide) (by decide) fun t9 s9 K9 => stL (F7.ext (K8.trans K9)) fun s10 F10 => ?_))))
  clear F7 K8 K9
  dsimp only
  refine piece29 F10 G hh (by rfl) (by rfl) _ [] fun a kv wv n p s11 hpc hokp F11 => ?_
  clear F10
  have hmi' : (if Str.ofString "inside" = Str.ofString "piece" then some (Value.ref a) else if Str.ofString "inside" = Str.ofString "left" then some (Value.int (X / 9) t9) else if Str.ofString "inside" = Str.ofString "x" then some (Value.int X tx)
      else if Str.ofString "inside" = Str.ofString "k" then some (Value.int (i : Int) t) else m (Str.ofString "inside")) = some (.ref aI) := by
    rw [if_neg (by decide), if_neg (by decide), if_neg (by decide), if_neg (by decide)]; exact hmi
  have hms' : (if Str.ofString "script" = Str.ofString "piece" then some (Value.ref a) else if Str.ofString "script" = Str.ofString "left" then some (Value.int (X / 9) t9) else if Str.ofString "script" = Str.ofString "x" then some (Value.int X tx)
      else if Str.ofString "script" = Str.ofString "k" then some (Value.int (i : Int) t) else m (Str.ofString "script")) = some (.ref aS) := by
    rw [if_neg (by decide), if_neg (by decide), if_neg (by decide), if_neg (by decide)]; exact hms
  have hpm : (if Str.ofString "piece" = Str.ofString "piece" then some (Value.ref a) else if Str.ofString "piece" = Str.ofString "left" then some (Value.int (X / 9) t9) else if Str.ofString "piece" = Str.ofString "x" then some (Value.int X tx)
      else if Str.ofString "piece" = Str.ofString "k" then some (Value.int (i : Int) t) else m (Str.ofString "piece")) = some (.ref a) := by rw [if_pos rfl]
  have hxm : (if Str.ofString "x" = Str.ofString "piece" then some (Value.ref a) else if Str.ofString "x" = Str.ofString "left" then some (Value.int (X / 9) t9) else if Str.ofString "x" = Str.ofString "x" then some (Value.int X tx)
      else if Str.ofString "x" = Str.ofString "k" then some (Value.int (i : Int) t) else m (Str.ofString "x")) = some (.int X tx) := by rw [if_neg (by decide), if_neg (by decide), if_pos rfl]
  revert hmi' hms' F11 hpm hxm
  generalize hm' : (fun y => if y = Str.ofString "piece" then some (Value.ref a) else if y = Str.ofString "left" then some (Value.int (X / 9) t9) else if y = Str.ofString "x" then some (Value.int X tx)
      else if y = Str.ofString "k" then some (Value.int (i : Int) t) else m y) = m'
  intro F11 hmi' hms' hpm hxm
  have hmi' : m' (Str.ofString "inside") = some (.ref aI) := by rw [← hm']; exact hmi'
  have hms' : m' (Str.ofString "script") = some (.ref aS) := by rw [← hm']; exact hms'
  have hpm : m' (Str.ofString "piece") = some (.ref a) := by rw [← hm']; exact hpm
  have hxm : m' (Str.ofString "x") = some (.int X tx) := by rw [← hm']; exact hxm
  clear hm'
  have hin : PcIn ((a, lo #[kv, wv] n) :: pk) (.ref a) p := ⟨a, kv, wv, n, rfl, .head _, hpc⟩
  have up : ∀ {vs : List Value} {ps : List Pc}, Paired (PcIn pk) vs ps → Paired (PcIn ((a, lo #[kv, wv] n) :: pk)) vs ps := fun h => PcIn.paired (fun q hq => .tail _ hq) h
  have hlen' : ∀ j k, j < 3 → (if k = j then ins k ++ [p] else ins k).length ≤ if k = 3 then 2 else 1 + (i + 1) := by
    intro j k hj
    have := hlen k
    by_cases h3 : k = 3
    · rw [if_pos h3] at this ⊢; rw [if_neg (by omega)]; exact this
    · rw [if_neg h3] at this ⊢
      split
      · rw [List.length_append, List.length_singleton]; omega
      · omega
  have hok' : ∀ j, ∀ k, ∀ q ∈ (if k = j then ins k ++ [p] else ins k), OkPc q := by
    intro j k q hq
    split at hq
    · rcases List.mem_append.mp hq with hq | hq
      · exact hok k q hq
      · rw [List.mem_singleton.mp hq]; exact hokp
    · exact hok k q hq
  have hfit : ∀ {vs : List Value} {k : Nat}, Paired (PcIn pk) vs (ins k) → vs.toArray.size ≤ sizeLine := by
    intro vs k hp
    have h1 := hp.length
    have h2 := hlen k
    rw [sizeLine_eq, List.size_toArray]
    split at h2 <;> omega
  refine wpAny_execs_cons (wpAny_Expr ?_)
  refine meth ?_ ?mb ?mf ?mp
  case mb => exact baseSub _ _ _ _ _
  case mf => exact form1N _ _ _ _
  case mp => rfl
  refine Subscript_ (nmL F11 hmi' (wpAny_BinOp (nmL F11 hxm (cInt fun t12 s12 K12 => modI (by decide) fun t13 s13 K13 => ?_))))
  have F13 := F11.ext (K12.trans K13)
  clear F11 K12 K13
  have LI : s13.heap.IsList aI #[.ref a0, .ref a1, .ref a2, .ref a3] := ⟨_, F13.get (.tail _ (.tail _ (.head _))), rfl, _, rfl⟩
  have hj : X % 3 = 0 ∨ X % 3 = 1 ∨ X % 3 = 2 := by omega
  rcases hj with hj | hj | hj
  · rw [hj]
    refine itemL (k := 0) LI rfl (by decide) ?_
    refine getApp (k₁ := [(a, lo #[kv, wv] n), (I, oI), (aI, lo #[.ref a0, .ref a1, .ref a2, .ref a3] nI)]) F13 ?_
    refine cmN (by rfl) (arN (nmL F13 hpm (args_nil ?_)))
    refine doApp (k₁ := [(a, lo #[kv, wv] n), (I, oI), (aI, lo #[.ref a0, .ref a1, .ref a2, .ref a3] nI)]) F13 (hfit P0) fun n' s14 F14 => ?_
    rw [show vs0.toArray.push (Value.ref a) = (vs0 ++ [Value.ref a]).toArray by simp] at F14
    refine wpAny_execs_nil (hQ m' cm _ s14 ⟨vs0 ++ [.ref a], vs1, vs2, vs3, n', n1, n2, n3, fun k => if k = 0 then ins k ++ [p] else ins k, (a, lo #[kv, wv] n) :: pk, rfl, hms', hmi', Paired.snoc (up P0) hin, up P1, up P2, up P3, hok' 0, hok3, fun k => hlen' 0 k (by decide)⟩ (F14.perm ?_))
    exact List.perm_middle (l₁ := [_, _, _, _, _, _])
  · rw [hj]
    refine itemL (k := 1) LI rfl (by decide) ?_
    refine getApp (k₁ := [(a, lo #[kv, wv] n), (I, oI), (aI, lo #[.ref a0, .ref a1, .ref a2, .ref a3] nI), (a0, lo vs0.toArray n0)]) F13 ?_
    refine cmN (by rfl) (arN (nmL F13 hpm (args_nil ?_)))
    refine doApp (k₁ := [(a, lo #[kv, wv] n), (I, oI), (aI, lo #[.ref a0, .ref a1, .ref a2, .ref a3] nI), (a0, lo vs0.toArray n0)]) F13 (hfit P1) fun n' s14 F14 => ?_
    rw [show vs1.toArray.push (Value.ref a) = (vs1 ++ [Value.ref a]).toArray by simp] at F14
    refine wpAny_execs_nil (hQ m' cm _ s14 ⟨vs0, vs1 ++ [.ref a], vs2, vs3, n0, n', n2, n3, fun k => if k = 1 then ins k ++ [p] else ins k, (a, lo #[kv, wv] n) :: pk, rfl, hms', hmi', up P0, Paired.snoc (up P1) hin, up P2, up P3, hok' 1, hok3, fun k => hlen' 1 k (by decide)⟩ (F14.perm ?_))
    exact List.perm_middle (l₁ := [_, _, _, _, _, _])
  · rw [hj]
    refine itemL (k := 2) LI rfl (by decide) ?_
    refine getApp (k₁ := [(a, lo #[kv, wv] n), (I, oI), (aI, lo #[.ref a0, .ref a1, .ref a2, .ref a3] nI), (a0, lo vs0.toArray n0), (a1, lo vs1.toArray n1)]) F13 ?_
    refine cmN (by rfl) (arN (nmL F13 hpm (args_nil ?_)))
    refine doApp (k₁ := [(a, lo #[kv, wv] n), (I, oI), (aI, lo #[.ref a0, .ref a1, .ref a2, .ref a3] nI), (a0, lo vs0.toArray n0), (a1, lo vs1.toArray n1)]) F13 (hfit P2) fun n' s14 F14 => ?_
    rw [show vs2.toArray.push (Value.ref a) = (vs2 ++ [Value.ref a]).toArray by simp] at F14
    refine wpAny_execs_nil (hQ m' cm _ s14 ⟨vs0, vs1, vs2 ++ [.ref a], vs3, n0, n1, n', n3, fun k => if k = 2 then ins k ++ [p] else ins k, (a, lo #[kv, wv] n) :: pk, rfl, hms', hmi', up P0, up P1, Paired.snoc (up P2) hin, up P3, hok' 2, hok3, fun k => hlen' 2 k (by decide)⟩ (F14.perm ?_))
    exact List.perm_middle (l₁ := [_, _, _, _, _, _])
end
end Mine

namespace Mine
section
variable {prog : Program} {w : World} {A : Around} {E : Value → Shared → Prop} {s₀ s : Shared} {env : Env} {m cm : Str → Option Value} {ks : List (Addr × Obj)}

/-- [['thing', i]], i written -/
theorem disT {x : Str} {i : Int} {k1 k2 : Nat} {p1 p2 p3 pos : Pos} {Q : Value → Shared → Prop} (F : Fm s₀ env m cm ks s)
    (h : ∀ a b n n' t t' s', Kp s s' → Fm s₀ env m cm ((a, lo #[.ref b] n) :: (b, lo #[.str x t, .int i t'] n') :: ks) s' → Q (.ref a) s') :
    wpAny (model prog w) A (eval (.List [.List [.Constant (.str x) k1 p1, .Constant (.int i) k2 p2] p3] pos) env) Q E s := by
  refine endL (arL (endL (arK (cStr fun t1 s1 K1 => arK (cInt fun t2 s2 K2 => args_nil ⟨by show 2 ≤ sizeLine; decide, fun b s3 K3 hb hbl => args_nil ⟨by show 1 ≤ sizeLine; decide, fun a s4 K4 ha hal => ?_⟩⟩)))))
  obtain ⟨n', hbl⟩ := hbl
  obtain ⟨n, hal⟩ := hal
  exact h a b n n' t1 t2 s4 (((K1.trans K2).trans K3).trans K4) ((((F.ext (K1.trans K2)).new K3 hb hbl)).new K4 ha hal)

theorem perm9 {α : Type} (I a0 a1 a2 a3 b3 b2 b1 b0 : α) : [I, a0, a1, a2, a3, b3, b2, b1, b0].Perm [I, a3, b3, a2, b2, a1, b1, a0, b0] := by
  refine List.Perm.cons _ (List.Perm.symm ?_)
  exact (List.perm_middle (l₁ := [a3, b3, a2, b2, a1, b1])).trans (List.Perm.cons _ ((List.perm_middle (l₁ := [a3, b3, a2, b2])).trans (List.Perm.cons _ (List.perm_middle (l₁ := [a3, b3])))))

/-- the pieces as they stand ahead of the loop -/
def ins0 (c : Nat) (more : List Pc) : Nat → List Pc := fun k => if k = 0 then [.thing 1] else if k = 1 then [.thing 2] else if k = 2 then [.thing 3] else if k = 3 then .thing c :: more else []
theorem ins0_three {c : Nat} {more : List Pc} (hc : c < 3) (hm : ∀ p ∈ more, ∃ k, k < 3 ∧ p = Pc.thing k) : ∀ p ∈ ins0 c more 3, ∃ k, k < 3 ∧ p = Pc.thing k := by
  intro p hp
  rcases List.mem_cons.mp (show p ∈ Pc.thing c :: more from hp) with rfl | hp
  · exact ⟨c, hc, rfl⟩
  · exact hm p hp
theorem ins0_ok {c : Nat} {more : List Pc} (hc : c < 3) (hm : ∀ p ∈ more, ∃ k, k < 3 ∧ p = Pc.thing k) : ∀ k, ∀ p ∈ ins0 c more k, OkPc p := by
  intro k p hp
  unfold ins0 at hp
  split at hp
  · rw [List.mem_singleton.mp hp]; show 1 < 4; decide
  · split at hp
    · rw [List.mem_singleton.mp hp]; show 2 < 4; decide
    · split at hp
      · rw [List.mem_singleton.mp hp]; show 3 < 4; decide
      · split at hp
        · rcases List.mem_cons.mp hp with rfl | hp
          · show c < 4; omega
          · obtain ⟨j, hj, rfl⟩ := hm p hp
            show j < 4; omega
        · cases hp
theorem ins0_len {c : Nat} {more : List Pc} (hm : more.length ≤ 1) : ∀ k, (ins0 c more k).length ≤ if k = 3 then 2 else 1 + 0 := by
  intro k
  unfold ins0
  (repeat' split) <;> simp_all <;> omega

set_option maxHeartbeats 4000000 in
theorem call29 {s : Shared} {Q : Value → Shared → Prop} {aS : Addr} {items : Array Value} (G : Gd w s.heap) (hh : A.handled = none) (hd : A.depth < 900) (hS : s.heap.IsList aS items) (hall : AllInts items) (hsz : items.size ≤ 16777216)
    (hQ : ∀ v s' ins, Kp s s' → OkIns ins → (∀ p ∈ ins 3, ∃ k, k < 3 ∧ p = Pc.thing k) → InsAt s'.heap v ins → Q v s') :
    wpAny (model prog w) A (call (.ref 29) [.ref aS]) Q E s := by
  have hsz' : items.size ≤ sizeLine := by rw [sizeLine_eq]; exact hsz
  refine callF (binds := [(Str.ofString "script", .ref aS)]) G (Nat.lt_of_lt_of_le hd (by decide)) rfl rfl rfl rfl rfl rfl rfl ?_
  intro s₁ F G₁
  -- total = sum(script[:63])
  refine wpAny_execs_cons (wpAny_Assign_Name (Call_ (nmB G₁ (by rfl) bsum' (cbS (by rfl) (arS (subSl (nmL F rfl ?_) (subSl_two _ _ _)))))))
  refine evN (evS (cInt fun t2 s2 K2 => evN ⟨aS, items, _, _, _, rfl, isList_keeps (F.ext K2).keep hS, hsz', .none, .int _ _, .none, by simp, fun b1 s3 K3 hb1 hl1 => ?_⟩))
  refine args_nil (sumL hh hl1 (ints_pick hall) fun T tt s4 K4 => stL (F.ext ((K2.trans K3).trans K4)) fun s5 F5 => ?_)
  clear F hl1 K2 K3 K4
  dsimp only
  -- inside = [[['thing', 1]], [['thing', 2]], [['thing', 3]], [['thing', total % 3]]]
  refine wpAny_execs_cons ?_
  refine wpAny_Assign_Name ?_
  with_reducible refine endL ?_
  with_reducible refine arL ?_
  with_reducible refine disT F5 fun a0 b0 n0 m0 u0 v0 s6 K6 F6 => ?_
  with_reducible refine arL ?_
  with_reducible refine disT F6 fun a1 b1 n1 m1 u1 v1 s7 K7 F7 => ?_
  with_reducible refine arL ?_
  with_reducible refine disT F7 fun a2 b2 n2 m2 u2 v2 s8 K8 F8 => ?_
  with_reducible refine arL ?_
  with_reducible refine endL ?_
  with_reducible refine arL ?_
  with_reducible refine endL ?_
  with_reducible refine arK (cStr fun u3 s9 K9 => ?_)
  refine arB (wpAny_BinOp (nmL (F8.ext K9) rfl (cInt fun t10 s10 K10 => modI (by decide) fun v3 s11 K11 => ?_)))
  with_reducible refine args_nil ⟨le2 _ _, fun b3 s12 K12 hb3 hbl3 => ?_⟩
  with_reducible refine args_nil ⟨le1 _, fun a3 s13 K13 ha3 hal3 => ?_⟩
  with_reducible refine args_nil ⟨le4 _ _ _ _, fun aI s14 K14 haI haIl => ?_⟩
  obtain ⟨m3, hbl3⟩ := hbl3
  obtain ⟨n3, hal3⟩ := hal3
  obtain ⟨nI, haIl⟩ := haIl
  have F14 := ((((F8.ext ((K9.trans K10).trans K11)).new K12 hb3 hbl3).new K13 ha3 hal3).new K14 haI haIl)
  clear F5 F6 F7 F8 K6 K7 K8 K9 K10 K11 K12 K13 K14 hb3 ha3 haI hbl3 hal3 haIl
  refine stL F14 fun s15 F15 => ?_
  clear F14
  dsimp only
  have hT3 : T % 3 = (((T % 3).toNat : Nat) : Int) := by omega
  have hT6 : T / 6 % 3 = (((T / 6 % 3).toNat : Nat) : Int) := by omega
  refine execs_join (fun s' => ∃ m' cm' ks', J29 aS aI a0 a1 a2 a3 nI 0 m' cm' ks' ∧ Fm s (ev w 29 s.heap.objs.size) m' cm' ks' s') ?_ ?_
  · refine wpAny_If (wpAny_isTrue_Compare1 (wpAny_BinOp (wpAny_BinOp (nmL F15 rfl (cInt fun t1 s1 K1 => divI (by decide) (by decide) fun t2 s2 K2 => cInt fun t3 s3 K3 => modI (by decide) fun t4 s4 K4 => cInt fun t5 s5 K5 => eqI ?_)))))
    have F16 := F15.ext ((((K1.trans K2).trans K3).trans K4).trans K5)
    clear F15 K1 K2 K3 K4 K5
    have hb : ∀ pk : List (Addr × Obj), (b3, lo #[.str (Str.ofString "thing") u3, .int (T % 3) v3] m3) ∈ pk → (b2, lo #[.str (Str.ofString "thing") u2, .int 3 v2] m2) ∈ pk → (b1, lo #[.str (Str.ofString "thing") u1, .int 2 v1] m1) ∈ pk →
        (b0, lo #[.str (Str.ofString "thing") u0, .int 1 v0] m0) ∈ pk → PcIn pk (.ref b0) (.thing 1) ∧ PcIn pk (.ref b1) (.thing 2) ∧ PcIn pk (.ref b2) (.thing 3) ∧ PcIn pk (.ref b3) (.thing (T % 3).toNat) := by
      intro pk h3 h2 h1 h0
      refine ⟨⟨b0, _, _, m0, rfl, h0, ⟨_, rfl⟩, ⟨_, rfl⟩⟩, ⟨b1, _, _, m1, rfl, h1, ⟨_, rfl⟩, ⟨_, rfl⟩⟩, ⟨b2, _, _, m2, rfl, h2, ⟨_, rfl⟩, ⟨_, rfl⟩⟩, ⟨b3, _, _, m3, rfl, h3, ⟨_, rfl⟩, ⟨v3, by rw [← hT3]⟩⟩⟩
    have hokT : ∀ k, k < 4 → OkPc (.thing k) := fun k hk => hk
    by_cases hT : T / 3 % 2 = 0
    · rw [if_pos (by simpa using hT)]
      have LI : s5.heap.IsList aI #[.ref a0, .ref a1, .ref a2, .ref a3] := ⟨_, F16.get (.head _), rfl, _, rfl⟩
      refine wpAny_execs_cons (wpAny_Expr ?_)
      refine meth ?_ ?mb ?mf ?mp
      case mb => exact baseSub _ _ _ _ _
      case mf => exact form1L _ _ _ _
      case mp => rfl
      refine Subscript_ (nmL F16 rfl (cInt fun t6 s6 K6 => ?_))
      have F17 := F16.ext K6
      refine itemL (k := 3) (x := .ref a3) (isList_kp K6 LI) rfl (by decide) ?_
      with_reducible refine getApp (k₁ := [(aI, lo #[.ref a0, .ref a1, .ref a2, .ref a3] nI)]) F17 ?_
      refine cmL (by rfl) ?_
      with_reducible refine arL ?_
      with_reducible refine endL ?_
      with_reducible refine arK (cStr fun u4 s7 K7 => ?_)
      refine arB (wpAny_BinOp (wpAny_BinOp (nmL (F17.ext K7) rfl (cInt fun t8 s8 K8 => divI (by decide) (by decide) fun t9 s9 K9 => cInt fun t10 s10 K10 => modI (by decide) fun v4 s11 K11 => ?_))))
      with_reducible refine args_nil ⟨le2 _ _, fun b4 s12 K12 hb4 hbl4 => ?_⟩
      obtain ⟨m4, hbl4⟩ := hbl4
      have F18 := (F17.ext ((((K7.trans K8).trans K9).trans K10).trans K11)).new K12 hb4 hbl4
      clear F17 F16 K6 K7 K8 K9 K10 K11 K12
      refine args_nil ?_
      refine doApp (k₁ := [(b4, lo #[.str (Str.ofString "thing") u4, .int (T / 6 % 3) v4] m4), (aI, lo #[.ref a0, .ref a1, .ref a2, .ref a3] nI)]) F18 (by show 1 ≤ sizeLine; decide) fun n3' s13 F19 => ?_
      clear F18
      obtain ⟨q0, q1, q2, q3⟩ := hb [(b4, lo #[.str (Str.ofString "thing") u4, .int (T / 6 % 3) v4] m4), (b3, lo #[.str (Str.ofString "thing") u3, .int (T % 3) v3] m3), (b2, lo #[.str (Str.ofString "thing") u2, .int 3 v2] m2), (b1, lo #[.str (Str.ofString "thing") u1, .int 2 v1] m1), (b0, lo #[.str (Str.ofString "thing") u0, .int 1 v0] m0)]
        (.tail _ (.head _)) (.tail _ (.tail _ (.head _))) (.tail _ (.tail _ (.tail _ (.head _)))) (.tail _ (.tail _ (.tail _ (.tail _ (.head _)))))
      refine wpAny_execs_nil ⟨rfl, _, _, _, ⟨[.ref b0], [.ref b1], [.ref b2], [.ref b3, .ref b4], n0, n1, n2, n3', ins0 (T % 3).toNat [.thing (T / 6 % 3).toNat],
        [(b4, lo #[.str (Str.ofString "thing") u4, .int (T / 6 % 3) v4] m4), (b3, lo #[.str (Str.ofString "thing") u3, .int (T % 3) v3] m3), (b2, lo #[.str (Str.ofString "thing") u2, .int 3 v2] m2), (b1, lo #[.str (Str.ofString "thing") u1, .int 2 v1] m1), (b0, lo #[.str (Str.ofString "thing") u0, .int 1 v0] m0)], rfl, rfl, rfl,
        .cons q0 .nil, .cons q1 .nil, .cons q2 .nil, .cons q3 (.cons ⟨b4, _, _, m4, rfl, .head _, ⟨_, rfl⟩, ⟨v4, by rw [← hT6]⟩⟩ .nil), ?_, ?_, ?_⟩, F19.perm ?_⟩
      · exact ins0_ok (by omega) (fun p hp => by rw [List.mem_singleton.mp hp]; exact ⟨_, by omega, rfl⟩)
      · exact ins0_three (by omega) (fun p hp => by rw [List.mem_singleton.mp hp]; exact ⟨_, by omega, rfl⟩)
      · exact ins0_len (by simp)
      · exact ((perm9 _ _ _ _ _ _ _ _ _).cons _ |>.symm.trans (List.perm_middle (l₁ := [_, _, _, _, _]).symm)).symm
    · rw [if_neg (by simpa using hT)]
      obtain ⟨q0, q1, q2, q3⟩ := hb [(b3, lo #[.str (Str.ofString "thing") u3, .int (T % 3) v3] m3), (b2, lo #[.str (Str.ofString "thing") u2, .int 3 v2] m2), (b1, lo #[.str (Str.ofString "thing") u1, .int 2 v1] m1), (b0, lo #[.str (Str.ofString "thing") u0, .int 1 v0] m0)]
        (.head _) (.tail _ (.head _)) (.tail _ (.tail _ (.head _))) (.tail _ (.tail _ (.tail _ (.head _))))
      refine wpAny_execs_nil ⟨rfl, _, _, _, ⟨[.ref b0], [.ref b1], [.ref b2], [.ref b3], n0, n1, n2, n3, ins0 (T % 3).toNat [],
        [(b3, lo #[.str (Str.ofString "thing") u3, .int (T % 3) v3] m3), (b2, lo #[.str (Str.ofString "thing") u2, .int 3 v2] m2), (b1, lo #[.str (Str.ofString "thing") u1, .int 2 v1] m1), (b0, lo #[.str (Str.ofString "thing") u0, .int 1 v0] m0)], rfl, rfl, rfl,
        .cons q0 .nil, .cons q1 .nil, .cons q2 .nil, .cons q3 .nil, ?_, ?_, ?_⟩, F16.perm ?_⟩
      · exact ins0_ok (by omega) (fun p hp => by cases hp)
      · exact ins0_three (by omega) (fun p hp => by cases hp)
      · exact ins0_len (by simp)
      · exact (perm9 _ _ _ _ _ _ _ _ _)
  · rintro s16 ⟨m', cm', ks', hJ, F16⟩
    refine wpAny_execs_cons (forRange (s₀ := s) (n := if items.size < 8 then items.size else 8) hh (J29 aS aI a0 a1 a2 a3 nI) ?_ ?_ ?_)
    · obtain ⟨_, _, _, _, _, _, _, _, _, _, _, hms, hmi, _⟩ := id hJ
      have G₂ := G.keeps F16.keep
      refine Call_ (nmB G₂ (by rfl) brange (ctC (by rfl) (arC (Call_ (nmB G₂ (by rfl) bmin (cbK (by rfl) (arK (cInt fun t1 s1 K1 => ?_))))))))
      refine arC (Call_ (nmB (G₂.keeps K1.heap) (by rfl) blen (cbN (by rfl) (arN (nmL (F16.ext K1) hms (args_nil ?_))))))
      refine lenL (isList_keeps (F16.ext K1).keep hS) (by omega) fun t2 s2 K2 => args_nil (minI hh fun t3 s3 K3 => args_nil ?_)
      rw [show (if (items.size : Int) < 8 then (items.size : Int) else 8) = ((if items.size < 8 then items.size else 8 : Nat) : Int) by split <;> split <;> omega]
      refine rng1 fun r t u v s4 K4 hnr hr => ⟨r, t, u, v, m', cm', ks', rfl, hr, by split <;> omega, F16.ext (((K1.trans K2).trans K3).trans K4), hJ⟩
    · intro i t m'' cm'' ks'' s' I oI E' hi hJ' F'
      refine turn29 (by split at hi <;> omega) hS hall hsz' G hh hJ' F' fun m3 cm3 ks3 s3 hJ3 F3 => ⟨m3, cm3, ks3, hJ3, F3⟩
    · intro m'' cm'' ks'' s' hJ' F'
      obtain ⟨vs0, vs1, vs2, vs3, c0, c1, c2, c3, ins, pk, rfl, hms, hmi, P0, P1, P2, P3, hok, hok3, hlen⟩ := hJ'
      have up : ∀ {vs : List Value} {ps : List Pc}, Paired (PcIn pk) vs ps → Paired (PcAt s'.heap) vs ps := fun h => h.mono fun _ _ y => y.at F' fun q hq => .tail _ (.tail _ (.tail _ (.tail _ (.tail _ hq))))
      refine wpAny_execs_cons (wpAny_Return_some (nmL F' hmi ?_))
      refine hQ _ _ ins F'.done ⟨fun k => ?_, hok⟩ hok3 ⟨aI, .ref a0, .ref a1, .ref a2, .ref a3, rfl, ⟨_, F'.get (.head _), rfl, _, rfl⟩, ⟨a0, vs0, rfl, ⟨_, F'.get (.tail _ (.head _)), rfl, _, rfl⟩, up P0⟩, ⟨a1, vs1, rfl, ⟨_, F'.get (.tail _ (.tail _ (.head _))), rfl, _, rfl⟩, up P1⟩,
        ⟨a2, vs2, rfl, ⟨_, F'.get (.tail _ (.tail _ (.tail _ (.head _)))), rfl, _, rfl⟩, up P2⟩, ⟨a3, vs3, rfl, ⟨_, F'.get (.tail _ (.tail _ (.tail _ (.tail _ (.head _))))), rfl, _, rfl⟩, up P3⟩⟩
      have := hlen k
      split at this
      · omega
      · split at this <;> omega
end
end Mine

namespace Mine
section
variable {prog : Program} {w : World} {A : Around} {E : Value → Shared → Prop} {s : Shared} {env : Env}

set_option maxHeartbeats 1000000 in
/-- a comprehension over a list of lists of two, [e for x1, x2 in l] -/
theorem compPair {elt iter : Expr} {x1 x2 : Str} {p1 p2 tp : Pos} {tk : Nat} {scope : Scope} {cl : List (Str × Addr)} {pos : Pos} {Q : Value → Shared → Prop} (F : Value → Value → Prop)
    (hh : A.handled = none)
    (h : wpAny (model prog w) A (eval iter env) (fun xv s₁ => ∃ a vs, xv = .ref a ∧ s₁.heap.IsList a (vs : List Value).toArray ∧ vs.length ≤ sizeLine ∧
      (∀ v ∈ vs, ∃ b v1 v2, v = .ref b ∧ s₁.heap.IsList b #[v1, v2] ∧ ∀ C s₃ m₃ E', s₁.heap.objs.size ≤ C → s₃.heap.Ns C m₃ → m₃ x1 = some v1 → m₃ x2 = some v2 → (∀ b o, s₁.heap.get? b = some o → s₃.heap.get? b = some o) →
        wpAny (model prog w) A (eval elt (compEnvC scope cl C env)) (fun y s₄ => F v y ∧ Keeps s₃ s₄) E' s₃) ∧
      (∀ D ys s', Kp s₁ s' → s₁.heap.get? D = none → s'.heap.IsList D ys → Paired F vs ys.toList → Q (.ref D) s')) E s)
    (hxx : x1 ≠ x2) (hclos : closureFor scope env = pure cl := by rfl) (hcell : ∀ y ∈ scope.names, y.2 ≠ .cell := by decide) (hkind : scope.kind = .function := by rfl)
    (hnames : ∀ y ∈ scope.names, y.2 = .local → scope.names.lookup y.1 = some .local := by decide) (hx1 : scope.names.lookup x1 = some .local := by rfl) (hx2 : scope.names.lookup x2 = some .local := by rfl)
    (hs : ∀ x, foldedSetIterable iter env x = pure x := by intro _; rfl) :
    wpAny (model prog w) A (eval (.ListComp elt [⟨.Tuple [.Name x1 p1, .Name x2 p2] tk tp, iter, [], 0⟩] scope pos) env) Q E s := by
  rw [eval_ListComp]
  refine wpAny_comprehension_free (use := none) rfl hs hclos hkind hnames (wpAny_mono h (fun xv s₁ h₁ => ?_) fun _ _ e => e)
  obtain ⟨a, vs, rfl, hl, hsz, helt, hQ⟩ := h₁
  refine wpAny_pyIter_list hl (wpAny_newObj_type (hd := by size_fits) (wpAny_newFunctionEnv hcell (by intro y hy; simp at hy) (fun h₁ hns₁ hsb₁ => ?_) hkind))
  dsimp only at hns₁ hsb₁ ⊢
  obtain ⟨ol, hol, hol'⟩ := id hl
  have hax : a < s₁.heap.objs.size := Heap.lt_size hol
  generalize hH1 : s₁.heap.push { cls := .type "list_iterator", data := .fields #[.ref a, .int 0 0] } = H1 at hns₁ hsb₁ ⊢
  have hD : H1.objs.size = s₁.heap.objs.size + 1 := by rw [← hH1, Heap.size_push]
  generalize hH2 : H1.push { cls := .type "list", dict := none, data := .seq ([] : List Value).toArray } = H2 at hns₁ hsb₁ ⊢
  have hC : H2.objs.size = s₁.heap.objs.size + 2 := by rw [← hH2, Heap.size_push, hD]
  have hDI : H1.objs.size ≠ s₁.heap.objs.size := by rw [hD]; exact Nat.succ_ne_self _
  have hDC : H1.objs.size ≠ H2.objs.size := by rw [hD, hC]; exact Nat.ne_of_lt (Nat.lt_succ_self _)
  have hIC : s₁.heap.objs.size ≠ H2.objs.size := by rw [hC]; exact Nat.ne_of_lt (Nat.lt_succ_of_lt (Nat.lt_succ_self _))
  have below : ∀ b, b < s₁.heap.objs.size → b ≠ H2.objs.size ∧ b ≠ s₁.heap.objs.size ∧ b ≠ H1.objs.size := fun b hb =>
    ⟨by rw [hC]; exact Nat.ne_of_lt (Nat.lt_succ_of_lt (Nat.lt_succ_of_lt hb)), Nat.ne_of_lt hb, by rw [hD]; exact Nat.ne_of_lt (Nat.lt_succ_of_lt hb)⟩
  have old : ∀ b o, s₁.heap.get? b = some o → h₁.get? b = some o := fun b o e =>
    hsb₁.extBut b o (below b (Heap.lt_size e)).1 (Heap.get?_push_of_some _ (hH2 ▸ Heap.get?_push_of_some _ (hH1 ▸ Heap.get?_push_of_some _ e)))
  have hit : h₁.IsListIter s₁.heap.objs.size a 0 :=
    ⟨_, hsb₁.extBut _ _ hIC (Heap.get?_push_of_some _ (hH2 ▸ Heap.get?_push_of_some _ (hH1 ▸ Heap.get?_push_size _ rfl))), rfl, rfl⟩
  have hacc : h₁.PlainList H1.objs.size #[] := ⟨_, hsb₁.extBut _ _ hDC (Heap.get?_push_of_some _ (hH2 ▸ Heap.get?_push_size _ rfl))⟩
  have hnew : s₁.heap.get? H1.objs.size = none := by
    cases e : s₁.heap.get? H1.objs.size with
    | none => rfl
    | some o' => have := Heap.lt_size e; rw [hD] at this; exact absurd this (Nat.not_lt.mpr (Nat.le_succ _))
  have hCle : s₁.heap.objs.size ≤ H2.objs.size := by rw [hC]; exact Nat.le_add_right _ _
  have loop : ∀ s₂ : Shared, s₂ = { s₁ with heap := h₁, toks := s₁.toks + ([] : List (Str × Value)).length } →
      codeAny (model prog w) A (.compLoop (.ListComp elt [⟨.Tuple [.Name x1 p1, .Name x2 p2] tk tp, iter, [], 0⟩] scope pos) 0 (.ref s₁.heap.objs.size) (.ref H1.objs.size) (compEnvC scope cl H2.objs.size env))
        (compPost (model prog w) A E none Q (.ref H1.objs.size) H2.objs.size) s₂ := by
    rintro s₂ rfl
    refine LCp.codeAny_compLoop_pair
      (fun k s' => ∃ h' tk m' ys i, s' = { s₁ with heap := h', toks := tk } ∧ h'.IsListIter s₁.heap.objs.size a i ∧ h'.PlainList H1.objs.size ys ∧ h'.Ns H2.objs.size m' ∧ Paired F (vs.take i) ys.toList ∧ i ≤ vs.length ∧ k = vs.length + 1 - i ∧
        ∀ b o, s₁.heap.get? b = some o → h'.get? b = some o) ?_ (vs.length + 1)
      ⟨h₁, _, _, #[], 0, rfl, hit, hacc, hns₁, .nil, Nat.zero_le _, rfl, old⟩
    rintro k s' ⟨h', tk', m', ys, i, rfl, hit', hacc', hn', hP, hi, rfl, hk⟩
    have hl' : h'.IsList a vs.toArray := ⟨ol, hk _ _ hol, hol'⟩
    rcases Nat.lt_or_ge i vs.length with hlt | hge
    · have hv : vs.toArray[i]? = some vs[i] := by simp [hlt]
      refine wpAny_pyNext_list_item (s := { s₁ with heap := h', toks := tk' }) hit' hl' hv fun h₂ hit₂ hs₂ => ?_
      obtain ⟨b, v1, v2, hvb, hb, hel⟩ := helt vs[i] (List.getElem_mem hlt)
      have hk₂ : ∀ b o, s₁.heap.get? b = some o → h₂.get? b = some o := fun b o e => hs₂.extBut b o (below b (Heap.lt_size e)).2.1 (hk b o e)
      refine letGo_listiter (s' := { s₁ with heap := h₂, toks := tk' }) hit₂ ?_
      rw [hvb]
      refine asg2 (s := { s₁ with heap := h₂, toks := tk' }) (isList_keeps hk₂ hb) hh fun s₃ K₃ => ?_
      obtain ⟨h₃, tk₃, rfl, hk₃⟩ := K₃
      have hn₃ : h₃.Ns H2.objs.size m' := (hn'.sameBut hs₂ (Ne.symm hIC)).keeps hk₃
      refine wpAny_storeName_local (env := compEnvC scope cl H2.objs.size env) (lookup_relabel_local hx1) hn₃ (fun h₄ hn₄ hs₄ => ?_) (by simp [compEnvC, relabel, hkind])
      refine wpAny_storeName_local (env := compEnvC scope cl H2.objs.size env) (lookup_relabel_local hx2) hn₄ (fun h₅ hn₅ hs₅ => ?_) (by simp [compEnvC, relabel, hkind])
      have up : ∀ b o, b ≠ H2.objs.size → h₂.get? b = some o → h₅.get? b = some o := fun b o hb e => hs₅.extBut b o hb (hs₄.extBut b o hb (hk₃ b o e))
      refine wpAny_mono (hel H2.objs.size _ _ _ hCle hn₅ ?_ ?_ fun b o e => up b o (below b (Heap.lt_size e)).1 (hk₂ b o e)) (fun y s₆ h₆ => ?_) fun _ _ e => e
      · simp [hxx]
      · simp
      · obtain ⟨hF, h₆, tk₆, rfl, hk₆⟩ := h₆
        have hacc₆ : h₆.PlainList H1.objs.size ys := (hacc'.extBut hs₂.extBut hDI).at fun o e => hk₆ _ o (up _ o hDC e)
        have hysz : ys.size ≤ sizeLine := by
          have e1 := hP.length
          have e2 : ys.toList.length = ys.size := by simp
          rw [List.length_take] at e1
          omega
        refine wpAny_list_append_plain (hsz := hysz) hacc₆ fun h₇ hl₇ hs₇ => ?_
        refine ⟨vs.length + 1 - (i + 1), by omega, h₇, tk₆, _, ys.push y, i + 1, rfl, ?_, hl₇, (hn₅.keeps hk₆).sameBut hs₇ (Ne.symm hDC), ?_, hlt, rfl, fun b o e => ?_⟩
        · exact ((hit₂.at fun o e => up _ o hIC e).at fun o e => hk₆ _ o e).extBut hs₇.extBut (Ne.symm hDI)
        · rw [List.take_add_one, List.getElem?_eq_getElem hlt]
          rw [hvb] at hF
          simpa [hvb] using Paired.snoc hP hF
        · exact hs₇.extBut b o (below b (Heap.lt_size e)).2.2 (hk₆ b o (up b o (below b (Heap.lt_size e)).1 (hk₂ b o e)))
    · have hin : i = vs.length := by omega
      subst hin
      refine wpAny_pyNext_list_end (s := { s₁ with heap := h', toks := tk' }) hh hit' hl' (by simp) fun h₂ he₂ => ?_
      refine ⟨m', hn'.extBut he₂ (Ne.symm hIC), fun h₃ hs₃ => hQ _ ys _ (Kp.of fun b o e => ?_) hnew ?_ ?_⟩
      · exact hs₃.extBut b o (below b (Heap.lt_size e)).1 (he₂ b o (below b (Heap.lt_size e)).2.1 (hk b o e))
      · exact ((hacc'.extBut he₂ hDI).extBut hs₃.extBut hDC).isList
      · rw [List.take_length] at hP; exact hP
  exact codeAny_compStart_list (loop _ rfl) (wpAny_pyIter_listiter hit (loop _ rfl))
end
end Mine

namespace Mine

/-- the value that stands for a piece, the four things being at t -/
def ThV (t : Nat → Addr) (v : Value) (p : Pc) : Prop := match p with
  | .thing k => v = .ref (t k)
  | .num n => ∃ tk, v = .int n tk
  | .txt x => ∃ tk, v = .str x tk

noncomputable def innerAt (w : World) : List Stmt := match loopAt w 34 2 with
  | .For _ _ b _ _ :: _ => b
  | _ => []

/-- so far: the pieces D j lie in thing j -/
def J34 (prog : Program) (w : World) (t : Nat → Addr) (aT : Addr) (nT : Nat) (oT : Obj) (vI : Value) (D : Nat → List Pc) (m cm : Str → Option Value) (ks : List (Addr × Obj)) : Prop := ∃ (vs0 vs2 : List Value) (kvs : List (Int × Value)) (n0 n2 : Nat) (oD : Obj) (rest : List (Addr × Obj)),
  ks = (aT, lo #[.ref (t 0), .ref (t 1), .ref (t 2), .ref (t 3)] nT) :: (t 0, lo vs0.toArray n0) :: (t 1, oD) :: (t 2, lo vs2.toArray n2) :: (t 3, oT) :: rest ∧
  m (Str.ofString "inside") = some vI ∧ cm (Str.ofString "things") = some (.ref aT) ∧
  Paired (ThV t) vs0 (D 0) ∧ Paired (ThV t) vs2 (D 2) ∧ oD.IsDictOf (intKind prog w) kvs ∧ Paired (ThV t) (kvs.map (·.2)) (D 1) ∧ kvs.map (·.1) = (List.range (D 1).length).map (fun (i : Nat) => (i : Int))

section
variable {prog : Program} {w : World} {A : Around}

theorem stored_new {kvs : List (Int × Value)} {n : Nat} {v : Value} (h : kvs.map (·.1) = (List.range n).map (fun (i : Nat) => (i : Int))) : stored kvs (n : Int) v = kvs ++ [((n : Int), v)] := by
  unfold stored
  rw [if_neg]
  intro hany
  rw [List.any_eq_true] at hany
  obtain ⟨kv, hm, he⟩ := hany
  have hm' : kv.1 ∈ kvs.map (·.1) := List.mem_map_of_mem hm
  rw [h] at hm'
  obtain ⟨i, hi, e⟩ := List.mem_map.mp hm'
  have h1 := List.mem_range.mp hi
  have h2 : kv.1 = (n : Int) := of_decide_eq_true he
  omega

set_option maxHeartbeats 4000000 in
theorem turn34 {s₀ s' : Shared} {L aT aP : Addr} {e1 e2 : Addr × Obj} {oT : Obj} {nT k : Nat} {tk : Tok} {kv wv vI : Value} {p : Pc} {t : Nat → Addr} {D D' : Nat → List Pc} {E : Value → Shared → Prop} {m cm : Str → Option Value} {ks : List (Addr × Obj)} {Q : Flow → Shared → Prop}
    (hk3 : k < 3) (hh : A.handled = none) (G : Gd w s₀.heap) (hP : s₀.heap.IsList aP #[kv, wv]) (hpc : PcIs p kv wv) (hokp : OkPc p) (hsys : (t 1 == sysModules) = false) (hlen : ∀ j, (D j).length ≤ 100)
    (hD : D' k = D k ++ [p]) (hD' : ∀ j, j ≠ k → D' j = D j)
    (hJ : J34 prog w t aT nT oT vI D m cm ks) (hmk : m (Str.ofString "k") = some (.int (k : Int) tk)) (F : Fm s₀ (ev w 34 L) m cm (e1 :: e2 :: ks) s')
    (hQ : ∀ m' cm' ks' s'', J34 prog w t aT nT oT vI D' m' cm' ks' → m' (Str.ofString "k") = some (.int (k : Int) tk) → Fm s₀ (ev w 34 L) m' cm' (e1 :: e2 :: ks') s'' → Q .next s'') :
    wpAny (model prog w) A (storeName (ev w 34 L) (Str.ofString "kind") kv) (fun _ s₁ => wpAny (model prog w) A (storeName (ev w 34 L) (Str.ofString "what") wv) (fun _ s₂ => wpAny (model prog w) A (execs (innerAt w) (ev w 34 L)) Q E s₂) E s₁) E s' := by
  obtain ⟨vs0, vs2, kvs, n0, n2, oD, rest, rfl, hmi, hct, P0, P2, hoD, P1, hkeys⟩ := hJ
  refine stL F fun s1 F1 => stL F1 fun s2 F2 => ?_
  clear F F1
  have LT : ∀ {s : Shared} {m cm : Str → Option Value}, Fm s₀ (ev w 34 L) m cm (e1 :: e2 :: (aT, lo #[.ref (t 0), .ref (t 1), .ref (t 2), .ref (t 3)] nT) :: (t 0, lo vs0.toArray n0) :: (t 1, oD) :: (t 2, lo vs2.toArray n2) :: (t 3, oT) :: rest) s → s.heap.IsList aT #[.ref (t 0), .ref (t 1), .ref (t 2), .ref (t 3)] :=
    fun F => ⟨_, F.get (.tail _ (.tail _ (.head _))), rfl, _, rfl⟩
  -- one = things[what] if kind == 'thing' else what
  refine execs_join (fun s'' => ∃ v m', ThV t v p ∧ m' (Str.ofString "one") = some v ∧ m' (Str.ofString "inside") = some vI ∧ m' (Str.ofString "k") = some (.int (k : Int) tk) ∧ Fm s₀ (ev w 34 L) m' cm (e1 :: e2 :: (aT, lo #[.ref (t 0), .ref (t 1), .ref (t 2), .ref (t 3)] nT) :: (t 0, lo vs0.toArray n0) :: (t 1, oD) :: (t 2, lo vs2.toArray n2) :: (t 3, oT) :: rest) s'') ?_ ?_
  · have fin : ∀ {v : Value} {s5 : Shared}, ThV t v p → Kp s2 s5 → wpAny (model prog w) A (storeName (ev w 34 L) (Str.ofString "one") v) (fun _ s'' => Flow.next = Flow.next ∧ ∃ v m', ThV t v p ∧ m' (Str.ofString "one") = some v ∧ m' (Str.ofString "inside") = some vI ∧ m' (Str.ofString "k") = some (.int (k : Int) tk) ∧ Fm s₀ (ev w 34 L) m' cm (e1 :: e2 :: (aT, lo #[.ref (t 0), .ref (t 1), .ref (t 2), .ref (t 3)] nT) :: (t 0, lo vs0.toArray n0) :: (t 1, oD) :: (t 2, lo vs2.toArray n2) :: (t 3, oT) :: rest) s'') E s5 := by
      intro v s5 hv K5
      refine stL (F2.ext K5) fun s6 F6 => ⟨rfl, v, _, hv, by rfl, ?_, ?_, F6⟩
      · rw [if_neg (by decide), if_neg (by decide), if_neg (by decide)]; exact hmi
      · rw [if_neg (by decide), if_neg (by decide), if_neg (by decide)]; exact hmk
    refine wpAny_Assign_Name (wpAny_IfExp (wpAny_isTrue_Compare1 (nmL F2 rfl (cStr fun t3 s3 K3 => ?_))))
    cases p with
    | thing j =>
      obtain ⟨⟨t1, rfl⟩, ⟨t2, rfl⟩⟩ := hpc
      refine eqS ?_
      rw [if_pos (by decide +kernel)]
      have hj4 : j < 4 := hokp
      have hsel : (#[Value.ref (t 0), .ref (t 1), .ref (t 2), .ref (t 3)] : Array Value)[j]? = some (.ref (t j)) := by
        rcases (by omega : j = 0 ∨ j = 1 ∨ j = 2 ∨ j = 3) with rfl | rfl | rfl | rfl <;> rfl
      refine Subscript_ (nmC (F2.ext K3) rfl hct (nmL (F2.ext K3) rfl (itemL (LT (F2.ext K3)) hsel (by omega) (fin (show ThV t (.ref (t j)) (.thing j) from rfl) K3))))
    | num i =>
      obtain ⟨⟨t1, rfl⟩, ⟨t2, rfl⟩⟩ := hpc
      refine eqS ?_
      rw [if_neg (by decide +kernel)]
      exact nmL (F2.ext K3) rfl (fin (show ThV t (.int i t2) (.num i) from ⟨t2, rfl⟩) K3)
    | txt x =>
      obtain ⟨⟨t1, rfl⟩, ⟨t2, rfl⟩⟩ := hpc
      refine eqS ?_
      rw [if_neg (by decide +kernel)]
      exact nmL (F2.ext K3) rfl (fin (show ThV t (.str x t2) (.txt x) from ⟨t2, rfl⟩) K3)
  · rintro s3 ⟨v, m', hv, hone, hmi', hmk', F3⟩
    clear F2
    refine wpAny_execs_cons (wpAny_If (wpAny_isTrue_Compare1 (nmL F3 hmk' (cInt fun t4 s4 K4 => eqI ?_))))
    have F4 := F3.ext K4
    clear F3 K4
    by_cases hk1 : k = 1
    · subst hk1
      rw [if_pos (by decide)]
      refine wpAny_execs_cons (wpAny_Assign_Subscript ?_)
      refine nmL F4 hone ?_
      refine Subscript_ (nmC F4 rfl hct (cInt fun t5 s5 K5 => itemL (k := 1) (x := .ref (t 1)) (LT (F4.ext K5)) rfl (by decide) ?_))
      have F5 := F4.ext K5
      refine Call_ (nmB (G.keeps F5.keep) (by rfl) blen (cbS (by rfl) (arS (Subscript_ (nmC F5 rfl hct (cInt fun t6 s6 K6 => itemL (k := 1) (x := .ref (t 1)) (LT (F5.ext K6)) rfl (by decide) ?_))))))
      have F6 := F5.ext K6
      clear F4 F5 K5 K6
      have hlk : kvs.length = (D 1).length := by have := congrArg List.length hkeys; simpa using this
      have hd6 : s6.heap.DictOf (intKind prog w) (t 1) kvs := Heap.dictOf_iff.mpr ⟨oD, F6.get (.tail _ (.tail _ (.tail _ (.tail _ (.head _))))), hoD⟩
      have hl1 := hlen 1
      refine args_nil (call_len_dict hsys hd6 (by omega) ?_)
      have F7 := F6.ext (Kp.tok s6 (s6.toks + 1 + 1))
      refine wpAny_setItem_pairs (knd := intKind prog w) (k := (kvs.length : Int)) (intKind_is prog w _ _) (hd6.keep fun b o e => e) (fun h' hm' hs' => ?_) (by rw [sizeLine_eq]; omega)
      obtain ⟨oD', hg', hoD'⟩ := Heap.dictOf_iff.mp hm'
      have F8 := Fm.upd (tk := s6.toks + 1 + 1 + 1) (k₁ := [e1, e2, (aT, lo #[.ref (t 0), .ref (t 1), .ref (t 2), .ref (t 3)] nT), (t 0, lo vs0.toArray n0)]) F7 hs'.extBut hg'
      have hst : stored kvs (kvs.length : Int) v = kvs ++ [((kvs.length : Int), v)] := by
        rw [hlk]; exact stored_new hkeys
      rw [hst] at hoD'
      refine wpAny_execs_nil (wpAny_execs_nil (hQ m' cm _ _ ⟨vs0, vs2, kvs ++ [((kvs.length : Int), v)], n0, n2, oD', rest, rfl, hmi', hct, ?_, ?_, hoD', ?_, ?_⟩ hmk' F8))
      · rw [hD' 0 (by decide)]; exact P0
      · rw [hD' 2 (by decide)]; exact P2
      · rw [hD, List.map_append]; exact Paired.snoc P1 hv
      · rw [hD, List.map_append, hkeys, List.length_append, List.length_singleton, List.range_succ, List.map_append, hlk]; rfl
    · rw [if_neg (by simp; omega)]
      refine wpAny_execs_cons (wpAny_Expr ?_)
      refine meth ?_ ?mb ?mf ?mp
      case mb => exact baseSub _ _ _ _ _
      case mf => exact form1N _ _ _ _
      case mp => rfl
      have fit : ∀ {vs : List Value} {j : Nat}, Paired (ThV t) vs (D j) → vs.toArray.size ≤ sizeLine := by
        intro vs j hp
        have h1 := hp.length
        have h2 := hlen j
        rw [sizeLine_eq, List.size_toArray]; omega
      rcases (by omega : k = 0 ∨ k = 2) with rfl | rfl
      · refine Subscript_ (nmC F4 rfl hct (nmL F4 hmk' (itemL (x := .ref (t 0)) (LT F4) rfl (by decide) ?_)))
        with_reducible refine getApp (k₁ := [e1, e2, (aT, lo #[.ref (t 0), .ref (t 1), .ref (t 2), .ref (t 3)] nT)]) F4 ?_
        refine cmN (by rfl) (arN (nmL F4 hone (args_nil ?_)))
        refine doApp (k₁ := [e1, e2, (aT, lo #[.ref (t 0), .ref (t 1), .ref (t 2), .ref (t 3)] nT)]) F4 (fit P0) fun n' s5 F5 => ?_
        rw [show vs0.toArray.push v = (vs0 ++ [v]).toArray by simp] at F5
        refine wpAny_execs_nil (wpAny_execs_nil (hQ m' cm _ _ ⟨vs0 ++ [v], vs2, kvs, n', n2, oD, rest, rfl, hmi', hct, ?_, ?_, hoD, ?_, ?_⟩ hmk' F5))
        · rw [hD]; exact Paired.snoc P0 hv
        · rw [hD' 2 (by decide)]; exact P2
        · rw [hD' 1 (by decide)]; exact P1
        · rw [hD' 1 (by decide)]; exact hkeys
      · refine Subscript_ (nmC F4 rfl hct (nmL F4 hmk' (itemL (x := .ref (t 2)) (LT F4) rfl (by decide) ?_)))
        with_reducible refine getApp (k₁ := [e1, e2, (aT, lo #[.ref (t 0), .ref (t 1), .ref (t 2), .ref (t 3)] nT), (t 0, lo vs0.toArray n0), (t 1, oD)]) F4 ?_
        refine cmN (by rfl) (arN (nmL F4 hone (args_nil ?_)))
        refine doApp (k₁ := [e1, e2, (aT, lo #[.ref (t 0), .ref (t 1), .ref (t 2), .ref (t 3)] nT), (t 0, lo vs0.toArray n0), (t 1, oD)]) F4 (fit P2) fun n' s5 F5 => ?_
        rw [show vs2.toArray.push v = (vs2 ++ [v]).toArray by simp] at F5
        refine wpAny_execs_nil (wpAny_execs_nil (hQ m' cm _ _ ⟨vs0, vs2 ++ [v], kvs, n0, n', oD, rest, rfl, hmi', hct, ?_, ?_, hoD, ?_, ?_⟩ hmk' F5))
        · rw [hD' 0 (by decide)]; exact P0
        · rw [hD]; exact Paired.snoc P2 hv
        · rw [hD' 1 (by decide)]; exact P1
        · rw [hD' 1 (by decide)]; exact hkeys
end
end Mine

namespace Mine

structure ThAt (prog : Program) (w : World) (h : Heap) (v : Value) (t : Nat → Addr) (ins : Nat → List Pc) : Prop where
  top : ∃ a, v = .ref a ∧ h.IsList a #[.ref (t 0), .ref (t 1), .ref (t 2), .ref (t 3)]
  t0 : ∃ vs : List Value, h.IsList (t 0) vs.toArray ∧ Paired (ThV t) vs (ins 0)
  t1 : ∃ kvs : List (Int × Value), h.DictOf (intKind prog w) (t 1) kvs ∧ Paired (ThV t) (kvs.map (·.2)) (ins 1) ∧ kvs.map (·.1) = (List.range (ins 1).length).map (fun (i : Nat) => (i : Int))
  t2 : ∃ vs : List Value, h.IsList (t 2) vs.toArray ∧ Paired (ThV t) vs (ins 2)
  t3 : ∃ vs : List Value, h.IsTuple (t 3) vs.toArray ∧ Paired (ThV t) vs (ins 3)
  apart : ∀ i j, i < 4 → j < 4 → t i = t j → i = j
  sys : (t 1 == sysModules) = false

/-- the pieces that lie in their things after k whole rounds and i turns of the next -/
def upTo (ins : Nat → List Pc) (k i : Nat) : Nat → List Pc := fun j => if j < k then ins j else if j = k then (ins j).take i else []
theorem upTo_start (ins : Nat → List Pc) (k : Nat) : upTo ins k 0 = fun j => if j < k then ins j else [] := by
  funext j; unfold upTo; split
  · rfl
  · split <;> simp
theorem upTo_end (ins : Nat → List Pc) (k i : Nat) (h : (ins k).length ≤ i) : upTo ins k i = upTo ins (k + 1) 0 := by
  funext j; unfold upTo
  by_cases h1 : j < k
  · rw [if_pos h1, if_pos (by omega)]
  · rw [if_neg h1]
    by_cases h2 : j = k
    · subst h2; rw [if_pos rfl, if_pos (by omega), List.take_of_length_le h]
    · rw [if_neg h2, if_neg (by omega)]
      split <;> simp
theorem upTo_len (ins : Nat → List Pc) (ok : OkIns ins) (k i j : Nat) : (upTo ins k i j).length ≤ 100 := by
  have := ok.len j
  unfold upTo
  split
  · omega
  · split
    · rw [List.length_take]; omega
    · simp

theorem Paired.at {α β : Type} {F : α → β → Prop} : ∀ {l₁ : List α} {l₂ : List β}, Paired F l₁ l₂ → ∀ (i : Nat) (a : α), l₁[i]? = some a → ∃ b, l₂[i]? = some b ∧ F a b
  | _, _, .nil, i, a, h => by simp at h
  | _, _, .cons h t, 0, a, e => by simp at e; subst e; exact ⟨_, rfl, h⟩
  | _, _, .cons h t, i + 1, a, e => by
    obtain ⟨b, hb, hf⟩ := Paired.at t i a (by simpa using e)
    exact ⟨b, by simpa using hb, hf⟩

section
variable {prog : Program} {w : World} {A : Around} {E : Value → Shared → Prop}

theorem disD {s : Shared} {env : Env} {M : Model} {pos : Pos} {Q : Value → Shared → Prop} (h : ∀ a s', Kp s s' → s.heap.objs.size ≤ a → s.heap.get? a = none → s'.heap.get? a = some { cls := .type "dict", data := .dict #[] } → Q (.ref a) s') : wpAny M A (eval (.Dict [] [] pos) env) Q E s :=
  wpAny_Dict_empty (h _ _ (Kp.push s _) (Nat.le_refl _) (newAt s) (Heap.get?_push_size _ rfl))
theorem isDict_nil : ({ cls := .type "dict", data := .dict #[] } : Obj).IsDictOf (intKind prog w) [] := ⟨#[], _, ⟨rfl, rfl, rfl⟩, rfl, fun e he => by simp at he, .nil, List.nodup_nil⟩

theorem tupL {s : Shared} {l : Addr} {items : Array Value} {Q : Value → Shared → Prop} (hl : s.heap.IsList l items) (hsz : items.size ≤ sizeLine)
    (h : ∀ a s', Kp s s' → s.heap.get? a = none → s'.heap.get? a = some { cls := .type "tuple", data := .seq items } → Q (.ref a) s') : wpAny (model prog w) A (call (.type "tuple") [.ref l]) Q E s :=
  call_tuple_list hl (fun h' hk => h _ _ (Kp.of fun b o e => Heap.get?_push_of_some _ (hk b o e)) (by
    cases q : s.heap.get? h'.objs.size with
    | none => rfl
    | some o => exact absurd (Heap.lt_size (hk _ _ q)) (Nat.lt_irrefl _)) (Heap.get?_push_size _ rfl)) hsz

set_option maxHeartbeats 4000000 in
theorem call34 {s : Shared} {Q : Value → Shared → Prop} {vI : Value} {ins : Nat → List Pc} (G : Gd w s.heap) (hh : A.handled = none) (hd : A.depth < 900) (ok : OkIns ins) (ok3 : ∀ p ∈ ins 3, ∃ k, k < 3 ∧ p = Pc.thing k) (hI : InsAt s.heap vI ins)
    (hQ : ∀ a s' t (os : List (Addr × Obj)), Kp s s' → ThAt prog w s'.heap (.ref a) t ins → os.map (·.1) = [a, t 0, t 1, t 2, t 3] → (os.map (·.1)).Nodup → (∀ p ∈ os, s.heap.get? p.1 = none ∧ s'.heap.get? p.1 = some p.2) → Q (.ref a) s') :
    wpAny (model prog w) A (call (.ref 34) [vI]) Q E s := by
  refine callF (binds := [(Str.ofString "inside", vI)]) G (Nat.lt_of_lt_of_le hd (by decide)) rfl rfl rfl rfl rfl rfl rfl ?_
  intro s₁ F G₁
  -- things = [[], {}, []]
  refine wpAny_execs_cons ?_
  refine wpAny_Assign_Name ?_
  with_reducible refine endL ?_
  with_reducible refine arL ?_
  with_reducible refine endL ?_
  with_reducible refine args_nil ⟨Nat.zero_le _, fun t0 s2 K2 h0 l0 => ?_⟩
  with_reducible refine arD ?_
  with_reducible refine disD fun t1 s3 K3 hge h1 l1 => ?_
  have hsys : (t1 == sysModules) = false := by
    have h39 : (39 : Nat) < s2.heap.objs.size := Heap.lt_size ((G.keeps (F.ext K2).keep).X 39 (obAt w 39) rfl)
    have hne : t1 ≠ (1 : Nat) := by
      intro e
      rw [e] at hge
      exact absurd (Nat.lt_of_lt_of_le h39 hge) (by decide)
    exact beq_eq_false_iff_ne.mpr hne
  clear hge
  with_reducible refine arL ?_
  with_reducible refine endL ?_
  with_reducible refine args_nil ⟨Nat.zero_le _, fun t2 s4 K4 h2 l2 => ?_⟩
  with_reducible refine args_nil ⟨le3 _ _ _, fun aT s5 K5 hT lT => ?_⟩
  obtain ⟨n0, l0⟩ := l0
  obtain ⟨n2, l2⟩ := l2
  obtain ⟨nT, lT⟩ := lT
  have F5 := (((F.new K2 h0 l0).new K3 h1 l1).new K4 h2 l2).new K5 hT lT
  clear F K2 K3 K4 K5 h0 h1 h2 hT l0 l1 l2 lT
  refine stC F5 rfl fun s6 F6 => ?_
  clear F5
  dsimp only
  -- things.append(tuple([things[what] for kind, what in inside[3]]))
  refine wpAny_execs_cons (wpAny_Expr ?_)
  refine meth ?_ ?mb ?mf ?mp
  case mb => exact baseName _ _ _ _
  case mf => exact form1C _ _ _ _ _ _
  case mp => rfl
  refine nmC F6 rfl rfl ?_
  with_reducible refine getApp (k₁ := []) F6 ?_
  refine cmC (by rfl) ?_
  with_reducible refine arC ?_
  refine Call_ (nmB (G.keeps F6.keep) (by rfl) btuple ?_)
  refine ctZ (by rfl) ?_
  with_reducible refine arZ ?_
  obtain ⟨aI, w0, w1, w2, w3, rfl, hIl, q0, q1, q2, q3⟩ := id hI
  obtain ⟨a3, vs3, rfl, hl3, hp3⟩ := id q3
  have LT6 : s6.heap.IsList aT #[.ref t0, .ref t1, .ref t2] := ⟨_, F6.get (.head _), rfl, _, rfl⟩
  refine compPair (fun v y => ∀ k, PcAt s.heap v (.thing k) → y = .ref (if k = 0 then t0 else if k = 1 then t1 else t2)) hh ?_ (by decide)
  refine Subscript_ (nmL F6 rfl (cInt fun tc s7 K7 => itemL (k := 3) (x := .ref a3) (isList_keeps (F6.ext K7).keep hIl) rfl (by decide) ?_))
  have F7 := F6.ext K7
  refine ⟨a3, vs3, rfl, isList_keeps F7.keep hl3, ?_, ?_, ?_⟩
  · rw [hp3.length, sizeLine_eq]; have := ok.len 3; omega
  · intro v hv
    obtain ⟨p, hp, hpc⟩ := Mine.Paired.left hp3 v hv
    obtain ⟨k, hk, rfl⟩ := ok3 p hp
    obtain ⟨b, kv, wv, rfl, hb, hkv⟩ := id hpc
    obtain ⟨⟨t1', rfl⟩, ⟨t2', rfl⟩⟩ := hkv
    refine ⟨b, _, _, rfl, isList_keeps F7.keep hb, fun C s₃ m₃ E' hC hns hm1 hm2 hkp => ?_⟩
    have cT : s₃.heap.IsCell (s.heap.objs.size + 1) (some (.ref aT)) := (F7.c.cell (Str.ofString "things") _ rfl).keeps hkp
    have hsel : (#[Value.ref t0, .ref t1, .ref t2] : Array Value)[k]? = some (.ref (if k = 0 then t0 else if k = 1 then t1 else t2)) := by
      rcases (by omega : k = 0 ∨ k = 1 ∨ k = 2) with rfl | rfl | rfl <;> rfl
    refine Subscript_ (nmCell cT rfl (nmLoc hns hm2 (itemL (isList_keeps (fun b o e => hkp b o (K7.heap b o e)) LT6) hsel (by omega) ⟨fun k' hk' => ?_, Kp.refl _⟩)))
    have e := PcAt.inj hpc hk'
    injection e with e
    rw [e]
  · intro Dl ys s8 K8 hDl hDll hF
    refine args_nil (tupL hDll ?_ fun t3 s9 K9 h3 l3 => ?_)
    · have e1 := hF.length
      have e2 := hp3.length
      have e3 := ok.len 3
      have e4 : ys.toList.length = ys.size := by simp
      rw [sizeLine_eq]; omega
    have F9 := (F7.ext K8).new K9 h3 l3
    clear F6 F7 K7 K8 K9 h3 l3 hDll
    refine args_nil ?_
    refine doApp (k₁ := [(t3, { cls := .type "tuple", data := .seq ys })]) F9 (by show 3 ≤ sizeLine; decide) fun nT' s10 F10 => ?_
    clear F9 LT6 hDl
    show wpAny _ _ _ _ _ _
    have hV3 : Paired (ThV (fun k => if k = 0 then t0 else if k = 1 then t1 else if k = 2 then t2 else t3)) ys.toList (ins 3) := by
      have key : ∀ {vs us : List Value} {ps : List Pc}, (∀ p ∈ ps, ∃ k, k < 3 ∧ p = Pc.thing k) → Paired (PcAt s.heap) vs ps → Paired (fun v y => ∀ k, PcAt s.heap v (.thing k) → y = .ref (if k = 0 then t0 else if k = 1 then t1 else t2)) vs us →
          Paired (ThV (fun k => if k = 0 then t0 else if k = 1 then t1 else if k = 2 then t2 else t3)) us ps := by
        intro vs us ps hps h1
        induction h1 generalizing us with
        | nil => intro h2; cases h2; exact .nil
        | cons hp _ ih =>
          intro h2
          cases h2 with
          | cons hf h2 =>
            obtain ⟨k, hk, rfl⟩ := hps _ (.head _)
            refine .cons ?_ (ih (fun p hp => hps p (.tail _ hp)) h2)
            rw [hf k hp]
            show Value.ref _ = Value.ref _
            congr 1
            rcases (by omega : k = 0 ∨ k = 1 ∨ k = 2) with rfl | rfl | rfl <;> rfl
      exact key ok3 hp3 hF
    have htt : ∃ tt : Nat → Addr, tt 0 = t0 ∧ tt 1 = t1 ∧ tt 2 = t2 ∧ tt 3 = t3 ∧ Paired (ThV tt) ys.toList (ins 3) := ⟨_, rfl, rfl, rfl, rfl, hV3⟩
    clear hV3 hF
    obtain ⟨tt, rfl, rfl, rfl, rfl, hV3⟩ := htt
    have F11 := F10.perm (ks' := [(aT, lo #[.ref (tt 0), .ref (tt 1), .ref (tt 2), .ref (tt 3)] nT'), (tt 0, lo ([] : List Value).toArray n0), (tt 1, { cls := .type "dict", data := .dict #[] }), (tt 2, lo ([] : List Value).toArray n2), (tt 3, { cls := .type "tuple", data := .seq ys })])
      ((List.Perm.cons _ ((List.reverse_perm [_, _, _, _]).symm)).trans (List.Perm.swap' _ _ (List.Perm.refl _)))
    have hap : ∀ i j, i < 4 → j < 4 → tt i = tt j → i = j := by
      have hnd := F11.nd
      simp only [List.map_cons, List.map_nil, List.nodup_cons, List.mem_cons, List.not_mem_nil, or_false, not_or, List.nodup_nil, and_true] at hnd
      obtain ⟨_, ⟨h01, h02, h03⟩, ⟨h12, h13⟩, h23, _⟩ := hnd
      intro i j hi hj e
      rcases (by omega : i = 0 ∨ i = 1 ∨ i = 2 ∨ i = 3) with rfl | rfl | rfl | rfl <;> rcases (by omega : j = 0 ∨ j = 1 ∨ j = 2 ∨ j = 3) with rfl | rfl | rfl | rfl <;>
        first | rfl | exact absurd e h01 | exact absurd e h02 | exact absurd e h03 | exact absurd e h12 | exact absurd e h13 | exact absurd e h23 | exact absurd e.symm h01 | exact absurd e.symm h02 | exact absurd e.symm h03 | exact absurd e.symm h12 | exact absurd e.symm h13 | exact absurd e.symm h23
    clear F10
    refine wpAny_execs_cons (forRange (s₀ := s) (n := 3) hh (fun k m cm ks => J34 prog w tt aT nT' { cls := .type "tuple", data := .seq ys } (.ref aI) (upTo ins k 0) m cm ks) ?_ ?_ ?_)
    · refine Call_ (nmB (G.keeps F11.keep) (by rfl) brange (ctK (by rfl) (arK (cInt fun tr s11 K11 => args_nil (rng1 (n := 3) fun r t u v s12 K12 hnr hr => ⟨r, t, u, v, _, _, _, rfl, hr, by decide, F11.ext (K11.trans K12), ?_⟩)))))
      refine ⟨[], [], [], n0, n2, _, [], rfl, rfl, rfl, ?_, ?_, isDict_nil, ?_, ?_⟩ <;> rw [upTo_start]
      · exact .nil
      · exact .nil
      · exact .nil
      · rfl
    · intro k tk m cm ks s' I oI E' hk hJ F'
      refine stL F' fun s1 F1 => ?_
      obtain ⟨_, _, _, _, _, _, _, _, hmi, hct, _⟩ := id hJ
      obtain ⟨vk, hvk, ak, vsk, rfl, hlk, hpk⟩ : ∃ vk, (#[w0, w1, w2, Value.ref a3] : Array Value)[k]? = some vk ∧ PcsAt s.heap vk (ins k) := by
        rcases (by omega : k = 0 ∨ k = 1 ∨ k = 2) with rfl | rfl | rfl
        · exact ⟨_, rfl, q0⟩
        · exact ⟨_, rfl, q1⟩
        · exact ⟨_, rfl, q2⟩
      obtain ⟨ok', hok1, hok2, nk, hok3⟩ := hlk
      have hm1 : (if Str.ofString "inside" = Str.ofString "k" then some (Value.int (k : Int) tk) else m (Str.ofString "inside")) = some (.ref aI) := by rw [if_neg (by decide)]; exact hmi
      have hJ1 : J34 prog w tt aT nT' { cls := .type "tuple", data := .seq ys } (.ref aI) (upTo ins k 0) (fun y => if y = Str.ofString "k" then some (Value.int (k : Int) tk) else m y) cm ks := by
        obtain ⟨a1, a2, a3, a4, a5, a6, a7, a8, a9, a10⟩ := hJ
        exact ⟨a1, a2, a3, a4, a5, a6, a7, a8, hm1, a10.1, a10.2⟩
      refine wpAny_execs_cons (forList (s₀ := s) (l := ak) (ol := ok') (vs := vsk) (nl := nk) hh (fun j m cm ks => ∃ ks0, ks = (I, oI) :: ks0 ∧ J34 prog w tt aT nT' { cls := .type "tuple", data := .seq ys } (.ref aI) (upTo ins k j) m cm ks0 ∧ m (Str.ofString "k") = some (.int (k : Int) tk)) hok2 hok3 ?_ ?_ ?_ ?_)
      · intro i m cm ks s'' _ F''
        exact F''.keep _ _ hok1
      · refine Subscript_ (nmL F1 hm1 (nmL F1 rfl (itemL (isList_keeps F1.keep hIl) hvk (by omega) ⟨_, _, _, rfl, F1, ks, rfl, hJ1, rfl⟩)))
      · rintro j v m2 cm2 ks2 s2 I2 oI2 E2 hvj ⟨ks0, rfl, hJ2, hmk⟩ F2
        obtain ⟨p, hpj, b, kv, wv, rfl, hb, hpc⟩ : ∃ p, (ins k)[j]? = some p ∧ PcAt s.heap v p := Mine.Paired.at hpk j v hvj
        have hjl : j < (ins k).length := by
          rcases Nat.lt_or_ge j (ins k).length with h | h
          · exact h
          · rw [List.getElem?_eq_none h] at hpj; cases hpj
        refine asg2 (isList_keeps F2.keep hb) hh fun s3 K3 => ?_
        refine wpAny_mono (turn34 (D' := upTo ins k (j + 1)) (Q := fun f s₃ => match f with
            | .next | .cont => ∃ m' cm' ks', (∃ ks0, ks' = (I, oI) :: ks0 ∧ J34 prog w tt aT nT' { cls := .type "tuple", data := .seq ys } (.ref aI) (upTo ins k (j + 1)) m' cm' ks0 ∧ m' (Str.ofString "k") = some (.int (k : Int) tk)) ∧ Fm s (ev w 34 s.heap.objs.size) m' cm' ((I2, oI2) :: ks') s₃
            | _ => False) hk hh G hb hpc (ok.pcs k p (List.mem_of_getElem? hpj)) hsys (upTo_len ins ok k j) ?_ ?_ hJ2 hmk (F2.ext K3) ?_) (fun _ s₁ h₁ => wpAny_mono h₁ (fun _ s₂ h₂ => wpAny_mono h₂ (fun f s₃ h₃ => ?_) fun _ _ x => x) fun _ _ x => x) fun _ _ x => x
        · unfold upTo
          rw [if_neg (by omega), if_pos rfl, if_neg (by omega), if_pos rfl, List.take_add_one, hpj]; rfl
        · intro i hi
          unfold upTo
          split
          · rfl
          · simp only [if_neg hi]
        · intro m' cm' ks' s'' hJ' hmk' F''
          exact ⟨m', cm', _, ⟨ks', rfl, hJ', hmk'⟩, F''⟩
        · cases f with
          | next => exact h₃
          | cont => exact h₃
          | brk => exact h₃.elim
          | ret v => exact h₃.elim
      · rintro m2 cm2 ks2 s2 ⟨ks0, rfl, hJ2, hmk⟩ F2
        refine wpAny_execs_nil ⟨m2, cm2, ks0, ?_, F2⟩
        rw [hpk.length, upTo_end ins k _ (Nat.le_refl _)] at hJ2
        exact hJ2
    · intro m cm ks s' hJ F'
      obtain ⟨vs0, vs2, kvs, c0, c2, oD, rest, rfl, hmi, hct, P0, P2, hoD, P1, hkeys⟩ := hJ
      refine wpAny_execs_cons (wpAny_Return_some (nmC F' rfl hct ?_))
      refine hQ aT _ tt [(aT, lo #[.ref (tt 0), .ref (tt 1), .ref (tt 2), .ref (tt 3)] nT'), (tt 0, lo vs0.toArray c0), (tt 1, oD), (tt 2, lo vs2.toArray c2), (tt 3, { cls := .type "tuple", data := .seq ys })] F'.done ⟨⟨aT, rfl, ⟨_, F'.get (.head _), rfl, _, rfl⟩⟩, ⟨vs0, ⟨_, F'.get (.tail _ (.head _)), rfl, _, rfl⟩, P0⟩, ⟨kvs, Heap.dictOf_iff.mpr ⟨oD, F'.get (.tail _ (.tail _ (.head _))), hoD⟩, P1, hkeys⟩, ⟨vs2, ⟨_, F'.get (.tail _ (.tail _ (.tail _ (.head _)))), rfl, _, rfl⟩, P2⟩,
        ⟨ys.toList, ⟨_, F'.get (.tail _ (.tail _ (.tail _ (.tail _ (.head _))))), rfl, 0, by simp⟩, hV3⟩, hap, hsys⟩ rfl ?_ ?_
      · have hnd := F'.nd
        simp only [List.map_cons, List.nodup_cons, List.mem_cons, not_or] at hnd
        simp only [List.map_cons, List.map_nil, List.nodup_cons, List.mem_cons, List.not_mem_nil, or_false, not_or, List.nodup_nil, and_true]
        obtain ⟨⟨a1, a2, a3, a4, _⟩, ⟨b1, b2, b3, _⟩, ⟨c1, c2, _⟩, ⟨d1, _⟩, _⟩ := hnd
        exact ⟨⟨a1, a2, a3, a4⟩, ⟨b1, b2, b3⟩, ⟨c1, c2⟩, d1, not_false⟩
      · intro p hp
        have hp' := List.mem_append_left rest hp
        exact ⟨(F'.k p hp').2.2.2, (F'.k p hp').1⟩
end
end Mine

namespace Mine
open Builtin Builtin.List

abbrev Ge (h h' : Heap) : Prop := ∀ b o, h.get? b = some o → h'.get? b = some o

/-- x is shown as t wherever the reprs under way are as P says -/
def ReprG (prog : Program) (w : World) (P : List Code → Prop) (h₀ : Heap) (d : Nat) (x : Value) (t : Str) : Prop :=
  ∀ (base : Nat), base + t.length ≤ sizeLine → ∀ (A : Around) (g : List Code) (E : Value → Shared → Prop) (s : Shared) (Q : Str → Shared → Prop), A.guards = some g → P g → A.units + d < cLine → Ge h₀ s.heap →
    (∀ h' tk, Ge s.heap h' → Q t { s with heap := h', toks := tk }) → wpAny (model prog w) A (pyReprUnder base x) Q E s

theorem ReprG.of_is {prog : Program} {w : World} {x : Value} {t : Str} (h : ReprIs prog w x t) (P : List Code → Prop) (h₀ : Heap) (d : Nat) : ReprG prog w P h₀ d x t :=
  fun base hb A _ E s Q _ _ _ _ hQ => h base hb A E s Q fun tk => hQ s.heap tk fun _ _ e => e

/-- a list's turn by turn, its frame being on the stack -/
theorem loopG {prog : Program} {w : World} {A : Around} {R : Result → Shared → Prop} {a Pa : Addr} (hne : a ≠ Pa) {items : Array Value} {ts : List Str} {P : List Code → Prop} {h₀ : Heap} {d base : Nat} {g : List Code} (hg : A.guards = some g)
    (hpush : ∀ rest, P (.builtin "list.__repr__.loop" ⟨.ref a :: rest, []⟩ :: g)) (hu : A.units + (d + 1) < cLine) (hPf : h₀.get? Pa = none) (hlen : ts.length = items.size)
    (hT : ∀ (i : Nat) (x : Value), items[i]? = some x → ∃ t, ts[i]? = some t ∧ ReprG prog w P h₀ d x t) (hsz : base + (listText ts).length ≤ sizeLine) :
    ∀ (k i : Nat) (s : Shared) (oa : Obj) (na : Nat) (acc : Array Value) (c : Nat) (done : List (Str × Tok)), items.size - i = k → i ≤ items.size → Ge h₀ s.heap →
    s.heap.get? a = some oa → oa.data = .seq items na →
    s.heap.get? Pa = some { cls := .type "list", dict := none, data := .seq acc c, slots := #[] } → acc.toList = strValues done → done.map (·.1) = ts.take i →
    (∀ h' u tk, (∀ b o, b ≠ Pa → s.heap.get? b = some o → h'.get? b = some o) → R (.ok (.ret (.str (listText ts) u))) { s with heap := h', toks := tk }) →
    codeAny (model prog w) A (.builtin "list.__repr__.loop" ⟨[.ref a, rawInt i, .ref Pa, rawInt ((base + piled (ts.take i) : Nat) : Int)], []⟩) R s := by
  have hL := textFrom_len ts 0 "["
  have hX : (listText ts).length = (textFrom 0 "[" ts).length + 1 := by
    show (textFrom 0 "[" ts ++ "]").length = _
    rw [strLen_append]; rfl
  have hp3 := piled_le_listText ts
  have hsz1 : items.size ≤ sizeLine := by
    have h1 := hL.1
    rw [if_neg (Nat.lt_irrefl 0)] at h1
    omega
  intro k
  induction k with
  | zero =>
    intro i s oa na acc c done hk hi hk0 ha hda hP hacc hdone hR
    have hin : i = items.size := by omega
    refine codeAny_builtin F.entry_list_repr_loop ?_
    show wpAny _ _ («list.__repr__.loop» ⟨[.ref a, .int i 0, .ref Pa, .int ((base + piled (ts.take i) : Nat) : Int) 0], []⟩) _ _ s
    rw [repr_loop_tree]
    refine wpAny_bind (wpAny_listItems ha hda ?_)
    simp only [show items[(i : Int).toNat]? = none by simp [hin]]
    unfold reprEnd
    refine wpAny_bind (wpAny_listItems hP rfl ?_)
    rw [hacc, repr_fold, show done.map (·.1) = ts by rw [hdone, hin, ← hlen, List.take_length]]
    refine wpAny_bind (wpAny_pure ?_)
    refine wpAny_bind (wpAny_mkStr (wpAny_pure ?_) (by show (listText ts).length ≤ sizeLine; omega))
    exact hR s.heap _ _ (fun _ _ _ e => e)
  | succ k ih =>
    intro i s oa na acc c done hk hi hk0 ha hda hP hacc hdone hR
    have hlt : i < items.size := by omega
    obtain ⟨t, ht, hrep⟩ := hT i items[i] (by simp [hlt])
    have hp1 := piled_take_succ ht
    have hp2 := piled_take_le ts (i + 1)
    have ht2 := hL.2.1 t (List.mem_of_getElem? ht)
    refine codeAny_builtin F.entry_list_repr_loop ?_
    show wpAny _ _ («list.__repr__.loop» ⟨[.ref a, .int i 0, .ref Pa, .int ((base + piled (ts.take i) : Nat) : Int) 0], []⟩) _ _ s
    rw [repr_loop_tree]
    refine wpAny_bind (wpAny_listItems ha hda ?_)
    simp only [show items[(i : Int).toNat]? = some items[i] by simp [hlt]]
    rw [Int.toNat_natCast]
    refine wpAny_bind (wpAny_holding (hrep (base + piled (ts.take i) + 1) (by omega) _ _ _ _ _ (guards_under_guard (isGuard_list_loop _) hg) (hpush _) (by rw [units_under_list_loop]; omega) hk0 fun h' tk hkp => ?_))
    refine wpAny_bind (wpAny_mkStr ?_ (by omega))
    refine wpAny_bind ?_
    show wpAny _ _ (updateSeq Pa _) _ _ _
    have hasz : acc.size ≤ sizeLine := by
      have e1 : acc.toList.length = acc.size := by simp
      have e2 : (strValues done).length = done.length := by simp [strValues]
      have e3 : done.length = (ts.take i).length := by rw [← hdone, List.length_map]
      have e4 : (ts.take i).length ≤ i := by rw [List.length_take]; omega
      rw [hacc] at e1; omega
    refine wpAny_updateSeq (hkp _ _ hP) rfl (wpAny_pure ⟨F.quiet_list_repr_loop _, ?_⟩) hasz
    rw [show ((i : Int) + 1) = ((i + 1 : Nat) : Int) by omega, show base + piled (ts.take i) + (t.length + 2) = base + piled (ts.take (i + 1)) by omega]
    refine ih (i + 1) _ oa na (acc.push (.str t tk)) _ (done ++ [(t, tk)]) (by omega) hlt (fun b o e => (Heap.get?_update_other _ _ (fun h : Pa = b => by rw [← h, hPf] at e; cases e)).trans (hkp _ _ (hk0 _ _ e))) ((Heap.get?_update_other _ _ (fun h : Pa = a => hne h.symm)).trans (hkp _ _ ha)) hda
      (Heap.get?_update_self _ (hkp _ _ hP) rfl) (by simp [hacc, strValues]) (by simp [List.take_add_one, ht, hdone]) fun h'' u tk' hh => ?_
    exact hR h'' u tk' fun b o hb e => hh b o hb ((Heap.get?_update_other _ _ (fun h : Pa = b => hb h.symm)).trans (hkp _ _ e))

section
variable {prog : Program} {w : World}

/-- a list that is not under way -/
theorem listAtG {P : List Code → Prop} {h₀ : Heap} {d : Nat} {a : Addr} {oa : Obj} {x : Value} {l : List Value} {na : Nat} {ts : List Str}
    (ha : h₀.get? a = some oa) (hc : oa.cls = .type "list") (hda : oa.data = .seq (x :: l).toArray na) (hlen : ts.length = (x :: l).toArray.size)
    (hT : ∀ (i : Nat) (y : Value), (x :: l).toArray[i]? = some y → ∃ t, ts[i]? = some t ∧ ReprG prog w P h₀ d y t)
    {A : Around} {g : List Code} {s : Shared} {R : Result → Shared → Prop} {base : Nat}
    (hg : A.guards = some g) (hca : Clear g a) (hpush : ∀ rest, P (.builtin "list.__repr__.loop" ⟨.ref a :: rest, []⟩ :: g)) (hu : A.units + (d + 1) < cLine) (hk0 : Ge h₀ s.heap)
    (hR : ∀ h' u tk, Ge s.heap h' → R (.ok (.ret (.str (listText ts) u))) { s with heap := h', toks := tk })
    (hsz : base + (listText ts).length ≤ sizeLine) :
    wpAny (model prog w) A.in1 (Builtin.listReprAt base ⟨[.ref a], []⟩) (fun fin s' => match fin with | .done f => R (.ok f) s' | .again c' => c'.quiet = true ∧ codeAny (model prog w) A c' R s') (fun e s' => R (.error e) s') s := by
  have hPf : h₀.get? s.heap.objs.size = none := by
    cases e : h₀.get? s.heap.objs.size with
    | none => rfl
    | some o => exact absurd (Heap.lt_size (hk0 _ _ e)) (Nat.lt_irrefl _)
  refine wpAny_list_repr_head (A := A.in1) hg (fun v rest kw hm => listSameRef_of_ne (hca _ _ _ _ hm)) (hk0 _ _ ha) hda ?_
  refine wpAny_bind (m := newList []) (wpAny_newObj_type ?_)
  refine wpAny_pure ⟨F.quiet_list_repr_loop _, ?_⟩
  refine loopG (Pa := s.heap.objs.size) (Nat.ne_of_lt (Heap.lt_size (hk0 _ _ ha))) hg hpush hu hPf hlen hT hsz _ 0 _ oa na #[] _ [] rfl (Nat.zero_le _)
    (fun b o e => Heap.get?_push_of_some _ (hk0 _ _ e)) (Heap.get?_push_of_some _ (hk0 _ _ ha)) hda (Heap.get?_push_size _ rfl) rfl (by simp) fun h' u tk hk => ?_
  exact hR h' u tk fun b o e => hk b o (Nat.ne_of_lt (Heap.lt_size e)) (Heap.get?_push_of_some _ e)

theorem callListG {P : List Code → Prop} {h₀ : Heap} {d : Nat} {a : Addr} {oa : Obj} {x : Value} {l : List Value} {na : Nat} {ts : List Str}
    (ha : h₀.get? a = some oa) (hc : oa.cls = .type "list") (hda : oa.data = .seq (x :: l).toArray na) (hlen : ts.length = (x :: l).toArray.size)
    (hT : ∀ (i : Nat) (y : Value), (x :: l).toArray[i]? = some y → ∃ t, ts[i]? = some t ∧ ReprG prog w P h₀ d y t)
    {A : Around} {g : List Code} {E : Value → Shared → Prop} {s : Shared} {Q : Value → Shared → Prop}
    (hg : A.guards = some g) (hca : Clear g a) (hpush : ∀ rest, P (.builtin "list.__repr__.loop" ⟨.ref a :: rest, []⟩ :: g)) (hu : A.units + (d + 1) < cLine) (hk0 : Ge h₀ s.heap)
    (hQ : ∀ h' u tk, Ge s.heap h' → Q (.str (listText ts) u) { s with heap := h', toks := tk }) (hsz : (listText ts).length ≤ sizeLine) :
    wpAny (model prog w) A (call (.builtin "list.__repr__") [.ref a]) Q E s :=
  wpAny_call (codeAny_call_builtin F.slot_list_repr.plain F.entry_list_repr (F.slot_list_repr.check _ _ _ _ _ _ _ _ ⟨oa, hk0 _ _ ha, hc⟩ (F.args_list_repr_1 _)
    (listAtG (base := 0) (R := callEnd Q E) ha hc hda hlen hT hg hca hpush hu hk0 hQ (by omega))))

theorem ReprG.list {P P' : List Code → Prop} {h₀ : Heap} {d : Nat} {a : Addr} {oa : Obj} {x : Value} {l : List Value} {na : Nat} {ts : List Str}
    (ha : h₀.get? a = some oa) (hc : oa.cls = .type "list") (hda : oa.data = .seq (x :: l).toArray na) (hlen : ts.length = (x :: l).toArray.size)
    (hT : ∀ (i : Nat) (y : Value), (x :: l).toArray[i]? = some y → ∃ t, ts[i]? = some t ∧ ReprG prog w P' h₀ d y t)
    (hca : ∀ g, P g → Clear g a) (hpush : ∀ g, P g → ∀ rest, P' (.builtin "list.__repr__.loop" ⟨.ref a :: rest, []⟩ :: g)) : ReprG prog w P h₀ (d + 1) (.ref a) (listText ts) := by
  intro base hb A g E s Q hg hp hu hk0 hQ
  refine wpAny_pyReprUnder_ref (by omega) ?_
  refine wpAny_pyReprObjUnder_twin (twin := "list.__repr__.under") ⟨oa, hk0 _ _ ha, hc⟩ F.slot_list_repr.toG rfl (by omega) ?_
  exact call_twin_plain F.plain_list_repr_under F.entry_list_repr_under F.check_list_repr_under ⟨oa, hk0 _ _ ha, hc⟩ F.slot_list_repr.toG (F.args_list_repr_1 _)
    (listAtG (R := callEnd (fun v s' => (∃ x u, v = .str x u) ∧ ∃ x u, v = .str x u ∧ Q x s') E) ha hc hda hlen hT hg (hca g hp) (hpush g hp) hu hk0 (fun h' u tk hk => ⟨⟨_, _, rfl⟩, _, _, rfl, hQ h' tk hk⟩) hb)

theorem ReprG.listEmpty {P : List Code → Prop} {h₀ : Heap} {d : Nat} {a : Addr} {oa : Obj} {na : Nat} (ha : h₀.get? a = some oa) (hc : oa.cls = .type "list") (hda : oa.data = .seq #[] na) : ReprG prog w P h₀ (d + 1) (.ref a) "[]" := by
  intro base hb A g E s Q _ _ hu hk0 hQ
  exact wpAny_pyReprUnder_ref (by omega) (wpAny_pyReprObjUnder_list_empty ⟨oa, hk0 _ _ ha, hc⟩ (by omega) (hk0 _ _ ha) hda ⟨_, _, rfl, hQ s.heap _ fun _ _ e => e⟩)

/-- a list that is under way: three dots -/
theorem ReprG.listRun {P : List Code → Prop} {h₀ : Heap} {d : Nat} {a : Addr} {oa : Obj} {x : Value} {l : List Value} {na : Nat}
    (ha : h₀.get? a = some oa) (hc : oa.cls = .type "list") (hda : oa.data = .seq (x :: l).toArray na)
    (hrun : ∀ g, P g → ∃ rest, Code.builtin "list.__repr__.loop" ⟨.ref a :: rest, []⟩ ∈ g) : ReprG prog w P h₀ (d + 1) (.ref a) "[...]" := by
  intro base hb A g E s Q hg hp hu hk0 hQ
  refine wpAny_pyReprUnder_ref (by omega) ?_
  refine wpAny_pyReprObjUnder_twin (twin := "list.__repr__.under") ⟨oa, hk0 _ _ ha, hc⟩ F.slot_list_repr.toG rfl (by omega) ?_
  refine call_twin_own (plainId_quiet F.plain_list_repr_under _) F.entry_list_repr_under F.check_list_repr_under ⟨oa, hk0 _ _ ha, hc⟩ F.slot_list_repr.toG (F.args_list_repr_1 _) ?_
  intro Γ p hcode hΓ
  obtain ⟨rest, hm⟩ := hrun g hp
  have hin : Code.builtin "list.__repr__.loop" ⟨.ref a :: rest, []⟩ ∈ guardsOf Γ.below := by rw [hΓ.2.2.2.1 g hg]; exact hm
  unfold Builtin.listReprAt
  simp [slotArgs, Builtin.List.listItems, seqItems?, Sem.wp_load_of (h := hk0 _ _ ha), hda, stack]
  show Sem.wp _ Γ (if (Γ.below.any _) = true then _ else _) _ _ p s
  rw [if_pos]
  · refine (wpAny_bind (A := A.under Γ.code) (m := rule "list.__repr__.in-itself") (f := fun _ => retStr (Str.ofString "[...]")) (wpAny_rule (wpAny_bind (wpAny_mkStr (wpAny_pure ?_) (by show 5 ≤ sizeLine; decide))))) Γ p hΓ.in
    exact ⟨⟨_, _, rfl⟩, _, ⟨_, rfl⟩, hQ s.heap _ fun _ _ e => e⟩
  · have h1 := (List.mem_filter.mp hin).1
    obtain ⟨q, hq, e⟩ := List.mem_map.mp h1
    refine List.any_eq_true.mpr ⟨q, hq, ?_⟩
    obtain ⟨c, pc⟩ := q
    have e' : c = Code.builtin "list.__repr__.loop" ⟨.ref a :: rest, []⟩ := e
    subst e'
    show (a == a) = true
    exact beq_self_eq_true a

/-- tuples -/
inductive AllG (prog : Program) (w : World) (P : List Code → Prop) (h₀ : Heap) (d : Nat) : List Value → List Str → Prop
  | nil : AllG prog w P h₀ d [] []
  | cons {x : Value} {t : Str} {l : List Value} {ts : List Str} : ReprG prog w P h₀ d x t → AllG prog w P h₀ d l ts → AllG prog w P h₀ d (x :: l) (t :: ts)
theorem AllG.len {P : List Code → Prop} {h₀ : Heap} {d : Nat} : ∀ {l : List Value} {ts : List Str}, AllG prog w P h₀ d l ts → ts.length = l.length
  | _, _, .nil => rfl
  | _, _, .cons _ h => by simp [h.len]
theorem AllG.item {P : List Code → Prop} {h₀ : Heap} {d : Nat} : ∀ {l : List Value} {ts : List Str}, AllG prog w P h₀ d l ts → ∀ (i : Nat) (x : Value), l[i]? = some x → ∃ t, ts[i]? = some t ∧ ReprG prog w P h₀ d x t
  | _, _, .nil, _, _, q => by simp at q
  | _, _, .cons hx _, 0, _, q => by simp at q; subst q; exact ⟨_, rfl, hx⟩
  | _, _, .cons _ hl, i + 1, x, q => by
    obtain ⟨t, ht, r⟩ := hl.item i x (by simpa using q)
    exact ⟨t, by simpa using ht, r⟩

theorem tupFoldG {A : Around} {E : Value → Shared → Prop} {P : List Code → Prop} {h₀ : Heap} {d : Nat} {g : List Code} (hg : A.guards = some g) (hp : P g) (hu : A.units + d < cLine) : ∀ (l : List Value) (ts : List Str) (acc : Array Str) (n : Nat) (s : Shared) (Q : (Array Str × Nat) → Shared → Prop), AllG prog w P h₀ d l ts → n + piled ts ≤ sizeLine →
    Ge h₀ s.heap → (∀ h' tk, Ge s.heap h' → Q ⟨acc ++ ts.toArray, n + piled ts⟩ { s with heap := h', toks := tk }) →
    wpAny (model prog w) A (forIn l (⟨acc, n⟩ : (Array Str × Nat)) tupBody) Q E s := by
  intro l
  induction l with
  | nil =>
    intro ts acc n s Q hT _ _ h
    cases hT
    have h0 := h s.heap s.toks fun _ _ e => e
    simp only [List.forIn_nil]
    exact wpAny_pure (by simpa [piled] using h0)
  | cons x l ih =>
    intro ts acc n s Q hT hn hk0 h
    cases hT with
    | cons hx hl =>
      rename_i t ts'
      rw [piled_cons] at hn
      rw [List.forIn_cons]
      refine wpAny_bind (wpAny_bind (hx (n + 1) (by omega) _ _ _ _ _ hg hp hu hk0 fun h' tk hkp => wpAny_pure ?_))
      refine ih ts' (acc.push t) (n + (t.length + 2)) _ Q hl (by omega) (fun b o e => hkp _ _ (hk0 _ _ e)) fun h'' tk' hk2 => ?_
      have h1 := h h'' tk' fun b o e => hk2 _ _ (hkp _ _ e)
      rw [show n + piled (t :: ts') = n + (t.length + 2) + piled ts' by rw [piled_cons]; omega] at h1
      simpa using h1

theorem tupAtG {P : List Code → Prop} {h₀ : Heap} {d : Nat} {a : Addr} {o : Obj} {items : Array Value} {n : Nat} {ts : List Str}
    (ha : h₀.get? a = some o) (hd : o.data = .seq items n) (hT : AllG prog w P h₀ d items.toList ts)
    {A : Around} {g : List Code} {s : Shared} {R : Result → Shared → Prop} {base : Nat} {id : String} {rest : List Value}
    (hcg : (Code.builtin id ⟨.ref a :: rest, []⟩).isGuard = true) (hcu : (A.under (.builtin id ⟨.ref a :: rest, []⟩)).units = A.units + 1)
    (hg : A.guards = some g) (hca : Clear g a) (hp : P (.builtin id ⟨.ref a :: rest, []⟩ :: g)) (hu : A.units + (d + 1) < cLine) (hk0 : Ge h₀ s.heap)
    (hR : ∀ h' u tk, Ge s.heap h' → R (.ok (.ret (.str (tupleText ts) u))) { s with heap := h', toks := tk })
    (hsz : base + (tupleText ts).length ≤ sizeLine) :
    wpOwn (model prog w) A (.builtin id ⟨.ref a :: rest, []⟩) (Builtin.tupleReprAt base ⟨[.ref a], []⟩) (fun fin s' => match fin with | .done f => R (.ok f) s' | .again c' => c'.quiet = true ∧ codeAny (model prog w) A c' R s') (fun e s' => R (.error e) s') s := by
  have hlen : ts.length = items.size := by simpa using hT.len
  have hpl := piled_le_tupleText ts
  rw [tuple_repr_tree, tupleReprUnderWay_eq]
  refine wpOwn_bind (wpOwn_stackTailAny hg (tupGuardF_off _) (tupGuardF_pos _) ?_)
  rw [show (g.any fun c => tupGuardF (.ref a) (c, default)) = false from List.any_eq_false.mpr fun c hcm => by rw [tupGuardF_of_clear hca c hcm]; exact Bool.false_ne_true]
  refine wpOwn_of_wpAny ?_
  show wpAny _ _ (tupleReprRest base (.ref a)) _ _ s
  unfold tupleReprRest Builtin.Tuple.tupleItemsOf
  refine wpAny_bind (wpAny_bind (wpAny_seqItems (hk0 _ _ ha) hd (wpAny_pure ?_)))
  rw [← Array.forIn_toList]
  refine wpAny_bind (tupFoldG (guards_under_guard hcg hg) hp (by rw [hcu]; omega) _ ts _ _ _ _ hT (by omega) hk0 fun h' tk hkp => ?_)
  refine wpAny_bind (wpAny_mkStr (wpAny_pure ?_) (by have : (tupleText ts).length ≤ sizeLine := by omega
                                                     simpa [tupleText, hlen] using this))
  have h1 := hR h' tk (tk + 1) hkp
  simpa [tupleText, hlen] using h1

theorem callTupG {P : List Code → Prop} {h₀ : Heap} {d : Nat} {a : Addr} {o : Obj} {items : Array Value} {n : Nat} {ts : List Str}
    (ha : h₀.get? a = some o) (hc : o.cls = .type "tuple") (hd : o.data = .seq items n) (hT : AllG prog w P h₀ d items.toList ts)
    {A : Around} {g : List Code} {E : Value → Shared → Prop} {s : Shared} {Q : Value → Shared → Prop}
    (hg : A.guards = some g) (hca : Clear g a) (hp : P (.builtin "tuple.__repr__" ⟨[.ref a], []⟩ :: g)) (hu : A.units + (d + 1) < cLine) (hk0 : Ge h₀ s.heap)
    (hQ : ∀ h' u tk, Ge s.heap h' → Q (.str (tupleText ts) u) { s with heap := h', toks := tk }) (hsz : (tupleText ts).length ≤ sizeLine) :
    wpAny (model prog w) A (call (.builtin "tuple.__repr__") [.ref a]) Q E s :=
  wpAny_call (codeAny_call_builtin_own (Code.quiet_builtin _ (by decide +kernel)) F.entry_tuple_repr (F.slot_tuple_repr.check _ _ _ _ _ _ _ _ ⟨o, hk0 _ _ ha, hc⟩ (F.args_tuple_repr_1 _)
    (tupAtG (base := 0) (R := callEnd Q E) ha hd hT (isGuard_tuple_repr _) (units_under_tuple_repr _ _) hg hca hp hu hk0 hQ (by omega))))

theorem ReprG.tuple {P P' : List Code → Prop} {h₀ : Heap} {d : Nat} {a : Addr} {o : Obj} {items : Array Value} {n : Nat} {ts : List Str}
    (ha : h₀.get? a = some o) (hc : o.cls = .type "tuple") (hd : o.data = .seq items n) (hT : AllG prog w P' h₀ d items.toList ts)
    (hca : ∀ g, P g → Clear g a) (hpush : ∀ g, P g → ∀ rest, P' (.builtin "tuple.__repr__.under" ⟨.ref a :: rest, []⟩ :: g)) : ReprG prog w P h₀ (d + 1) (.ref a) (tupleText ts) := by
  intro base hb A g E s Q hg hp hu hk0 hQ
  refine wpAny_pyReprUnder_ref (by omega) ?_
  refine wpAny_pyReprObjUnder_twin (twin := "tuple.__repr__.under") ⟨o, hk0 _ _ ha, hc⟩ F.slot_tuple_repr rfl (by omega) ?_
  exact call_twin_own (F.quiet_tuple_repr_under _) F.entry_tuple_repr_under F.check_tuple_repr_under ⟨o, hk0 _ _ ha, hc⟩ F.slot_tuple_repr (F.args_tuple_repr_1 _)
    (tupAtG (R := callEnd (fun v s' => (∃ x u, v = .str x u) ∧ ∃ x u, v = .str x u ∧ Q x s') E) ha hd hT (isGuard_tuple_repr_under _) (units_under_tuple_repr_under _ _) hg (hca g hp) (hpush g hp _) hu hk0 (fun h' u tk hk => ⟨⟨_, _, rfl⟩, _, _, rfl, hQ h' tk hk⟩) hb)

theorem ReprG.tupleRun {P : List Code → Prop} {h₀ : Heap} {d : Nat} {a : Addr} {o : Obj} {items : Array Value} {n : Nat}
    (ha : h₀.get? a = some o) (hc : o.cls = .type "tuple") (hd : o.data = .seq items n)
    (hrun : ∀ g, P g → ∃ id rest, Code.builtin id ⟨.ref a :: rest, []⟩ ∈ g ∧ (id = "tuple.__repr__" ∨ id = "tuple.__repr__.under")) : ReprG prog w P h₀ (d + 1) (.ref a) "(...)" := by
  intro base hb A g E s Q hg hp hu hk0 hQ
  refine wpAny_pyReprUnder_ref (by omega) ?_
  refine wpAny_pyReprObjUnder_twin (twin := "tuple.__repr__.under") ⟨o, hk0 _ _ ha, hc⟩ F.slot_tuple_repr rfl (by omega) ?_
  refine call_twin_own (F.quiet_tuple_repr_under _) F.entry_tuple_repr_under F.check_tuple_repr_under ⟨o, hk0 _ _ ha, hc⟩ F.slot_tuple_repr (F.args_tuple_repr_1 _) ?_
  rw [tuple_repr_tree, tupleReprUnderWay_eq]
  refine wpOwn_bind (wpOwn_stackTailAny hg (tupGuardF_off _) (tupGuardF_pos _) ?_)
  obtain ⟨id, rest, hm, hid⟩ := hrun g hp
  rw [show (g.any fun c => tupGuardF (.ref a) (c, default)) = true from List.any_eq_true.mpr ⟨_, hm, by rcases hid with rfl | rfl <;> simp [tupGuardF]⟩]
  refine wpOwn_of_wpAny ?_
  show wpAny _ _ (do rule "tuple.repr.in-itself"; retStr "(...)") _ _ s
  refine wpAny_bind (wpAny_rule (wpAny_bind (wpAny_mkStr (wpAny_pure ?_) (by show 5 ≤ sizeLine; decide))))
  exact ⟨⟨_, _, rfl⟩, _, _, rfl, hQ s.heap _ fun _ _ e => e⟩
end
end Mine

namespace Mine
open Builtin Builtin.List

section
variable {prog : Program} {w : World}

inductive EntG (prog : Program) (w : World) (P : List Code → Prop) (h₀ : Heap) (d : Nat) : List DictEntry → List Str → Prop
  | nil : EntG prog w P h₀ d [] []
  | cons {e : DictEntry} {k v : Str} {es : List DictEntry} {ps : List Str} : ReprG prog w P h₀ d e.key k → ReprG prog w P h₀ d e.val v → EntG prog w P h₀ d es ps → EntG prog w P h₀ d (e :: es) ((k ++ ": " ++ v) :: ps)
theorem EntG.len {P : List Code → Prop} {h₀ : Heap} {d : Nat} : ∀ {es : List DictEntry} {ps : List Str}, EntG prog w P h₀ d es ps → ps.length = es.length
  | _, _, .nil => rfl
  | _, _, .cons _ _ h => by simp [h.len]
theorem EntG.item {P : List Code → Prop} {h₀ : Heap} {d : Nat} : ∀ {es : List DictEntry} {ps : List Str}, EntG prog w P h₀ d es ps → ∀ (i : Nat) (e : DictEntry), es[i]? = some e →
    ∃ k v : Str, ps[i]? = some (k ++ ": " ++ v) ∧ ReprG prog w P h₀ d e.key k ∧ ReprG prog w P h₀ d e.val v
  | _, _, .nil, _, _, q => by simp at q
  | _, _, .cons hk hv _, 0, _, q => by simp at q; subst q; exact ⟨_, _, rfl, hk, hv⟩
  | _, _, .cons _ _ hl, i + 1, e, q => by
    obtain ⟨k, v, hp, r⟩ := hl.item i e (by simpa using q)
    exact ⟨k, v, by simpa using hp, r⟩

theorem dictAtG {P : List Code → Prop} {h₀ : Heap} {d : Nat} {a : Addr} {o : Obj} {es : Array DictEntry} {n : Nat} {ps : List Str}
    (ha : h₀.get? a = some o) (hc : o.cls = .type "dict") (hd : o.data = .dict es n) (hsys : (a == sysModules) = false) (hE : EntG prog w P h₀ d es.toList ps)
    {A : Around} {g : List Code} {s : Shared} {R : Result → Shared → Prop} {base : Nat} {id : String} {rest : List Value}
    (hcg : (Code.builtin id ⟨.ref a :: rest, []⟩).isGuard = true) (hcu : (A.under (.builtin id ⟨.ref a :: rest, []⟩)).units = A.units + 1)
    (hg : A.guards = some g) (hca : Clear g a) (hp : P (.builtin id ⟨.ref a :: rest, []⟩ :: g)) (hu : A.units + (d + 1) < cLine) (hk0 : Ge h₀ s.heap)
    (hR : ∀ h' u tk, Ge s.heap h' → R (.ok (.ret (.str (dictText ps) u))) { s with heap := h', toks := tk })
    (hsz : base + (dictText ps).length ≤ sizeLine) :
    wpOwn (model prog w) A (.builtin id ⟨.ref a :: rest, []⟩) (Builtin.dictReprAt base ⟨[.ref a], []⟩) (fun fin s' => match fin with | .done f => R (.ok f) s' | .again c' => c'.quiet = true ∧ codeAny (model prog w) A c' R s') (fun e s' => R (.error e) s') s := by
  have hTy : s.TypeIs (.ref a) "dict" := ⟨o, hk0 _ _ ha, hc⟩
  have hlen : ps.length = es.size := by simpa using hE.len
  have hp3 := piled_le_dictText ps
  have hsz0 : (dictText ps).length ≤ sizeLine := by omega
  unfold Builtin.dictReprAt
  refine wpOwn_bind (wpOwn_of_wpAny ?_)
  unfold Builtin.Dict.dictSlotNone
  refine wpAny_bind (wpAny_notOrdered_dict hTy ?_)
  show wpAny _ _ (pure (Value.ref a)) _ _ s
  refine wpAny_pure ?_
  rw [dictReprRunning_eq]
  refine wpOwn_bind (wpOwn_stackTailAny hg (dictGuardF_off _) (dictGuardF_pos _) ?_)
  rw [show (g.any fun c => dictGuardF (.ref a) (c, default)) = false from List.any_eq_false.mpr fun c hcm => by rw [dictGuardF_of_clear hca c hcm]; exact Bool.false_ne_true]
  refine wpOwn_of_wpAny ?_
  have hg' := guards_under_guard hcg hg
  have hu' : (A.under (.builtin id ⟨.ref a :: rest, []⟩)).units + d < cLine := by rw [hcu]; omega
  show wpAny _ _ (Builtin.Dict.addrOf (.ref a) >>= _) _ _ s
  refine wpAny_bind (wpAny_pure ?_)
  show wpAny _ _ (Builtin.Dict.showsAll a >>= _) _ _ s
  unfold Builtin.Dict.showsAll
  rw [if_neg (by rw [hsys]; exact Bool.false_ne_true)]
  refine wpAny_bind (wpAny_pure ?_)
  refine wpAny_bind (wpAny_dictEpoch (hk0 _ _ ha) hd ?_)
  refine wpAny_bind (wpAny_dictEntries (hk0 _ _ ha) hd ?_)
  refine wpAny_bind ?_
  rw [Std.Legacy.Range.forIn_eq_forIn_range']
  simp only [Std.Legacy.Range.size, Nat.sub_zero, Nat.add_sub_cancel, Nat.div_one]
  refine wpAny_forIn_list _
    (fun rest' r s' => ∃ i h' tk, rest' = List.range' i (es.size - i) ∧ i ≤ es.size ∧ r = (⟨(ps.take i).toArray, base + piled (ps.take i)⟩ : (Array Str × Nat)) ∧ s' = { s with heap := h', toks := tk } ∧ Ge s.heap h')
    _ ?_ ?_ _ _ ⟨0, s.heap, s.toks, by simp, Nat.zero_le _, by simp [piled], rfl, fun _ _ e => e⟩
  · rintro x rest' _ s' ⟨i, h', tk, hr, hi, rfl, rfl, hkp⟩
    have hlt : i < es.size := by
      rcases Nat.lt_or_ge i es.size with h | h
      · exact h
      · rw [Nat.sub_eq_zero_of_le h] at hr; simp at hr
    obtain ⟨rfl, hrest⟩ : x = i ∧ rest' = List.range' (i + 1) (es.size - (i + 1)) := by
      rw [show es.size - i = (es.size - (i + 1)) + 1 by omega, List.range'_succ] at hr
      injection hr with h1 h2
      exact ⟨h1, h2⟩
    obtain ⟨k, v, hpx, rk, rv⟩ := hE.item x es[x] (by simp [hlt])
    have hpl : (k ++ ": " ++ v).length = k.length + 2 + v.length := by rw [strLen_append, strLen_append]; rfl
    have hp1 := piled_take_succ hpx
    have hp2 := piled_take_le ps (x + 1)
    rw [hpl] at hp1
    refine wpAny_bind (wpAny_dictEntries (hkp _ _ (hk0 _ _ ha)) hd ?_)
    rw [Array.getElem?_eq_getElem hlt]
    refine wpAny_bind (wpAny_holding (wpAny_bind (rk (base + piled (ps.take x) + 1) (by omega) _ _ _ _ _ hg' hp hu' (fun b o e => hkp _ _ (hk0 _ _ e)) fun h1 t1 hk1 =>
      wpAny_bind (rv (base + piled (ps.take x) + (k.length + 3)) (by omega) _ _ _ _ _ hg' hp hu' (fun b o e => hk1 _ _ (hkp _ _ (hk0 _ _ e))) fun h2 t2 hk2 => wpAny_pure ?_))))
    refine wpAny_bind (wpAny_dictEpoch (hk2 _ _ (hk1 _ _ (hkp _ _ (hk0 _ _ ha)))) hd ?_)
    rw [if_neg (by simp)]
    refine wpAny_pure ⟨x + 1, h2, t2, hrest, hlt, ?_, rfl, fun b o e => hk2 _ _ (hk1 _ _ (hkp _ _ e))⟩
    rw [show (ps.take x).toArray.push (k ++ ": " ++ v) = (ps.take (x + 1)).toArray by rw [List.take_add_one, hpx]; simp,
      show base + piled (ps.take x) + (k.length + v.length + 4) = base + piled (ps.take (x + 1)) by omega]
  · rintro _ s' ⟨i, h', tk, hr, hi, rfl, rfl, hkp⟩
    have hin : i = es.size := by
      rcases Nat.lt_or_ge i es.size with h | h
      · rw [show es.size - i = (es.size - (i + 1)) + 1 by omega, List.range'_succ] at hr; exact nomatch hr
      · exact Nat.le_antisymm hi h
    rw [hin, ← hlen, List.take_length]
    refine wpAny_bind (wpAny_mkStr (wpAny_pure ?_) (by simpa [dictText] using hsz0))
    have h1 := hR h' tk (tk + 1) hkp
    simpa [dictText] using h1

theorem callDictG {P : List Code → Prop} {h₀ : Heap} {d : Nat} {a : Addr} {o : Obj} {es : Array DictEntry} {n : Nat} {ps : List Str}
    (ha : h₀.get? a = some o) (hc : o.cls = .type "dict") (hd : o.data = .dict es n) (hsys : (a == sysModules) = false) (hE : EntG prog w P h₀ d es.toList ps)
    {A : Around} {g : List Code} {E : Value → Shared → Prop} {s : Shared} {Q : Value → Shared → Prop}
    (hg : A.guards = some g) (hca : Clear g a) (hp : P (.builtin "dict.__repr__" ⟨[.ref a], []⟩ :: g)) (hu : A.units + (d + 1) < cLine) (hk0 : Ge h₀ s.heap)
    (hQ : ∀ h' u tk, Ge s.heap h' → Q (.str (dictText ps) u) { s with heap := h', toks := tk }) (hsz : (dictText ps).length ≤ sizeLine) :
    wpAny (model prog w) A (call (.builtin "dict.__repr__") [.ref a]) Q E s :=
  wpAny_call (codeAny_call_builtin_own (Code.quiet_builtin _ (by decide +kernel)) F.entry_dict_repr (F.slot_dict_repr.check _ _ _ _ _ _ _ _ ⟨o, hk0 _ _ ha, hc⟩ (F.args_dict_repr_1 _)
    (dictAtG (base := 0) (R := callEnd Q E) ha hc hd hsys hE (isGuard_dict_repr _) (units_under_dict_repr _ _) hg hca hp hu hk0 hQ (by omega))))

theorem ReprG.dict {P P' : List Code → Prop} {h₀ : Heap} {d : Nat} {a : Addr} {o : Obj} {es : Array DictEntry} {n : Nat} {ps : List Str}
    (ha : h₀.get? a = some o) (hc : o.cls = .type "dict") (hd : o.data = .dict es n) (hsys : (a == sysModules) = false) (hE : EntG prog w P' h₀ d es.toList ps)
    (hca : ∀ g, P g → Clear g a) (hpush : ∀ g, P g → ∀ rest, P' (.builtin "dict.__repr__.under" ⟨.ref a :: rest, []⟩ :: g)) : ReprG prog w P h₀ (d + 1) (.ref a) (dictText ps) := by
  intro base hb A g E s Q hg hp hu hk0 hQ
  refine wpAny_pyReprUnder_ref (by omega) ?_
  refine wpAny_pyReprObjUnder_twin (twin := "dict.__repr__.under") ⟨o, hk0 _ _ ha, hc⟩ F.slot_dict_repr rfl (by omega) ?_
  exact call_twin_own (F.quiet_dict_repr_under _) F.entry_dict_repr_under F.check_dict_repr_under ⟨o, hk0 _ _ ha, hc⟩ F.slot_dict_repr (F.args_dict_repr_1 _)
    (dictAtG (R := callEnd (fun v s' => (∃ x u, v = .str x u) ∧ ∃ x u, v = .str x u ∧ Q x s') E) ha hc hd hsys hE (isGuard_dict_repr_under _) (units_under_dict_repr_under _ _) hg (hca g hp) (hpush g hp _) hu hk0 (fun h' u tk hk => ⟨⟨_, _, rfl⟩, _, _, rfl, hQ h' tk hk⟩) hb)

theorem ReprG.dictRun {P : List Code → Prop} {h₀ : Heap} {d : Nat} {a : Addr} {o : Obj} {es : Array DictEntry} {n : Nat}
    (ha : h₀.get? a = some o) (hc : o.cls = .type "dict") (hd : o.data = .dict es n)
    (hrun : ∀ g, P g → ∃ id rest, Code.builtin id ⟨.ref a :: rest, []⟩ ∈ g ∧ (id = "dict.__repr__" ∨ id = "dict.__repr__.under")) : ReprG prog w P h₀ (d + 1) (.ref a) "{...}" := by
  intro base hb A g E s Q hg hp hu hk0 hQ
  have hTy : s.TypeIs (.ref a) "dict" := ⟨o, hk0 _ _ ha, hc⟩
  refine wpAny_pyReprUnder_ref (by omega) ?_
  refine wpAny_pyReprObjUnder_twin (twin := "dict.__repr__.under") hTy F.slot_dict_repr rfl (by omega) ?_
  refine call_twin_own (F.quiet_dict_repr_under _) F.entry_dict_repr_under F.check_dict_repr_under hTy F.slot_dict_repr (F.args_dict_repr_1 _) ?_
  unfold Builtin.dictReprAt
  refine wpOwn_bind (wpOwn_of_wpAny ?_)
  unfold Builtin.Dict.dictSlotNone
  refine wpAny_bind (wpAny_notOrdered_dict hTy ?_)
  show wpAny _ _ (pure (Value.ref a)) _ _ s
  refine wpAny_pure ?_
  rw [dictReprRunning_eq]
  refine wpOwn_bind (wpOwn_stackTailAny hg (dictGuardF_off _) (dictGuardF_pos _) ?_)
  obtain ⟨id, rest, hm, hid⟩ := hrun g hp
  rw [show (g.any fun c => dictGuardF (.ref a) (c, default)) = true from List.any_eq_true.mpr ⟨_, hm, by rw [dictGuardF_cons]; simp [hid]⟩]
  refine wpOwn_of_wpAny ?_
  show wpAny _ _ (do rule "dict.__repr__.in-itself"; retStr "{...}") _ _ s
  refine wpAny_bind (wpAny_rule (wpAny_bind (wpAny_mkStr (wpAny_pure ?_) (by show 5 ≤ sizeLine; decide))))
  exact ⟨⟨_, _, rfl⟩, _, _, rfl, hQ s.heap _ fun _ _ e => e⟩
end
end Mine

namespace Mine
open Builtin.Str in
theorem chr_plain : ∀ c : Fin 26, reprChar 39 (c.val + 97) = [c.val + 97] := by decide +kernel
open Builtin.Str in
theorem chr_plain' {c : Nat} (h : 97 ≤ c ∧ c ≤ 122) : reprChar 39 c = [c] := by
  have := chr_plain ⟨c - 97, by omega⟩
  simpa [show c - 97 + 97 = c by omega] using this

open Builtin.Str in
theorem fold_plain : ∀ (l : List Nat) (acc : Array Nat), (∀ c ∈ l, 97 ≤ c ∧ c ≤ 122) → l.foldl (fun out c => out ++ (reprChar 39 c).toArray) acc = acc ++ l.toArray
  | [], acc, _ => by simp
  | c :: l, acc, h => by
    rw [List.foldl_cons, chr_plain' (h c (.head _)), fold_plain l _ fun c hc => h c (.tail _ hc)]
    simp

theorem repr_plain {x : Str} (h : ∀ c ∈ x.cps.toList, 97 ≤ c ∧ c ≤ 122) : reprText x = Str.ofString "'" ++ x ++ Str.ofString "'" := by
  have hq : reprQuote x = 39 := by
    unfold reprQuote
    rw [if_neg]
    intro hc
    simp only [Bool.and_eq_true] at hc
    have h1 : (39 : Nat) ∈ x.cps := by simpa using hc.1
    have := h 39 (by simpa using h1)
    omega
  have e1 : (Str.ofString "'").cps = #[39] := by decide +kernel
  unfold reprText
  rw [hq, ← Array.foldl_toList, fold_plain _ _ h]
  have : (Str.ofString "'" ++ x ++ Str.ofString "'") = ⟨(Str.ofString "'").cps ++ x.cps ++ (Str.ofString "'").cps⟩ := rfl
  rw [this, e1]
  congr 1

def Run (a : Addr) (k : Nat) (c : Code) : Prop := ∃ id rest, c = .builtin id ⟨.ref a :: rest, []⟩ ∧ (if k = 1 then id = "dict.__repr__" ∨ id = "dict.__repr__.under" else if k = 3 then id = "tuple.__repr__" ∨ id = "tuple.__repr__.under" else id = "list.__repr__.loop")
/-- the reprs under way are those of the things of the way -/
def GIs (t : Nat → Addr) (way : List Nat) (g : List Code) : Prop := (∀ c ∈ g, ∃ k ∈ way, Run (t k) k c) ∧ (∀ k ∈ way, ∃ c ∈ g, Run (t k) k c)

theorem GIs.push {t : Nat → Addr} {way : List Nat} {g : List Code} {k : Nat} {c : Code} (h : GIs t way g) (hr : Run (t k) k c) : GIs t (way ++ [k]) (c :: g) := by
  refine ⟨fun c' hc' => ?_, fun k' hk' => ?_⟩
  · rcases List.mem_cons.mp hc' with rfl | hc'
    · exact ⟨k, by simp, hr⟩
    · obtain ⟨k', hk', r⟩ := h.1 c' hc'
      exact ⟨k', by simp [hk'], r⟩
  · rcases List.mem_append.mp hk' with hk' | hk'
    · obtain ⟨c', hc', r⟩ := h.2 k' hk'
      exact ⟨c', .tail _ hc', r⟩
    · rw [List.mem_singleton] at hk'
      subst hk'
      exact ⟨c, .head _, hr⟩
theorem GIs.clear {t : Nat → Addr} {way : List Nat} {g : List Code} {k : Nat} (h : GIs t way g) (apart : ∀ i j, i < 4 → j < 4 → t i = t j → i = j) (hw : ∀ k ∈ way, k < 4) (hk : k < 4) (hn : k ∉ way) : Clear g (t k) := by
  intro id v rest kw hm e
  obtain ⟨k', hk', id', rest', e', _⟩ := h.1 _ hm
  injection e' with e1 e2
  injection e2 with e3 e4
  injection e3 with e5 e6
  rw [e] at e5
  have := apart k k' hk (hw k' hk') (by injection e5)
  subst this
  exact hn hk'

theorem wrap_list {k : Nat} (hk : k = 0 ∨ k = 2) (ts : List Str) : wrap k ts = listText ts := by
  rw [listText_eq_join]
  rcases hk with rfl | rfl <;> rfl
theorem wrap_dict (ts : List Str) : wrap 1 ts = dictText (keyed 0 ts) := by rfl
theorem wrap_tuple (ts : List Str) : wrap 3 ts = tupleText ts := by
  unfold wrap tupleText
  rw [show dress 3 ts = ts from rfl, show opn 3 = Str.ofString "(" from rfl]
  by_cases h : ts.length = 1
  · rw [h]
    have : clsOf 3 1 = Str.ofString ",)" := by decide +kernel
    rw [this]; rfl
  · have e : clsOf 3 ts.length = Str.ofString ")" := by
      unfold clsOf
      rw [if_neg fun q => h q.2]; rfl
    rw [e, if_neg (by simpa using h)]
theorem dots_list {k : Nat} (hk : k = 0 ∨ k = 2) : dots k = Str.ofString "[...]" := by rcases hk with rfl | rfl <;> decide +kernel
theorem dots_dict : dots 1 = Str.ofString "{...}" := by decide +kernel
theorem dots_tuple : dots 3 = Str.ofString "(...)" := by decide +kernel

section
variable {prog : Program} {w : World} {h₀ : Heap} {t : Nat → Addr} {ins : Nat → List Pc} {vT : Value}

theorem allG {P : List Code → Prop} {d : Nat} {f : Pc → Str} (H : ∀ v p, ThV t v p → OkPc p → ReprG prog w P h₀ d v (f p)) : ∀ {vs : List Value} {ps : List Pc}, Paired (ThV t) vs ps → (∀ p ∈ ps, OkPc p) → AllG prog w P h₀ d vs (ps.map f)
  | _, _, .nil, _ => .nil
  | _, _, .cons h r, ok => .cons (H _ _ h (ok _ (.head _))) (allG H r fun p hp => ok p (.tail _ hp))

theorem entG {P : List Code → Prop} {d : Nat} {f : Pc → Str} (H : ∀ v p, ThV t v p → OkPc p → ReprG prog w P h₀ d v (f p)) : ∀ {es : List DictEntry} {kvs : List (Int × Value)} {ps : List Pc} (i : Nat), i + ps.length ≤ 99 → Pairs (intKind prog w) es kvs → Paired (ThV t) (kvs.map (·.2)) ps → kvs.map (·.1) = (List.range' i ps.length).map (fun (i : Nat) => (i : Int)) → (∀ p ∈ ps, OkPc p) → EntG prog w P h₀ d es (keyed i (ps.map f))
  | _, _, ps, i, hi, .nil, hp, hk, ok => by
    cases hp
    exact .nil
  | _, _, ps, i, hi, .cons (kv := kv) hkey hval hr, hp, hk, ok => by
    rw [List.map_cons] at hp
    cases hp with
    | cons h1 h2 =>
      rename_i p ps
      rw [List.length_cons] at hi hk
      rw [List.range'_succ, List.map_cons, List.map_cons] at hk
      injection hk with k1 k2
      obtain ⟨tk, ek⟩ := Value.isInt_shape hkey
      refine .cons (k := Str.ofString (toString (i : Int))) ?_ ?_ (entG H (i + 1) (by omega) hr h2 k2 fun p hp => ok p (.tail _ hp))
      · rw [ek, k1]
        exact ReprG.of_is (ReprIs.int tk (log_num (by have : i < 10 ^ 90 := Nat.lt_of_lt_of_le (show i < 100 by omega) (by decide +kernel)
                                                      exact this))) _ _ _
      · rw [hval]
        exact H _ _ h1 (ok _ (.head _))

theorem listG {k n : Nat} {way : List Nat} (hk : k = 0 ∨ k = 2) (T : ThAt prog w h₀ vT t ins) (ok : OkIns ins) (hw : ∀ k ∈ way, k < 4) (hn : k ∉ way)
    (H : ∀ v p, ThV t v p → OkPc p → (ins k ≠ []) → ReprG prog w (GIs t (way ++ [k])) h₀ (n + 1) v (wr ins n p (way ++ [k])))
    {vs : List Value} (hL : h₀.IsList (t k) vs.toArray) (hP : Paired (ThV t) vs (ins k)) : ReprG prog w (GIs t way) h₀ (n + 1 + 1) (.ref (t k)) (wrap k ((ins k).map fun p => wr ins n p (way ++ [k]))) := by
  have hk4 : k < 4 := by omega
  obtain ⟨o, ho, hc, na, hd⟩ := hL
  rw [wrap_list hk]
  cases vs with
  | nil =>
    have e : ins k = [] := by revert hP; generalize ins k = q; intro hP; cases hP; rfl
    rw [e]
    exact ReprG.listEmpty ho hc hd
  | cons x l =>
    have e : ins k ≠ [] := by revert hP; generalize ins k = q; intro hP; cases hP; simp
    have hA := allG (f := fun p => wr ins n p (way ++ [k])) (fun v p h1 h2 => H v p h1 h2 e) hP (ok.pcs k)
    refine ReprG.list ho hc hd (by simpa using hA.len) (fun i y hy => hA.item i y (by simpa using hy)) (fun g hg => hg.clear T.apart hw hk4 hn) fun g hg rest => hg.push ⟨_, rest, rfl, ?_⟩
    rw [if_neg (by omega), if_neg (by omega)]

theorem dictG {n : Nat} {way : List Nat} (T : ThAt prog w h₀ vT t ins) (ok : OkIns ins) (hw : ∀ k ∈ way, k < 4)
    (H : ∀ v p, ThV t v p → OkPc p → (ins 1 ≠ []) → ReprG prog w (GIs t (way ++ [1])) h₀ (n + 1) v (wr ins n p (way ++ [1]))) :
    ∃ o es na, h₀.get? (t 1) = some o ∧ o.cls = .type "dict" ∧ o.data = .dict es na ∧ EntG prog w (GIs t (way ++ [1])) h₀ (n + 1) es.toList (keyed 0 ((ins 1).map fun p => wr ins n p (way ++ [1]))) := by
  obtain ⟨kvs, ⟨o, es, ep, ho, hx, hd, _, hpr, _⟩, hP, hkeys⟩ := T.t1
  refine ⟨o, es, ep, ho, hx.1, hd, ?_⟩
  by_cases e : ins 1 = []
  · rw [e] at hP hkeys ⊢
    have : kvs = [] := by cases kvs with | nil => rfl | cons _ _ => cases hP
    subst this
    generalize es.toList = l at hpr
    cases hpr
    exact .nil
  · exact entG (f := fun p => wr ins n p (way ++ [1])) (fun v p h1 h2 => H v p h1 h2 e) 0 (by have := ok.len 1; omega) hpr hP (by rw [hkeys, List.range_eq_range']) (ok.pcs 1)

theorem tupG {n : Nat} {way : List Nat} (T : ThAt prog w h₀ vT t ins) (ok : OkIns ins) 
    (H : ∀ v p, ThV t v p → OkPc p → (ins 3 ≠ []) → ReprG prog w (GIs t (way ++ [3])) h₀ (n + 1) v (wr ins n p (way ++ [3]))) :
    ∃ o items na, h₀.get? (t 3) = some o ∧ o.cls = .type "tuple" ∧ o.data = .seq items na ∧ AllG prog w (GIs t (way ++ [3])) h₀ (n + 1) items.toList ((ins 3).map fun p => wr ins n p (way ++ [3])) := by
  obtain ⟨vs, ⟨o, ho, hc, na, hd⟩, hP⟩ := T.t3
  refine ⟨o, _, na, ho, hc, hd, ?_⟩
  by_cases e : ins 3 = []
  · rw [e] at hP ⊢
    cases hP
    exact .nil
  · exact allG (f := fun p => wr ins n p (way ++ [3])) (fun v p h1 h2 => H v p h1 h2 e) hP (ok.pcs 3)

theorem runG {d k : Nat} {way : List Nat} (T : ThAt prog w h₀ vT t ins) (hw : ∀ k ∈ way, ins k ≠ []) (hk : k < 4) (hm : k ∈ way) : ReprG prog w (GIs t way) h₀ (d + 1) (.ref (t k)) (dots k) := by
  have hlist : ∀ {vs : List Value}, (k = 0 ∨ k = 2) → h₀.IsList (t k) vs.toArray → Paired (ThV t) vs (ins k) → ReprG prog w (GIs t way) h₀ (d + 1) (.ref (t k)) (dots k) := by
    intro vs hk' hL hP
    obtain ⟨o, ho, hc, na, hd⟩ := hL
    rw [dots_list hk']
    cases vs with
    | nil => exact absurd (by revert hP; generalize ins k = q; intro hP; cases hP; rfl) (hw k hm)
    | cons x l =>
      refine ReprG.listRun ho hc hd fun g hg => ?_
      obtain ⟨c, hc, id, rest, rfl, hid⟩ := hg.2 k hm
      rw [if_neg (by omega), if_neg (by omega)] at hid
      subst hid
      exact ⟨rest, hc⟩
  match k, hk with
  | 0, _ => obtain ⟨vs, hL, hP⟩ := T.t0; exact hlist (.inl rfl) hL hP
  | 2, _ => obtain ⟨vs, hL, hP⟩ := T.t2; exact hlist (.inr rfl) hL hP
  | 1, _ =>
    obtain ⟨kvs, ⟨o, es, ep, ho, hx, hd, _⟩, _⟩ := T.t1
    rw [dots_dict]
    refine ReprG.dictRun ho hx.1 hd fun g hg => ?_
    obtain ⟨c, hc, id, rest, rfl, hid⟩ := hg.2 1 hm
    exact ⟨id, rest, hc, by simpa using hid⟩
  | 3, _ =>
    obtain ⟨vs, ⟨o, ho, hc, na, hd⟩, _⟩ := T.t3
    rw [dots_tuple]
    refine ReprG.tupleRun ho hc hd fun g hg => ?_
    obtain ⟨c, hc, id, rest, rfl, hid⟩ := hg.2 3 hm
    exact ⟨id, rest, hc, by simpa using hid⟩

/-- every piece is shown as it is written -/
theorem showG (T : ThAt prog w h₀ vT t ins) (ok : OkIns ins) : ∀ (n : Nat) (p : Pc) (way : List Nat) (v : Value), n + way.length = 4 → way.Nodup → (∀ k ∈ way, k < 4) → (∀ k ∈ way, ins k ≠ []) → OkPc p → ThV t v p → ReprG prog w (GIs t way) h₀ (n + 1) v (wr ins n p way)
  | n, .num i, way, v, _, _, _, _, hok, hv => by
    obtain ⟨tk, rfl⟩ := hv
    rw [wr_num]
    exact ReprG.of_is (ReprIs.int tk (log_num hok)) _ _ _
  | n, .txt x, way, v, _, _, _, _, hok, hv => by
    obtain ⟨tk, rfl⟩ := hv
    rw [wr_txt, ← repr_plain hok.2]
    refine ReprG.of_is (ReprIs.str x tk ?_) _ _ _
    rw [repr_plain hok.2, len_append, len_append, show (Str.ofString "'").length = 1 from by decide +kernel]
    have := hok.1
    show _ ≤ 2 ^ 24
    omega
  | 0, .thing k, way, v, hn, hnd, hlt, hne, hok, hv => by
    cases hv
    rw [wr_thing0]
    exact runG T hne hok (mem_of_four hnd hlt (by omega) hok)
  | n + 1, .thing k, way, v, hn, hnd, hlt, hne, hok, hv => by
    cases hv
    rw [wr_thing]
    by_cases hm : k ∈ way
    · rw [if_pos hm]
      exact runG T hne hok hm
    · rw [if_neg hm]
      have H : ∀ v p, ThV t v p → OkPc p → (ins k ≠ []) → ReprG prog w (GIs t (way ++ [k])) h₀ (n + 1) v (wr ins n p (way ++ [k])) := by
        intro v p h1 h2 h3
        refine showG T ok n p (way ++ [k]) v (by rw [List.length_append]; show n + (way.length + 1) = 4; omega) ?_ ?_ ?_ h2 h1
        · rw [List.nodup_append]
          refine ⟨hnd, by simp, fun a ha b hb => ?_⟩
          rw [List.mem_singleton] at hb
          subst hb
          intro e; subst e; exact hm ha
        · intro j hj
          rcases List.mem_append.mp hj with hj | hj
          · exact hlt j hj
          · rw [List.mem_singleton] at hj; subst hj; exact hok
        · intro j hj
          rcases List.mem_append.mp hj with hj | hj
          · exact hne j hj
          · rw [List.mem_singleton] at hj; subst hj; exact h3
      have hok' : k < 4 := hok
      match k, hok' with
      | 0, _ => obtain ⟨vs, hL, hP⟩ := T.t0; exact listG (.inl rfl) T ok hlt hm H hL hP
      | 2, _ => obtain ⟨vs, hL, hP⟩ := T.t2; exact listG (.inr rfl) T ok hlt hm H hL hP
      | 1, _ =>
        obtain ⟨o, es, na, ho, hc, hd, hE⟩ := dictG T ok hlt H
        rw [wrap_dict]
        exact ReprG.dict ho hc hd T.sys hE (fun g hg => hg.clear T.apart hlt (by omega) hm) fun g hg rest => hg.push ⟨_, rest, rfl, by simp⟩
      | 3, _ =>
        obtain ⟨o, items, na, ho, hc, hd, hA⟩ := tupG T ok H
        rw [wrap_tuple]
        exact ReprG.tuple ho hc hd hA (fun g hg => hg.clear T.apart hlt (by omega) hm) fun g hg rest => hg.push ⟨_, rest, rfl, by simp⟩

theorem reprTop {A : Around} {E : Value → Shared → Prop} {s : Shared} {Q : Value → Shared → Prop} {k : Nat} (T : ThAt prog w h₀ vT t ins) (ok : OkIns ins) (hk : k < 4) (hg : A.guards = some []) (hu : A.units + 100 < cLine) (hk0 : Ge h₀ s.heap)
    (hQ : ∀ u s', Kp s s' → Q (.str (wr ins 4 (.thing k) []) u) s') : wpAny (model prog w) A (call (.builtin "repr") [.ref (t k)]) Q E s := by
  have hz : (wr ins 4 (.thing k) []).length ≤ sizeLine := Nat.le_trans (wr_fits ok (Nat.le_refl 4) (.thing k) [] hk) (by show _ ≤ 2 ^ 24; omega)
  have hG : GIs t [] [] := ⟨(fun c hc => nomatch hc), (fun k hk => nomatch hk)⟩
  rw [wr_thing, if_neg (by simp)] at hz hQ
  have H : ∀ v p, ThV t v p → OkPc p → (ins k ≠ []) → ReprG prog w (GIs t ([] ++ [k])) h₀ (3 + 1) v (wr ins 3 p ([] ++ [k])) := by
    intro v p h1 h2 h3
    exact showG T ok 3 p [k] v rfl (by simp) (fun j hj => by rw [List.mem_singleton] at hj; subst hj; exact hk) (fun j hj => by rw [List.mem_singleton] at hj; subst hj; exact h3) h2 h1
  have hlist : ∀ {vs : List Value}, (k = 0 ∨ k = 2) → h₀.IsList (t k) vs.toArray → Paired (ThV t) vs (ins k) → wpAny (model prog w) A (call (.builtin "repr") [.ref (t k)]) Q E s := by
    intro vs hk' hL hP
    obtain ⟨o, ho, hc, na, hd⟩ := hL
    refine call_repr_slot (by omega) ⟨o, hk0 _ _ ho, hc⟩ F.slot_list_repr.toG ?_
    rw [wrap_list hk'] at hz hQ
    cases vs with
    | nil =>
      have e : ins k = [] := by revert hP; generalize ins k = q; intro hP; cases hP; rfl
      rw [e] at hQ
      exact call_list_repr_empty ⟨o, hk0 _ _ ho, hc⟩ (hk0 _ _ ho) hd ⟨_, _, rfl, hQ _ _ (Kp.tok s _)⟩
    | cons x l =>
      have e : ins k ≠ [] := by revert hP; generalize ins k = q; intro hP; cases hP; simp
      have hA := allG (f := fun p => wr ins 3 p ([] ++ [k])) (fun v p h1 h2 => H v p h1 h2 e) hP (ok.pcs k)
      refine callListG (P := GIs t ([] ++ [k])) (d := 3 + 1) ho hc hd (by simpa using hA.len) (fun i y hy => hA.item i y (by simpa using hy)) hg (Clear.nil _) (fun rest => hG.push ⟨_, rest, rfl, ?_⟩) (by show A.units + 1 + _ < _; omega) hk0 (fun h' u tk hk' => ⟨_, _, rfl, hQ _ _ (Kp.of hk')⟩) hz
      rw [if_neg (by omega), if_neg (by omega)]
  match k, hk with
  | 0, _ => obtain ⟨vs, hL, hP⟩ := T.t0; exact hlist (.inl rfl) hL hP
  | 2, _ => obtain ⟨vs, hL, hP⟩ := T.t2; exact hlist (.inr rfl) hL hP
  | 1, _ =>
    obtain ⟨o, es, na, ho, hc, hd, hE⟩ := dictG (way := []) T ok (fun k hk => nomatch hk) H
    rw [wrap_dict] at hz hQ
    refine call_repr_slot (by omega) ⟨o, hk0 _ _ ho, hc⟩ F.slot_dict_repr ?_
    exact callDictG (P := GIs t ([] ++ [1])) (d := 3 + 1) ho hc hd T.sys hE hg (Clear.nil _) (hG.push ⟨_, [], rfl, by simp⟩) (by show A.units + 1 + _ < _; omega) hk0 (fun h' u tk hk' => ⟨_, _, rfl, hQ _ _ (Kp.of hk')⟩) hz
  | 3, _ =>
    obtain ⟨o, items, na, ho, hc, hd, hA⟩ := tupG (way := []) T ok H
    rw [wrap_tuple] at hz hQ
    refine call_repr_slot (by omega) ⟨o, hk0 _ _ ho, hc⟩ F.slot_tuple_repr ?_
    exact callTupG (P := GIs t ([] ++ [3])) (d := 3 + 1) ho hc hd hA hg (Clear.nil _) (hG.push ⟨_, [], rfl, by simp⟩) (by show A.units + 1 + _ < _; omega) hk0 (fun h' u tk hk' => ⟨_, _, rfl, hQ _ _ (Kp.of hk')⟩) hz
end
end Mine

namespace Mine

/-- a long text is cut at 80 signs -/
def cut (x : Str) : Str := if x.length < 80 then x else Txt.slice x none (some 80) ++ Str.ofString " [truncated]..."

section
variable {prog : Program} {w : World} {A : Around} {E : Value → Shared → Prop} {s : Shared} {env : Env}

/-- x[:j] of a text -/
theorem subSt {value u : Expr} {p pos : Pos} {Q : Value → Shared → Prop}
    (h : wpAny (model prog w) A (eval value env) (fun o s₁ => wpAny (model prog w) A (eval u env) (fun vu s₃ =>
      ∃ x t j tj, o = .str x t ∧ vu = .int j tj ∧ x.length ≤ sizeLine ∧ ∀ t' s', Kp s₃ s' → Q (.str (Txt.slice x none (some j)) t') s') E s₁) E s)
    (ht : ∀ o r, letTemporaryGo value o r = pure ()) :
    wpAny (model prog w) A (eval (.Subscript value (.Slice none (some u) none p) pos) env) Q E s := by
  refine wpAny_Subscript_str_slice (wpAny_mono h (fun o s₁ h₁ => evN (evS (wpAny_mono h₁ (fun vu s₃ h₃ => ?_) fun _ _ e => e))) fun _ _ e => e) ht
  obtain ⟨x, t, j, tj, rfl, rfl, hsz, hQ⟩ := h₃
  refine ⟨x, t, none, some (j, tj), rfl, rfl, rfl, ?_⟩
  exact post_val_or_str ⟨Nat.le_trans (Txt.slice_le x _ _) hsz, fun t' k => hQ t' _ ((Kp.push _ _).trans (Kp.tok _ _))⟩

/-- a call of a def of the text's own, its defaults being used -/
theorem callFD {f : Addr} {vals : List Value} {binds : List (Str × Value)} {o : Obj} {Q : Value → Shared → Prop} (G : Gd w s.heap) (hroom : A.depth < recursionLimit)
    (ho : (KK w).lookup f = some o) (hdata : o.data = .func (fdAt w f)) (hcd : codeIn (KK w) (fdAt w f).code (fdAt w f).qualname = true) (hbody : (fdAt w f).body = .stmts (bodyAt w f))
    (hbind : BindsTo s (fdAt w f) ⟨vals, []⟩ binds) (hclo : (fdAt w f).closure = [])
    (hkind : (binds.all fun y => (fdAt w f).scope.names.lookup y.1 == some .local || (fdAt w f).scope.names.lookup y.1 == some .cell) = true)
    (h : ∀ s₁, Fm s (ev w f s.heap.objs.size) (bindL (ev w f s.heap.objs.size).kindOf binds fun _ => none) (bindC (ev w f s.heap.objs.size).kindOf binds fun _ => none) [] s₁ → Gd w s₁.heap →
      wpAny (model prog w) (A.deeper (ev w f s.heap.objs.size)) (execs (bodyAt w f) (ev w f s.heap.objs.size)) (fun fl s' => match fl with | .ret v => Q v s' | _ => Q .none s')
        (fun e s' => wpAny (model prog w) (A.deeper (ev w f s.heap.objs.size)) (leaving (ev w f s.heap.objs.size) e) (fun _ s'' => E e s'') (fun e' s'' => E e' s'') s') s₁)
    (hco : (fdAt w f).scope.isCoroutine = false := by rfl) (hgen : (fdAt w f).scope.isGenerator = false := by rfl) (hk : (fdAt w f).scope.kind = .function := by rfl) :
    wpAny (model prog w) A (call (.ref f) vals) Q E s := by
  obtain ⟨mg, mb, T⟩ := G.T
  refine wpAny_call (codeAny_call_function hroom (G.X f _ ho) hdata hco hgen hbody (codeRec_of G.X hcd) (hbind _ _ _ _ ?_))
  rw [hclo]
  refine wpAny_newFunctionEnv_cells hk (kindsX hkind _) fun env he s' x => ?_
  subst he
  refine ⟨T.nolimit.keeps x.toInCall.keep, codeAny_func ?_⟩
  refine wpAny_mono (h s' ⟨x, fun _ hp => (nomatch hp), List.nodup_nil⟩ (G.keeps x.toInCall.keep)) (fun fl s' hq => ?_) fun _ _ x => x
  cases fl <;> exact hq

/-- v is shown as x, by repr, at any place -/
def Shows (prog : Program) (w : World) (s : Shared) (v : Value) (x : Str) : Prop := ∀ (A : Around) (E : Value → Shared → Prop) (s₁ : Shared) (Q : Value → Shared → Prop), A.guards = some [] → A.units + 100 < cLine → Kp s s₁ → (∀ u s', Kp s₁ s' → Q (.str x u) s') →
  wpAny (model prog w) A (call (.builtin "repr") [v]) Q E s₁
theorem Shows.keeps {s s' : Shared} {v : Value} {x : Str} (h : Shows prog w s v x) (k : Kp s s') : Shows prog w s' v x := fun A E s₁ Q hg hu k' hQ => h A E s₁ Q hg hu (k.trans k') hQ

theorem gmax (w : World) : ∃ t, nsIn (KK w) mainGlobals (Str.ofString "_MAX_LENGTH") = some (some (.int 80 t)) := ⟨_, rfl⟩

set_option maxHeartbeats 4000000 in
theorem body22 {L : Addr} {s₁ : Shared} {m cm : Str → Option Value} {b : Bool} {v : Value} {x : Str} {Q : Value → Shared → Prop} (F : Fm s (ev w 22 L) m cm [] s₁) (G : Gd w s.heap)
    (hmo : m (Str.ofString "obj") = some v) (hms : m (Str.ofString "short") = some (.bool b)) (hg : A.guards = some []) (hu : A.units + 100 < cLine) (hx : x.length ≤ 1000000) (hS : Shows prog w s v x)
    (hQ : ∀ u s', Kp s s' → Q (.str (if b then cut x else x) u) s') :
    wpAny (model prog w) A (execs (bodyAt w 22) (ev w 22 L)) (fun fl s' => match fl with | .ret v => Q v s' | _ => Q .none s') E s₁ := by
  obtain ⟨tm, hmax⟩ := gmax w
  refine wpAny_execs_cons ?_
  refine wpAny_Try_except ?_
  refine wpAny_execs_cons (wpAny_Assign_Name (Call_ (nmB (G.keeps F.keep) rfl brepr (cbN rfl (arN (nmL F hmo (args_nil ?_)))))))
  refine hS _ _ _ _ hg hu F.done fun u1 s2 K2 => ?_
  refine stL (F.ext K2) fun s3 F3 => ?_
  refine wpAny_execs_nil ?_
  refine wpAny_execs_nil ?_
  clear F
  refine wpAny_execs_cons (wpAny_If (wpAny_isTrue_BoolOp (wpAny_allTrue_Or_cons (wpAny_isTrue_Not (wpAny_isTrue_value (nmL F3 (by rw [if_neg (by decide)]; exact hms) (wpAny_truthy_bool ?_)))))))
  cases b with
  | false =>
    refine wpAny_execs_cons (wpAny_Return_some (nmL F3 (by rfl) ?_))
    exact hQ _ _ F3.done
  | true =>
    refine wpAny_allTrue_Or_cons (wpAny_isTrue_Compare1 (Call_ (nmB (G.keeps F3.keep) rfl blen (cbN rfl (arN (nmL F3 (by rfl) (args_nil ?_)))))))
    refine lenS (by omega) fun t4 s4 K4 => ?_
    have F4 := F3.ext K4
    clear F3
    refine nmG (G.keeps F4.keep) hmax ?_
    refine ltI ?_
    simp only [if_true] at hQ
    unfold cut at hQ
    by_cases hc : x.length < 80
    · rw [if_pos hc] at hQ
      rw [decide_eq_true (show (x.length : Int) < 80 by omega)]
      refine wpAny_execs_cons (wpAny_Return_some (nmL F4 (by rfl) ?_))
      exact hQ _ _ F4.done
    · rw [if_neg hc] at hQ
      rw [decide_eq_false (show ¬ (x.length : Int) < 80 by omega)]
      refine wpAny_allTrue_Or_nil ?_
      refine wpAny_execs_nil ?_
      refine wpAny_execs_cons (wpAny_Return_some (wpAny_BinOp ?_))
      refine subSt (nmL F4 (by rfl) (nmG (G.keeps F4.keep) hmax ⟨x, _, 80, _, rfl, rfl, ?_, fun t5 s5 K5 => ?_⟩)) (fun _ _ => rfl)
      · show _ ≤ 2 ^ 24; omega
      refine cStr fun t6 s6 K6 => ?_
      refine addS ?_ fun t7 s7 K7 => hQ _ _ (((F4.done.trans K5).trans K6).trans K7)
      have := Txt.slice_le x none (some 80)
      rw [show (Str.ofString " [truncated]...").length = 15 from by decide +kernel]
      show _ ≤ 2 ^ 24; omega

theorem call22 {v : Value} {x : Str} {Q : Value → Shared → Prop} (G : Gd w s.heap) (hd : A.depth < 900) (hg : A.guards = some []) (hu : A.units + 200 < cLine) (hx : x.length ≤ 1000000) (hS : Shows prog w s v x)
    (hQ : ∀ u s', Kp s s' → Q (.str x u) s') : wpAny (model prog w) A (call (.ref 22) [v]) Q E s := by
  refine callFD (binds := [(Str.ofString "obj", v), (Str.ofString "short", .bool false)]) G (Nat.lt_of_lt_of_le hd (by decide)) rfl rfl rfl rfl (binds_K G.X rfl rfl rfl rfl rfl) rfl rfl ?_
  intro s₁ F G₁
  refine body22 (b := false) F G rfl rfl (by simpa [Around.deeper, Around.under, Code.guards] using hg) (by rw [units_deeper]; omega) hx hS ?_
  simpa using hQ
theorem call22s {v : Value} {x : Str} {Q : Value → Shared → Prop} (G : Gd w s.heap) (hd : A.depth < 900) (hg : A.guards = some []) (hu : A.units + 200 < cLine) (hx : x.length ≤ 1000000) (hS : Shows prog w s v x)
    (hQ : ∀ u s', Kp s s' → Q (.str (cut x) u) s') : wpAny (model prog w) A (call (.ref 22) [v, .bool true]) Q E s := by
  refine callFD (binds := [(Str.ofString "obj", v), (Str.ofString "short", .bool true)]) G (Nat.lt_of_lt_of_le hd (by decide)) rfl rfl rfl rfl (binds_K G.X rfl rfl rfl rfl rfl) rfl rfl ?_
  intro s₁ F G₁
  refine body22 (b := true) F G rfl rfl (by simpa [Around.deeper, Around.under, Code.guards] using hg) (by rw [units_deeper]; omega) hx hS ?_
  simpa using hQ

theorem shows_thing {h₀ : Heap} {t : Nat → Addr} {ins : Nat → List Pc} {vT : Value} {k : Nat} (T : ThAt prog w h₀ vT t ins) (ok : OkIns ins) (hk : k < 4) (hk0 : Ge h₀ s.heap) : Shows prog w s (.ref (t k)) (wr ins 4 (.thing k) []) :=
  fun A E s₁ Q hg hu k' hQ => reprTop T ok hk hg hu (fun b o e => k'.heap _ _ (hk0 _ _ e)) hQ
theorem shows_word {x : Str} {tk : Tok} (h : ∀ c ∈ x.cps.toList, 97 ≤ c ∧ c ≤ 122) (hl : x.length < 1000) : Shows prog w s (.str x tk) (Str.ofString "'" ++ x ++ Str.ofString "'") := by
  intro A E s₁ Q hg hu k' hQ
  refine P.repr_of_str ?_ ?_
  · rw [repr_plain h]; exact hQ _ _ (Kp.tok _ _)
  · rw [repr_plain h, len_append, len_append, show (Str.ofString "'").length = 1 from by decide +kernel]
    show _ ≤ 2 ^ 24
    omega
end
end Mine

namespace Mine
section
variable {s₀ s s' : Shared} {env : Env} {m cm : Str → Option Value} {ks : List (Addr × Obj)}

/-- new objects, several at once -/
theorem Fm.news {l : List (Addr × Obj)} (F : Fm s₀ env m cm ks s) (h : Kp s s') (hl : ∀ p ∈ l, s.heap.get? p.1 = none ∧ s'.heap.get? p.1 = some p.2) (hnd : (l.map (·.1)).Nodup) : Fm s₀ env m cm (l ++ ks) s' := by
  refine ⟨(F.ext h).c, fun p hp => ?_, ?_⟩
  · rcases List.mem_append.mp hp with hp | hp
    · exact (F.new h (hl p hp).1 (hl p hp).2).k p (.head _)
    · exact (F.ext h).k p hp
  · rw [List.map_append, List.nodup_append]
    refine ⟨hnd, F.nd, fun a ha b hb e => ?_⟩
    subst e
    obtain ⟨p, hp, e1⟩ := List.mem_map.mp ha
    obtain ⟨q, hq, e2⟩ := List.mem_map.mp hb
    have h1 := (hl p hp).1
    have h2 := (F.k q hq).1
    rw [e1] at h1
    rw [e2, h1] at h2
    cases h2
end

/-- the new lists that a comprehension has made, as objects -/
theorem lists_of {h₁ h' : Heap} {C D : Addr} {wr : List Addr} {G : Value → Array Value → Prop} : ∀ {vs ys : List Value}, Paired (LstAt h₁ C D wr G h') vs ys → ys.Pairwise (· ≠ ·) →
    ∃ Ts : List (Addr × Obj), ys = Ts.map (fun p => Value.ref p.1) ∧ Ts.length = vs.length ∧ (Ts.map (·.1)).Nodup ∧ (∀ p ∈ Ts, h₁.get? p.1 = none ∧ h'.get? p.1 = some p.2 ∧ p.1 ≠ C ∧ p.1 ≠ D) ∧
      ∀ (j : Nat) p v, Ts[j]? = some p → vs[j]? = some v → ∃ its na, p.2.cls = .type "list" ∧ p.2.data = .seq its na ∧ G v its
  | _, _, .nil, _ => ⟨[], rfl, rfl, List.nodup_nil, (fun p hp => nomatch hp), fun j p v hj => by simp at hj⟩
  | _, _, .cons (a := v) (b := y) hx hr, hp => by
    obtain ⟨T, its, rfl, h1, hC, hw, hD, ⟨o, ho, hc, na, hd⟩, hG⟩ := hx
    obtain ⟨hp1, hp2⟩ := List.pairwise_cons.mp hp
    obtain ⟨Ts, rfl, hlen, hnd, hall, hat⟩ := lists_of hr hp2
    refine ⟨(T, o) :: Ts, rfl, by simp [hlen], ?_, ?_, ?_⟩
    · refine List.nodup_cons.mpr ⟨fun hm => ?_, hnd⟩
      obtain ⟨q, hq, e⟩ := List.mem_map.mp hm
      refine hp1 (.ref q.1) (List.mem_map_of_mem hq) ?_
      have e' : q.1 = T := e
      rw [e']
    · intro q hq
      rcases List.mem_cons.mp hq with rfl | hq
      · exact ⟨h1, ho, hC, hD⟩
      · exact hall q hq
    · intro j p v hj hv
      cases j with
      | zero =>
        simp at hj hv
        subst hj hv
        exact ⟨its, na, hc, hd, hG⟩
      | succ j => exact hat j p v (by simpa using hj) (by simpa using hv)

section
variable {prog : Program} {w : World} {A : Around} {E : Value → Shared → Prop} {s₀ s : Shared} {env : Env} {m cm : Str → Option Value} {ks : List (Addr × Obj)}

set_option maxHeartbeats 2000000 in
/-- y = [e for x in range(n)], y a local, the items being new lists -/
theorem asgComp {elt iter : Expr} {x y : Str} {px py : Pos} {scope : Scope} {cl : List (Str × Addr)} {pos spos : Pos} {Q : Flow → Shared → Prop} (GG : Nat → Array Value → Prop) (hh : A.handled = none) (F₀ : Fm s₀ env m cm ks s)
    (h : wpAny (model prog w) A (eval iter env) (fun xv s₁ => ∃ r t u v, ∃ n : Nat, xv = .ref r ∧ IsRange s₁.heap r 0 n 1 t u v ∧ n ≤ sizeLine ∧ Fm s₀ env m cm ks s₁ ∧
      (∀ (C i : Nat) t s₃ m₃ E', s₁.heap.objs.size ≤ C → i < n → s₃.heap.Ns C m₃ → m₃ x = some (Value.int (i : Int) t) → (∀ b o, s₁.heap.get? b = some o → s₃.heap.get? b = some o) →
        wpAny (model prog w) A (eval elt (compEnvC scope cl C env)) (fun y s₄ => (∃ T its, y = .ref T ∧ s₃.heap.get? T = none ∧ s₄.heap.IsList T its ∧ GG i its) ∧ Keeps s₃ s₄) E' s₃) ∧
      (∀ D nD Ts s', Fm s₀ env (fun z => if z = y then some (.ref D) else m z) cm ((D, lo (Ts.map fun p => Value.ref p.1).toArray nD) :: Ts ++ ks) s' → Ts.length = n →
        (∀ (j : Nat) (p : Addr × Obj), Ts[j]? = some p → ∃ its na, p.2.cls = .type "list" ∧ p.2.data = .seq its na ∧ GG j its) → Q .next s')) E s)
    (hsw : swapsWith (.ListComp elt [⟨.Name x px, iter, [], 0⟩] scope pos) (some (.Name y py)) spos.line env = pure true)
    (hclos : closureFor scope env = pure cl := by rfl) (hcell : ∀ y ∈ scope.names, y.2 ≠ .cell := by decide) (hkind : scope.kind = .function := by rfl)
    (hnames : ∀ y ∈ scope.names, y.2 = .local → scope.names.lookup y.1 = some .local := by decide) (hx : scope.names.lookup x = some .local := by rfl)
    (hk : env.scope.kind = .function := by rfl) (hy : env.kindOf y = some .local := by rfl)
    (hs : ∀ x, foldedSetIterable iter env x = pure x := by intro _; rfl) :
    wpAny (model prog w) A (exec (.Assign [.Name y py] (.ListComp elt [⟨.Name x px, iter, [], 0⟩] scope pos) spos) env) Q E s := by
  rw [exec_Assign_Name_used _ _ _ _ hsw]
  refine wpAny_bind (wpAny_standAt (wpAny_bind ?_))
  show wpAny _ A (do let _ ← comprehension (.ListComp elt [⟨.Name x px, iter, [], 0⟩] scope pos) scope env _ (newList []) false (eval iter env) (some (assign (.Name y py) env))) _ _ s
  refine wpAny_bind (wpAny_mono (wpAny_comprehension_free (use := some (assign (.Name y py) env)) (Q := fun _ s' => Q .next s') rfl hs hclos hkind hnames
    (wpAny_mono h (fun xv s₁ h₁ => ?_) fun _ _ e => e)) (fun _ s' hq => wpAny_pure (wpAny_pure hq)) fun _ _ e => e)
  obtain ⟨r, t, u, v, n, rfl, hr, hsz, F, helt, hQ⟩ := h₁
  have hsz' := hsz
  rw [sizeLine_eq] at hsz'
  have hrs : Builtin.Range.rangeSize 0 (n : Int) 1 = (n : Int) := by
    rw [rangeSize_nat]; omega
  refine wpAny_pyIter_range hr (rangeSmall hsz') ?_
  have hk1 : ∀ b o, s₁.heap.get? b = some o → (s₁.heap.push { cls := .type "range_iterator", data := .fields #[rawInt 0, rawInt (Builtin.Range.rangeSize 0 (n : Int) 1), rawInt 1] }).get? b = some o := fun b o e => Heap.get?_push_of_some _ e
  have hnI : s₁.heap.get? s₁.heap.objs.size = none := newAt s₁
  have hn1 : ∀ {a : Addr}, (s₁.heap.push { cls := .type "range_iterator", data := .fields #[rawInt 0, rawInt (Builtin.Range.rangeSize 0 (n : Int) 1), rawInt 1] }).get? a = none → s₁.heap.get? a = none := by
    intro a ha
    cases q : s₁.heap.get? a with
    | none => rfl
    | some o => rw [hk1 _ _ q] at ha; cases ha
  refine comp_block_walkCO (RR := fun acc C => compPost (model prog w) A E (some (assign (.Name y py) env)) (fun _ s' => Q .next s') acc C) (Walks.range hh _ 0 1 n).bound hsz (fun _ => true)
    (fun v its => ∃ (j : Nat) (t : Tok), v = Value.int (j : Int) t ∧ GG j its) (fun i h st b hb => (List.mem_singleton.mp hb) ▸ ⟨_, st⟩) hcell hkind hx ?_ ?_ ⟨?_, ?_⟩ ?_
  · show IsRangeIter _ _ _ _ _
    rw [hrs]
    simpa using Heap.get?_push_size _ rfl
  · intro b hb
    rw [List.mem_singleton.mp hb, Heap.size_push]; exact Nat.lt_succ_self _
  · intro C i v s₃ m₃ E' _ _ _ _ _ _
    exact wpAny_pure ⟨rfl, Kp.refl _⟩
  · intro C i v s₃ m₃ E' hC hP _ hn hm hkk _
    rw [Heap.size_push] at hC
    obtain ⟨hin, t, e⟩ := hP
    have e' : v = Value.int (i : Int) t := by simpa using e
    subst e'
    refine wpAny_mono (helt C i t s₃ m₃ E' (Nat.le_of_succ_le hC) hin hn hm fun b o e => hkk b o (fun hb => ?_) (hk1 b o e)) (fun y s₄ h₄ => ?_) fun _ _ e => e
    · rw [List.mem_singleton.mp hb] at e; exact absurd (Heap.lt_size e) (Nat.lt_irrefl _)
    · obtain ⟨⟨T, its, rfl, hT, hl, hg⟩, K⟩ := h₄
      exact ⟨⟨T, its, rfl, hT, hl, i, t, rfl, hg⟩, K⟩
  · intro D C h' tk m' ys vs hD hC hDC hnC hlD hplD hlen hP hF hnd hkk
    rw [filter_all] at hF
    obtain ⟨Ts, eys, hTl, hTnd, hTs, hTat⟩ := lists_of hF hnd
    obtain ⟨nD, hpl⟩ := hplD
    obtain ⟨oC, es, ep, hoC, hC'⟩ := id hnC
    have K : Kp s₁ { s₁ with heap := h', toks := tk } := Kp.of fun b o e => hkk b o (fun hb => by rw [List.mem_singleton.mp hb] at e; exact absurd (Heap.lt_size e) (Nat.lt_irrefl _)) (hk1 b o e)
    have eys' : ys = (Ts.map fun p => Value.ref p.1).toArray := by rw [← eys]
    have F₁ : Fm s₀ env m cm (((C, oC) :: (D, lo (Ts.map fun p => Value.ref p.1).toArray nD) :: Ts) ++ ks) { s₁ with heap := h', toks := tk } := by
      refine F.news K ?_ ?_
      · intro p hp
        rcases List.mem_cons.mp hp with rfl | hp
        · exact ⟨hn1 hC, hoC⟩
        · rcases List.mem_cons.mp hp with rfl | hp
          · exact ⟨hn1 hD, by rw [← eys']; exact hpl⟩
          · exact ⟨hn1 (hTs p hp).1, (hTs p hp).2.1⟩
      · rw [List.map_cons, List.map_cons]
        refine List.nodup_cons.mpr ⟨fun hm => ?_, List.nodup_cons.mpr ⟨fun hm => ?_, hTnd⟩⟩
        · rcases List.mem_cons.mp hm with e | hm
          · exact hDC e.symm
          · obtain ⟨q, hq, e⟩ := List.mem_map.mp hm
            exact (hTs q hq).2.2.1 e
        · obtain ⟨q, hq, e⟩ := List.mem_map.mp hm
          exact (hTs q hq).2.2.2 e
    show wpAny _ A (assign (.Name y py) env (.ref D)) _ _ _
    refine wpAny_assign_Name (stL F₁ (fun s₂ F₂ => ?_) hk hy)
    have hCL : C ≠ env.locals := (F₁.k (C, oC) (.head _)).2.1
    refine ⟨m', ?_, fun h₃ hs₃ => ?_⟩
    · refine hnC.at' fun o e => ?_
      rw [hoC] at e
      cases e
      exact F₂.get (.head _)
    · refine hQ D nD Ts _ (Fm.drop (tk := s₂.toks) F₂ hs₃.extBut) (by rw [hTl, hlen]) fun j p hj => ?_
      obtain ⟨hj', _⟩ := List.getElem?_eq_some_iff.mp hj
      have hjv : j < vs.length := by omega
      obtain ⟨its, na, h1, h2, j', t', e', h3⟩ := hTat j p vs[j] hj (by simp [hjv])
      obtain ⟨_, t'', e''⟩ := hP j vs[j] (by simp [hjv])
      have e3 : vs[j] = Value.int (j : Int) t'' := by simpa using e''
      rw [e3] at e'
      have e4 : (j : Int) = (j' : Int) := by injection e'
      have e5 : j = j' := by omega
      subst e5
      exact ⟨its, na, h1, h2, h3⟩
end
end Mine

namespace Mine

section
variable {h h' : Heap} (hk : ∀ a items, h.IsList a items → h'.IsList a items)
include hk
theorem PcAt.keepsL {v : Value} {p : Pc} (x : PcAt h v p) : PcAt h' v p := let ⟨a, kv, wv, e, l, r⟩ := x; ⟨a, kv, wv, e, hk _ _ l, r⟩
theorem PcsAt.keepsL {v : Value} {ps : List Pc} (x : PcsAt h v ps) : PcsAt h' v ps := let ⟨a, vs, e, l, r⟩ := x; ⟨a, vs, e, hk _ _ l, r.mono fun _ _ y => y.keepsL hk⟩
theorem InsAt.keepsL {v : Value} {ins : Nat → List Pc} (x : InsAt h v ins) : InsAt h' v ins := let ⟨a, v0, v1, v2, v3, e, l, r0, r1, r2, r3⟩ := x; ⟨a, v0, v1, v2, v3, e, hk _ _ l, r0.keepsL hk, r1.keepsL hk, r2.keepsL hk, r3.keepsL hk⟩
end

theorem ThAt.move {prog : Program} {w : World} {h h' : Heap} {a : Addr} {t : Nat → Addr} {ins : Nat → List Pc} (T : ThAt prog w h (.ref a) t ins) {os : List (Addr × Obj)} (hos : os.map (·.1) = [a, t 0, t 1, t 2, t 3])
    (h1 : ∀ p ∈ os, h.get? p.1 = some p.2) (h2 : ∀ p ∈ os, h'.get? p.1 = some p.2) : ThAt prog w h' (.ref a) t ins := by
  have key : ∀ b, b ∈ [a, t 0, t 1, t 2, t 3] → ∀ o, h.get? b = some o → h'.get? b = some o := by
    intro b hb o ho
    rw [← hos] at hb
    obtain ⟨p, hp, rfl⟩ := List.mem_map.mp hb
    have e1 := h1 p hp
    have e2 := h2 p hp
    rw [e1] at ho
    cases ho
    exact e2
  obtain ⟨⟨a', e, o, ho, r⟩, ⟨vs0, ⟨o0, ho0, r0⟩, p0⟩, ⟨kvs, ⟨o1, es, ep, ho1, r1⟩, p1⟩, ⟨vs2, ⟨o2, ho2, r2⟩, p2⟩, ⟨vs3, ⟨o3, ho3, r3⟩, p3⟩, ap, sys⟩ := T
  cases e
  exact ⟨⟨a, rfl, o, key _ (by simp) _ ho, r⟩, ⟨vs0, ⟨o0, key _ (by simp) _ ho0, r0⟩, p0⟩, ⟨kvs, ⟨o1, es, ep, key _ (by simp) _ ho1, r1⟩, p1⟩, ⟨vs2, ⟨o2, key _ (by simp) _ ho2, r2⟩, p2⟩, ⟨vs3, ⟨o3, key _ (by simp) _ ho3, r3⟩, p3⟩, ap, sys⟩

section
variable {M : Model} {A : Around} {E : Value → Shared → Prop} {s₀ s : Shared} {env : Env} {m cm : Str → Option Value} {ks : List (Addr × Obj)} {x : Str} {pos : Pos} {v : Value}

/-- a store, the lists being as they were -/
theorem stLk {Q : Unit → Shared → Prop} (F : Fm s₀ env m cm ks s) (h : ∀ s', Fm s₀ env (fun y => if y = x then some v else m y) cm ks s' → (∀ a items, s.heap.IsList a items → s'.heap.IsList a items) → Q () s')
    (hk : env.scope.kind = .function := by rfl) (hx : env.kindOf x = some .local := by rfl) : wpAny M A (storeName env x v) Q E s := by
  refine wpAny_storeName_local hx F.c.toInCall.ns (fun h' hn' hs' => h _ ⟨⟨⟨?_, hn', fun b o e => ?_, F.c.toInCall.fresh⟩, fun k c hc => ?_, F.c.apart, F.c.above⟩, fun p hp => ?_, F.nd⟩ ?_) (by rw [hk]; rfl)
  · obtain ⟨h₁, tk, rfl⟩ := F.c.toInCall.same
    exact ⟨h', _, rfl⟩
  · exact hs'.extBut b o (Nat.ne_of_lt (Nat.lt_of_lt_of_le (Heap.lt_size e) F.c.toInCall.fresh)) (F.keep b o e)
  · exact (F.c.cell k c hc).sameBut hs' (Nat.ne_of_gt (F.c.above k c (mem_of_lookup hc)))
  · exact ⟨(hs'.2 _ (F.k p hp).2.1).trans (F.k p hp).1, (F.k p hp).2⟩
  · rintro a items ⟨o, ho, hc, n, hd⟩
    refine ⟨o, hs'.extBut a o (fun e => ?_) ho, hc, n, hd⟩
    obtain ⟨o', es, ep, ho', hd', _⟩ := F.c.toInCall.ns
    rw [e, ho'] at ho
    cases ho
    rw [hd'] at hd
    cases hd

theorem stCk {Q : Unit → Shared → Prop} {c : Addr} (F : Fm s₀ env m cm ks s) (hc : env.cells.lookup x = some c) (h : ∀ s', Fm s₀ env m (fun y => if y = x then some v else cm y) ks s' → (∀ a items, s.heap.IsList a items → s'.heap.IsList a items) → Q () s')
    (hk : env.scope.kind = .function := by rfl) (hx : env.kindOf x = some .cell := by rfl) : wpAny M A (storeName env x v) Q E s := by
  have hLc := F.c.above x c (mem_of_lookup hc)
  refine wpAny_storeName_cell hk hx hc (F.c.cell x c hc) fun h' hc' hs' => h _ ⟨⟨⟨?_, F.c.toInCall.ns.sameBut hs' (Nat.ne_of_lt hLc), fun b o e => ?_, F.c.toInCall.fresh⟩, fun k c' hk' => ?_, F.c.apart, F.c.above⟩, fun p hp => ?_, F.nd⟩ ?_
  · obtain ⟨h₁, tk, rfl⟩ := F.c.toInCall.same
    exact ⟨h', _, rfl⟩
  · exact hs'.extBut b o (Nat.ne_of_lt (Nat.lt_trans (Nat.lt_of_lt_of_le (Heap.lt_size e) F.c.toInCall.fresh) hLc)) (F.keep b o e)
  · by_cases hkn : k = x
    · subst hkn
      rw [hc] at hk'; cases hk'
      simpa using hc'
    · rw [if_neg hkn]
      exact (F.c.cell k c' hk').sameBut hs' fun e => hkn (name_of_addr F.c.apart (mem_of_lookup hk') (e ▸ mem_of_lookup hc))
  · exact ⟨(hs'.2 _ (Ne.symm ((F.k p hp).2.2.1 x c hc))).trans (F.k p hp).1, (F.k p hp).2⟩
  · rintro a items ⟨o, ho, hcl, n, hd⟩
    refine ⟨o, hs'.extBut a o (fun e => ?_) ho, hcl, n, hd⟩
    obtain ⟨o', ho', hd'⟩ := F.c.cell x c hc
    rw [e, ho'] at ho
    cases ho
    rw [hd'] at hd
    cases hd
end

section
variable {prog : Program} {w : World} {A : Around} {E : Value → Shared → Prop} {s₀ s : Shared} {env : Env}

/-- for a, b in l, l being made by the loop's own head -/
theorem forListE {target iter : Expr} {body : List Stmt} {pos : Pos} {Q : Flow → Shared → Prop} (hh : A.handled = none)
    (h : wpAny (model prog w) A (eval iter env) (fun xv s₁ => ∃ (l : Addr) (ol : Obj) (vs : List Value) (nl : Nat) (m cm : Str → Option Value) (ks : List (Addr × Obj)), xv = .ref l ∧ ol.cls = .type "list" ∧ ol.data = .seq vs.toArray nl ∧ (l, ol) ∈ ks ∧ Fm s₀ env m cm ks s₁ ∧
      (∀ (i : Nat) v m cm s' I oI E', vs[i]? = some v → Fm s₀ env m cm ((I, oI) :: ks) s' →
        wpAny (model prog w) A (assign target env v) (fun _ s₂ => wpAny (model prog w) A (execs body env) (fun f s₃ => match f with
          | .next | .cont => ∃ m' cm', Fm s₀ env m' cm' ((I, oI) :: ks) s₃
          | .brk => Q .next s₃
          | .ret v => Q (.ret v) s₃) E' s₂) E' s') ∧
      (∀ m cm s', Fm s₀ env m cm ks s' → Q .next s')) E s)
    (hs : ∀ x, foldedSetIterable iter env x = pure x := by intro _; rfl) :
    wpAny (model prog w) A (exec (.For target iter body [] pos) env) Q E s := by
  refine wpAny_For (wpAny_mono h (fun xv s₁ h₁ => ?_) fun _ _ e => e) hs
  obtain ⟨l, ol, vs, nl, m, cm, ks, rfl, hlc, hld, hmem, F, turn, done⟩ := h₁
  have hl : s₁.heap.get? l = some ol := F.get hmem
  have hlt : l < s₁.heap.objs.size := Heap.lt_size hl
  have hL : s₁.heap.IsList l vs.toArray := ⟨ol, hl, hlc, nl, hld⟩
  refine wpAny_pyIter_list hL ?_
  have W := Walks.list (prog := prog) (w := w) hh s₁.heap.objs.size l (Nat.ne_of_lt hlt) vs.toArray
  rw [show vs.toArray.size = vs.length by simp] at W
  refine forW (R := fun r s' => match r with | .ok f => Q f s' | .error e => cameBackBy (model prog w) A env E e s') W (fun i h st => let ⟨o, ho, _⟩ := st.1; ⟨o, ho⟩) (fun i s' v Q' E' st hQ => letGo_listiter st.1 hQ) (fun _ _ _ ks' => ks' = ks) ?_ (F.push _) ⟨⟨_, Heap.get?_push_size _ rfl, rfl, rfl⟩, hL.push _⟩ rfl
    (fun i v m cm ks' s' oI E' hi hP hJ F' => ?_) (fun m cm ks' s' hJ F' => by subst hJ; exact done m cm s' F')
  · intro b hb
    rcases List.mem_cons.mp hb with rfl | hb
    · exact .inl rfl
    · rw [List.mem_singleton.mp hb]
      exact .inr ⟨ol, fun i m cm ks' s' hJ F' => by subst hJ; exact F'.get hmem⟩
  · subst hJ
    refine wpAny_mono (turn i v m cm s' _ oI E' (by simpa using hP) F') (fun _ s₂ h₂ => wpAny_mono h₂ (fun f s₃ h₃ => ?_) fun _ _ e => e) fun _ _ e => e
    cases f with
    | next => obtain ⟨m', cm', F''⟩ := h₃; exact ⟨m', cm', ks', rfl, F''⟩
    | cont => obtain ⟨m', cm', F''⟩ := h₃; exact ⟨m', cm', ks', rfl, F''⟩
    | brk => exact h₃
    | ret v => exact h₃
end
end Mine

namespace Mine

noncomputable def inner44 (w : World) : List Stmt := loopAt w 44 4

theorem g22 (w : World) : nsIn (KK w) mainGlobals (Str.ofString "safe_repr") = some (some (.ref 22)) := rfl
theorem g29 (w : World) : nsIn (KK w) mainGlobals (Str.ofString "_law_pieces") = some (some (.ref 29)) := rfl
theorem g34 (w : World) : nsIn (KK w) mainGlobals (Str.ofString "_law_things") = some (some (.ref 34)) := rfl

section
variable {prog : Program} {w : World} {A : Around}

set_option maxHeartbeats 4000000 in
theorem turn44 {s₀ s' : Shared} {L I T : Addr} {oI oT : Obj} {KS : List (Addr × Obj)} {one : Value} {x : Str} {tx : Tok} {na kt : Nat} {p1 p2 tp : Pos} {m cm : Str → Option Value} {E : Value → Shared → Prop} {Q : Flow → Shared → Prop}
    (hh : A.handled = none) (G : Gd w s₀.heap) (hd : A.depth < 900) (hg : A.guards = some []) (hu : A.units + 200 < cLine) (hmem : (T, oT) ∈ KS) (hc : oT.cls = .type "list") (hdt : oT.data = .seq #[one, .str x tx] na) (hx : x.length ≤ 1000000)
    (hSh : ∀ m cm s'', Fm s₀ (ev w 44 L) m cm ((I, oI) :: KS) s'' → Shows prog w s'' one x) (F' : Fm s₀ (ev w 44 L) m cm ((I, oI) :: KS) s')
    (hQ : ∀ m' cm' s'', Fm s₀ (ev w 44 L) m' cm' ((I, oI) :: KS) s'' → Q .next s'') :
    wpAny (model prog w) A (assign (.Tuple [.Name (Str.ofString "one") p1, .Name (Str.ofString "writing") p2] kt tp) (ev w 44 L) (.ref T)) (fun _ s₂ => wpAny (model prog w) A (execs (inner44 w) (ev w 44 L)) Q E s₂) E s' := by
  refine asg2 ⟨oT, F'.get (.tail _ hmem), hc, na, hdt⟩ hh fun s1 K1 => ?_
  refine stL (F'.ext K1) fun s2 F2 => stL F2 fun s3 F3 => ?_
  clear F' F2 K1
  -- if safe_repr(one) != writing
  refine wpAny_execs_cons (wpAny_If (wpAny_isTrue_Compare1 (Call_ (nmG (G.keeps F3.keep) (g22 w) (cdN (o := obAt w 22) (fd := fdAt w 22) rfl (arN (nmL F3 (by rfl) (args_nil ⟨(G.keeps F3.keep).X 22 (obAt w 22) rfl, ?_⟩))))))))
  refine call22 (G.keeps F3.keep) hd hg hu hx (hSh _ _ _ F3) fun u4 s4 K4 => ?_
  refine nmL (F3.ext K4) (by rfl) (neS ?_)
  have F4 := F3.ext K4
  clear F3 K4
  rw [show (x != x) = false by simp]
  refine wpAny_execs_nil ?_
  -- due
  refine execs_join (fun s'' => ∃ td, Fm s₀ (ev w 44 L) (fun y => if y = Str.ofString "due" then some (.str (cut x) td) else if y = Str.ofString "writing" then some (.str x tx) else if y = Str.ofString "one" then some one else m y) cm ((I, oI) :: KS) s'') ?_ ?_
  · refine wpAny_Assign_Name (wpAny_IfExp (wpAny_isTrue_Compare1 (Call_ (nmB (G.keeps F4.keep) (by rfl) blen (cbN (by rfl) (arN (nmL F4 (by rfl) (args_nil ?_))))))))
    refine lenS (by omega) fun t5 s5 K5 => ?_
    refine cInt fun t6 s6 K6 => ltI ?_
    have F6 := F4.ext (K5.trans K6)
    clear F4 K5 K6
    by_cases hlt : x.length < 80
    · rw [decide_eq_true (show (x.length : Int) < 80 by omega)]
      refine nmL F6 (by rfl) ?_
      refine stL F6 fun s7 F7 => ⟨rfl, tx, ?_⟩
      rw [show cut x = x from if_pos hlt]
      exact F7
    · rw [decide_eq_false (show ¬ (x.length : Int) < 80 by omega)]
      refine wpAny_BinOp ?_
      refine subSt (nmL F6 (by rfl) (cInt fun t7 s7 K7 => ⟨x, _, 80, _, rfl, rfl, ?_, fun t8 s8 K8 => ?_⟩)) (fun _ _ => rfl)
      · show _ ≤ 2 ^ 24; omega
      refine cStr fun t9 s9 K9 => ?_
      refine addS ?_ fun t10 s10 K10 => ?_
      · have := Txt.slice_le x none (some 80)
        rw [show (Str.ofString " [truncated]...").length = 15 from by decide +kernel]
        show _ ≤ 2 ^ 24; omega
      refine stL (F6.ext (((K7.trans K8).trans K9).trans K10)) fun s11 F11 => ⟨rfl, t10, ?_⟩
      rw [show cut x = Txt.slice x none (some 80) ++ Str.ofString " [truncated]..." from if_neg hlt]
      exact F11
  · rintro s12 ⟨td, F12⟩
    clear F4
    -- if safe_repr(one, True) != due
    refine wpAny_execs_cons (wpAny_If (wpAny_isTrue_Compare1 (Call_ (nmG (G.keeps F12.keep) (g22 w) (cdN (o := obAt w 22) (fd := fdAt w 22) rfl (arN (nmL F12 (by rfl) (arK (wpAny_Constant_bool (args_nil ⟨(G.keeps F12.keep).X 22 (obAt w 22) rfl, ?_⟩))))))))))
    refine call22s (G.keeps F12.keep) hd hg hu hx (hSh _ _ _ F12) fun u13 s13 K13 => ?_
    refine nmL (F12.ext K13) (by rfl) (neS ?_)
    rw [show (cut x != cut x) = false by simp]
    refine wpAny_execs_nil ?_
    refine wpAny_execs_nil ?_
    exact hQ _ _ _ (F12.ext K13)
end
end Mine

namespace Mine
section
variable {prog : Program} {w : World} {A : Around} {E : Value → Shared → Prop}

set_option maxHeartbeats 8000000 in
theorem call44 {s : Shared} {Q : Value → Shared → Prop} {aS : Addr} {items : Array Value} (G : Gd w s.heap) (hh : A.handled = none) (hd : A.depth < 800) (hg : A.guards = some []) (hu : A.units < 1000) (hS : s.heap.IsList aS items) (hall : AllInts items) (hsz : items.size ≤ 16777216)
    (hQ : ∀ s', Kp s s' → Q (.bool true) s') : wpAny (model prog w) A (call (.ref 44) [.ref aS]) Q E s := by
  have hsz' : items.size ≤ sizeLine := by rw [sizeLine_eq]; exact hsz
  refine callF (binds := [(Str.ofString "script", .ref aS)]) G (Nat.lt_of_lt_of_le hd (by decide)) rfl rfl rfl rfl rfl rfl rfl ?_
  intro s₁ F G₁
  have hgd : (A.deeper (ev w 44 s.heap.objs.size)).guards = some [] := by simpa [Around.deeper, Around.under, Code.guards] using hg
  have hdd : (A.deeper (ev w 44 s.heap.objs.size)).depth < 890 := by rw [depth_deeper]; omega
  have hud : (A.deeper (ev w 44 s.heap.objs.size)).units < 1010 := by rw [units_deeper]; omega
  have hhd : (A.deeper (ev w 44 s.heap.objs.size)).handled = none := hh
  generalize A.deeper (ev w 44 s.heap.objs.size) = B at hgd hdd hud hhd
  clear hg hd hu hh
  -- inside = _law_pieces(script)
  refine wpAny_execs_cons (wpAny_Assign_Name (Call_ (nmG G₁ (g29 w) (cdN (o := obAt w 29) (fd := fdAt w 29) rfl (arN (nmL F (by rfl) (args_nil ⟨G₁.X 29 (obAt w 29) rfl, ?_⟩)))))))
  refine call29 G₁ hhd (by omega) (isList_keeps F.keep hS) hall hsz fun vI s2 ins K2 ok ok3 hI => ?_
  refine stCk (F.ext K2) rfl fun s3 F3 L3 => ?_
  have hI3 := hI.keepsL L3
  clear F K2 hI L3 G₁
  -- things = _law_things(inside)
  refine wpAny_execs_cons (wpAny_Assign_Name (Call_ (nmG (G.keeps F3.keep) (g34 w) (cdN (o := obAt w 34) (fd := fdAt w 34) rfl (arN (nmC F3 rfl (by rfl) (args_nil ⟨(G.keeps F3.keep).X 34 (obAt w 34) rfl, ?_⟩)))))))
  refine call34 (G.keeps F3.keep) hhd (by omega) ok ok3 hI3 fun aT s4 t os K4 T hos hnd hfr => ?_
  have F4 := F3.news K4 hfr hnd
  rw [List.append_nil] at F4
  refine stCk F4 rfl fun s5 F5 L5 => ?_
  have hI5 := (hI3.keeps K4.heap).keepsL L5
  have T5 : ∀ {m cm ks s'}, Fm s (ev w 44 s.heap.objs.size) m cm ks s' → (∀ p ∈ os, p ∈ ks) → ThAt prog w s'.heap (.ref aT) t ins := fun F' hsub => T.move hos (fun p hp => (hfr p hp).2) fun p hp => F'.get (hsub p hp)
  clear F3 F4 L5 hI3
  -- word = 'a' * (sum(script[:63]) % 100)
  refine wpAny_execs_cons (wpAny_Assign_Name (wpAny_BinOp (cStr fun t6 s6 K6 => ?_)))
  refine wpAny_BinOp (Call_ (nmB (G.keeps (F5.ext K6).keep) (by rfl) bsum' (cbS (by rfl) (arS (subSl (nmL (F5.ext K6) (by rfl) ?_) (subSl_two _ _ _))))))
  refine evN (evS (cInt fun t7 s7 K7 => evN ⟨aS, items, _, _, _, rfl, isList_keeps (F5.ext (K6.trans K7)).keep hS, hsz', .none, .int _ _, .none, by simp, fun b1 s8 K8 hb1 hl1 => ?_⟩))
  refine args_nil (sumL hhd hl1 (ints_pick hall) fun z tz s9 K9 => cInt fun t10 s10 K10 => modI (by decide) fun t11 s11 K11 => ?_)
  have hz0 : 0 ≤ z % 100 := Int.emod_nonneg _ (by decide)
  have hz1 : z % 100 < 100 := Int.emod_lt_of_pos _ (by decide)
  have K11' := ((((K6.trans K7).trans K8).trans K9).trans K10).trans K11
  clear K6 K7 K8 K9 K10 K11 hl1 hb1
  rw [show Str.ofString "a" = ⟨#[97]⟩ from by decide +kernel]
  refine mulS hz0 (by omega) fun x tx s12 K12 hx => ?_
  refine stLk (F5.ext (K11'.trans K12)) fun s13 F13 L13 => ?_
  have hI13 := (hI5.keeps (K11'.trans K12).heap).keepsL L13
  clear F5 L13 hI5 K11' K12
  have hxc : ∀ c ∈ x.cps.toList, 97 ≤ c ∧ c ≤ 122 := by
    intro c hc
    rw [hx] at hc
    rw [(List.mem_replicate.mp hc).2]
    omega
  have hxl : x.length < 100 := by
    have : x.length = x.cps.toList.length := by rw [Array.length_toList]; rfl
    rw [this, hx, List.length_replicate]
    omega
  -- pairs
  refine wpAny_execs_cons (asgComp (s₀ := s) (fun k its => ∃ tk, its = #[.ref (t k), .str (wr ins 4 (.thing k) []) tk]) hhd F13 ?_ (by rfl))
  refine Call_ (nmB (G.keeps F13.keep) (by rfl) brange (ctK (by rfl) (arK (cInt fun tr s14 K14 => args_nil (rng1 (n := 4) fun r t' u v s15 K15 hnr hr => ?_)))))
  have F15 := F13.ext (K14.trans K15)
  have hI15 := hI13.keeps (K14.trans K15).heap
  clear F13 hI13 K14 K15 hnr
  refine ⟨r, t', u, v, 4, rfl, hr, by decide, F15, ?_, ?_⟩
  · intro C i ti s₃ m₃ E' hC hi hns hm hk
    have G₃ : Gd w s₃.heap := (G.keeps F15.keep).keeps hk
    have cI : s₃.heap.IsCell (s.heap.objs.size + 1) (some vI) := (F15.c.cell (Str.ofString "inside") _ rfl).keeps hk
    have cT : s₃.heap.IsCell (s.heap.objs.size + 1 + 1) (some (.ref aT)) := (F15.c.cell (Str.ofString "things") _ rfl).keeps hk
    obtain ⟨a', e', hT'⟩ := (T5 F15 fun p hp => hp).top
    cases e'
    have LT := isList_keeps hk hT'
    have hI₃ := hI15.keeps hk
    have hsel : (#[Value.ref (t 0), .ref (t 1), .ref (t 2), .ref (t 3)] : Array Value)[i]? = some (.ref (t i)) := by
      rcases (by omega : i = 0 ∨ i = 1 ∨ i = 2 ∨ i = 3) with rfl | rfl | rfl | rfl <;> rfl
    clear F15 hI15
    with_reducible refine endL ?_
    with_reducible refine arS ?_
    refine Subscript_ (nmCell cT rfl (nmLoc hns hm (itemL (x := .ref (t i)) LT hsel (by omega) ?_)))
    with_reducible refine arC ?_
    refine Call_ (nmG G₃ (g39 w) (cdN (o := obAt w 39) (fd := fdAt w 39) rfl ?_))
    with_reducible refine arN ?_
    refine nmCell cI rfl ?_
    with_reducible refine arL ?_
    with_reducible refine endL ?_
    with_reducible refine arK ?_
    refine cStr fun ta sa Ka => ?_
    with_reducible refine arN ?_
    refine nmLoc (hns.keeps Ka.heap) hm ?_
    with_reducible refine args_nil ⟨le2 _ _, fun aP sb Kb hb lb => ?_⟩
    with_reducible refine arL ?_
    with_reducible refine endL ?_
    with_reducible refine args_nil ⟨Nat.zero_le _, fun aW sc Kc hc lc => ?_⟩
    have K₃ := (Ka.trans Kb).trans Kc
    have h39 := K₃.heap _ _ (G₃.X 39 (obAt w 39) rfl)
    refine args_nil ⟨h39, ?_⟩
    refine call39 ok 4 (.thing i) [] _ _ _ _ _ _ _ hi List.nodup_nil (fun k hk => nomatch hk) rfl (G₃.keeps K₃.heap) hhd (by omega) (by omega) (hI₃.keeps K₃.heap) ⟨aP, _, _, rfl, isList_kp Kc lb.isList, ⟨_, rfl⟩, ⟨_, rfl⟩⟩ ⟨aW, [], rfl, lc.isList, .nil⟩ fun tw sd Kd => ?_
    with_reducible refine args_nil ⟨le2 _ _, fun aL se Ke he le => ?_⟩
    have K₅ := K₃.trans Kd
    exact ⟨⟨aL, _, rfl, none_of_keeps K₅ he, le.isList, tw, rfl⟩, K₅.trans Ke⟩
  · intro D nD Ts s16 F16 hTl hTs
    clear F15 hI15
    dsimp only
    -- for one, writing in pairs + [[word, ..]]
    refine wpAny_execs_cons (forListE (s₀ := s) hhd ?_)
    refine wpAny_BinOp (nmL F16 (by rfl) ?_)
    with_reducible refine endL ?_
    with_reducible refine arL ?_
    with_reducible refine endL ?_
    with_reducible refine arN ?_
    refine nmL F16 (by rfl) ?_
    with_reducible refine arB ?_
    refine wpAny_BinOp (wpAny_BinOp (cStr fun ta sa Ka => nmL (F16.ext Ka) (by rfl) (addS ?_ fun tb sb Kb => cStr fun tc sc Kc => addS ?_ fun te sd Kd => ?_)))
    · rw [show (Str.ofString "'").length = 1 from by decide +kernel]; show _ ≤ 2 ^ 24; omega
    · rw [len_append, show (Str.ofString "'").length = 1 from by decide +kernel]; show _ ≤ 2 ^ 24; omega
    have Fd := F16.ext (((Ka.trans Kb).trans Kc).trans Kd)
    clear F16 Ka Kb Kc Kd
    with_reducible refine args_nil ⟨le2 _ _, fun a4 se Ke h4 l4 => ?_⟩
    obtain ⟨n4, l4⟩ := l4
    have Fe := Fd.new Ke h4 l4
    clear Fd Ke h4 l4
    with_reducible refine args_nil ⟨le1 _, fun a5 sf Kf h5 l5 => ?_⟩
    have Ff := Fe.ext Kf
    clear Fe Kf
    have hDl : sf.heap.IsList D (Ts.map fun p => Value.ref p.1).toArray := ⟨_, Ff.get (.tail _ (.head _)), rfl, _, rfl⟩
    refine addL hDl l5.isList (by simp [hTl, sizeLine_eq]) fun l sg Kg hl hll => ?_
    obtain ⟨ol, hol, holc, nl, hold⟩ := hll
    have Fg := Ff.new Kg hl hol
    clear Ff Kg hl hol hDl
    refine ⟨l, ol, (Ts.map fun p => Value.ref p.1) ++ [.ref a4], nl, _, _, _, rfl, holc, by rw [hold]; simp, .head _, Fg, ?_, ?_⟩
    · intro i vv m cm s' I oI E' hvv F'
      have hitem : ∃ Tt oT one xx txx na, vv = .ref Tt ∧ (Tt, oT) ∈ ((l, ol) :: (a4, lo #[.str x tx, .str (Str.ofString "'" ++ x ++ Str.ofString "'") te] n4) :: (((D, lo (Ts.map fun p => Value.ref p.1).toArray nD) :: Ts) ++ os)) ∧ oT.cls = .type "list" ∧ oT.data = .seq #[one, .str xx txx] na ∧ xx.length ≤ 1000000 ∧
          ∀ m cm s'', Fm s (ev w 44 s.heap.objs.size) m cm ((I, oI) :: (l, ol) :: (a4, lo #[.str x tx, .str (Str.ofString "'" ++ x ++ Str.ofString "'") te] n4) :: (((D, lo (Ts.map fun p => Value.ref p.1).toArray nD) :: Ts) ++ os)) s'' → Shows prog w s'' one xx := by
        by_cases hi : i < Ts.length
        · rw [List.getElem?_append_left (by simpa using hi), List.getElem?_map] at hvv
          obtain ⟨p, hp, e⟩ : ∃ p, Ts[i]? = some p ∧ Value.ref p.1 = vv := by
            cases q : Ts[i]? with
            | none => rw [q] at hvv; cases hvv
            | some p => rw [q] at hvv; exact ⟨p, rfl, by injection hvv⟩
          obtain ⟨its, na, h1, h2, tk, rfl⟩ := hTs i p hp
          have hi4 : i < 4 := by omega
          refine ⟨p.1, p.2, _, _, tk, na, e.symm, .tail _ (.tail _ (List.mem_append_left _ (.tail _ (List.mem_of_getElem? hp)))), h1, h2, wr_fits ok (Nat.le_refl 4) (.thing i) [] hi4, fun m cm s'' F'' => ?_⟩
          exact shows_thing (T5 F'' fun p hp => .tail _ (.tail _ (.tail _ (List.mem_append_right _ hp)))) ok hi4 fun _ _ e => e
        · rw [List.getElem?_append_right (by simpa using hi)] at hvv
          have e0 : i - (Ts.map fun p => Value.ref p.1).length = 0 := by
            cases q : i - (Ts.map fun p => Value.ref p.1).length with
            | zero => rfl
            | succ k => rw [q] at hvv; simp at hvv
          rw [e0] at hvv
          have e : vv = .ref a4 := by simpa using hvv.symm
          refine ⟨a4, _, _, _, te, n4, e, .tail _ (.head _), rfl, rfl, ?_, fun m cm s'' F'' => shows_word hxc (by omega)⟩
          rw [len_append, len_append, show (Str.ofString "'").length = 1 from by decide +kernel]; omega
      obtain ⟨Tt, oT, one, xx, txx, na, rfl, hmem, h1, h2, h3, h4⟩ := hitem
      refine wpAny_mono (turn44 (Q := fun f s₃ => f = .next ∧ ∃ m' cm', Fm s (ev w 44 s.heap.objs.size) m' cm' _ s₃) hhd G (by omega) hgd (by rw [cLine_is]; omega) hmem h1 h2 h3 h4 F' fun m' cm' s'' F'' => ⟨rfl, m', cm', F''⟩) (fun _ s₂ h₂ => wpAny_mono h₂ (fun f s₃ h₃ => ?_) fun _ _ x => x) fun _ _ x => x
      obtain ⟨rfl, h₃⟩ := h₃
      exact h₃
    · intro m cm s' F'
      refine wpAny_execs_cons (wpAny_Return_some (wpAny_Constant_bool ?_))
      exact hQ _ F'.done
end
end Mine

set_option maxRecDepth 100000 in
set_option maxHeartbeats 8000000 in
theorem PySem.Challenge.cw_dz0119_01_holds : PySem.Challenge.rw_dz0119_01.Holds := by
  refine Mine.hd ?_
  w_on
  intro w s₀ s₁ mg mb G Y fa o pm cd doc dV kV ho hd hcd hD hmg hg args vals as hpre hlay hrd hwl hlo
  have KX := kIn_of Y
  refine Ground.open G ?_
  intro T B D TE TW
  have hfa : fa = 44 := by
    have e : nsIn (Mine.hd.heap_39 w.params) mainGlobals (Str.ofString "law") = some (some (.ref 44)) := rfl
    have := mg_of KX T.g e
    rw [hmg] at this
    injection this with e
    injection e
  subst hfa
  clear hmg hd hcd hD ho TE TW B D
  have hGd : Mine.Gd w s₁.heap := ⟨KX, mg, mb, topRead_of T⟩
  clear T KX Y G
  wrow_args hpre hlay hrd hwl hlo
  rename Heap.IsList _ _ _ => hL
  rename IntsAre _ _ => hI
  have hn := IntsAre.length hI
  refine Mine.call44 hGd rfl (by decide) rfl (by decide) hL hI.allInts (by rw [List.size_toArray]; omega) fun s' K => ?_
  obtain ⟨h', tk, rfl, hk⟩ := K
  have hpost : ∀ a b, rw_dz0119_01.row.claim.post a (WData.bool true) b = true := by
    intro a b
    with_unfolding_all rfl
  exact GoodW.toG ⟨.inl ⟨.bool true, .bool true, [], rfl, fun _ => rfl, .bool true, hpost _ _, fun _ => ⟨List.nodup_nil, fun a ha => nomatch ha⟩⟩, hk, rfl, hg⟩

