import PyProof.Rows.All
import Wide.All
import OpenK.AllK
import Wide.FinOn
import Open.Tops
import Lean
import PySem.Challenge.RW_wn0129_03
set_option Elab.async false
set_option maxRecDepth 100000
set_option maxHeartbeats 0
set_option compiler.extract_closed false
set_option linter.all false
set_option rowWalk.seconds 0
open PySem.Str renaming ofString → oS
noncomputable section
example : True := by w_top off; trivial
open PySem PySem.W PySem.W.X PyProof.Rows
namespace Mine
noncomputable def anyQ.{u} {α : Type u} (as : Array α) (p : α -> Bool) (i n : Nat) : Bool :=
 @Bool.rec (fun _ => Bool) (Array.any as p i n) (@List.rec α (fun _ => Bool) false (fun a _ ih => @Bool.rec (fun _ => Bool) ih true (p a)) as.toList)
   (@Bool.rec (fun _ => Bool) false (Nat.beq n as.toList.length) (Nat.beq i 0))
theorem anyQ_eq.{u} : @Array.any.{u} = @anyQ.{u} := by
 funext α as p i n
 have key : ∀ l : List α, @List.rec α (fun _ => Bool) false (fun a _ ih => @Bool.rec (fun _ => Bool) ih true (p a)) l = l.any p := by
   intro l
   induction l with
   | nil => rfl
   | cons a l ih =>
     show @Bool.rec (fun _ => Bool) (@List.rec α (fun _ => Bool) false (fun a _ ih => @Bool.rec (fun _ => Bool) ih true (p a)) l) true (p a) = (p a || l.any p)
     rw [ih]; cases p a <;> rfl
 unfold anyQ
 rw [key]
 cases h : Nat.beq i 0 with
 | false => rfl
 | true =>
   have hi : i = 0 := Nat.eq_of_beq_eq_true h
   subst hi
   cases h' : Nat.beq n as.toList.length with
   | false => rfl
   | true =>
     have hn : n = as.toList.length := Nat.eq_of_beq_eq_true h'
     subst hn
     show as.any p 0 as.size = as.toList.any p
     rw [Array.any_toList]
noncomputable def tnQ : Builtin := by
 refine (?g : (f : Builtin) -> PySem.W.Fast.tw4202317264376624991 = f -> Builtin) ?f ?h
 case g => exact fun f _ => f
 case h =>
   delta PySem.W.Fast.tw4202317264376624991
   rw [anyQ_eq]
theorem tnQ_eq' : PySem.W.Fast.tw4202317264376624991 = tnQ := by
 delta PySem.W.Fast.tw4202317264376624991 tnQ
 rw [anyQ_eq]
theorem tnQ_eq : PySem.Builtin.«type.__new__» = tnQ := PySem.W.Fast.te4202317264376624991.trans tnQ_eq'
noncomputable def tblQ (id : String) : Option Builtin :=
 @Bool.rec (fun _ => Option Builtin) (PySem.W.Fast.tw14364793385576792824 id) (some tnQ) (Nat.beq (code id) (code "type.__new__"))
theorem tblQ_eq : treeTable = tblQ := by
 funext id
 unfold tblQ
 rw [← PySem.W.Fast.te14364793385576792824]
 cases h : Nat.beq (code id) (code "type.__new__") with
 | false => rfl
 | true =>
   have h' : code id = code "type.__new__" := Nat.eq_of_beq_eq_true h
   show treeTable id = some tnQ
   unfold treeTable
   rw [h', ← tnQ_eq]
   rfl
end Mine
end
noncomputable section
example : True := by w_top off; trivial
open PySem PySem.W PySem.W.X PyProof.Rows
namespace Mine
noncomputable section
noncomputable abbrev PW := PySem.Challenge.pw_wn0129_03
noncomputable def stAt (i : Nat) : Stmt := PW.main.body.getD i (.Pass default)
noncomputable def bodyIn : Stmt -> List Stmt
 | .ClassDef _ _ _ b _ _ _ _ _ _ _ => b
 | _ => []
noncomputable def stIn (i j : Nat) : Stmt := (bodyIn (stAt i)).getD j (.Pass default)
noncomputable def docAhead : List Stmt -> Str
 | .Expr (.Constant (.str s) _ _) _ :: _ => s
 | _ => ⟨#[]⟩
noncomputable def docR : Str := docAhead (bodyIn (stAt 5))
noncomputable def docS : Str := by
 refine (?g : (s : String) -> docR = oS s -> Str) ?s ?h
 case g => exact fun s _ => oS s
 case h => exact rfl
theorem doc_is : docR = docS := by kernel_rfl
lay_quick Mine.docS
noncomputable abbrev docT : Str := PySem.W.Fast.tw5803669478795432244
noncomputable def setDoc (d : Str) : Stmt -> Stmt
 | .ClassDef a b c (.Expr (.Constant (.str _) k q) p :: r) e f g h i j l => .ClassDef a b c (.Expr (.Constant (.str d) k q) p :: r) e f g h i j l
 | s => s
theorem cls_is : stAt 5 = setDoc docT (stAt 5) :=
 have h : stAt 5 = setDoc docR (stAt 5) := by kernel_rfl
 h.trans (congrArg (fun d => setDoc d (stAt 5)) (doc_is.trans PySem.W.Fast.te5803669478795432244))
noncomputable def doc7 : Str := by
 refine (?g : (s : String) -> docAhead (bodyIn (stAt 7)) = oS s -> Str) ?s ?h
 case g => exact fun s _ => oS s
 case h => exact rfl
noncomputable def doc35 : Str := by
 refine (?g : (d : Str) -> docAhead (bodyIn (stAt 3)) = d -> Str) ?s ?h
 case g => exact fun s _ => s
 case h => exact rfl
noncomputable def codeFn (q : Str) : Stmt -> Obj
 | .FunctionDef n ps b _ _ _ sc _ _ _ => { cls := .none, data := .func { name := n, qualname := q, params := ps, body := .stmts b, scope := sc, globals := 0, closure := [], defaults := .none, kwdefaults := .none } }
 | _ => { cls := .none, data := .fields #[] }
noncomputable abbrev ob (c : Value) (d : Data) : Obj := { cls := c, data := d }
noncomputable abbrev en (P : Params) (s : String) (t : Tok) (v : Value) : DictEntry := { hash := PyData.keyHash P (oS s), key := .str (oS s) t, val := v }
noncomputable abbrev sv (s : String) (t : Tok) : Value := .str (oS s) t
def hO1 (_ : Params) := ob (.type "tuple") (.seq #[])
def hO2 (_ : Params) := ob .none (.fields #[])
def hO3 (_ : Params) := ob (.type "code") (.fields #[sv "<module>" 182, sv "<module>" 183, sv "/claim/cut.py" 184, .int 1 0, .int 0 0, .int 0 0, .int 0 0, .int 0 0, .ref 11, .bool false, .int 181 0, .ref 12, .none, .none, .none, .none, .int 185 0, .int 1 0, sv "/claim/cut.py" 186])
def hO4 (_ : Params) : Obj := { cls := .type "frame", slots := #[some (.ref 13), some (.ref 3), some (.ref 3), none, some (sv "__main__" 164), none, some (.ref 0)] }
def hO5 (P : Params) := ob (.type "dict") (.dict #[en P "__name__" 165 (sv "cpy313.difflib" 194), en P "__doc__" 166 .none, en P "__package__" 167 .none, en P "__loader__" 168 (.builtin "__main__.__loader__#opaque"), en P "__spec__" 169 .none, en P "__annotations__" 170 (.ref 6), en P "__builtins__" 171 (.ref 4), en P "__file__" 173 (sv "/claim/cut.py" 172), en P "__cached__" 174 .none, en P "_wall" 193 (.ref 21), en P "_tuplegetter" 252 (.ref 60)] 11)
def hO6 (_ : Params) := ob .none (.fields #[.int 1 0, .int 0 0, .ref 20, .int 5 0, .int 0 0, .ref 27])
def hO7 (_ : Params) := ob (.type "tuple") (.seq #[])
def hO8 (_ : Params) := ob .none (.fields #[])
def hO9 (_ : Params) := ob (.type "tuple") (.seq #[sv "k" 190])
def hO10 (_ : Params) := ob (.type "tuple") (.seq #[])
noncomputable def hO11 (_ : Params) : Obj := codeFn (oS "_wall") (stAt 0)
def hO12 (_ : Params) := ob (.type "code") (.fields #[sv "_wall" 187, sv "_wall" 188, sv "/claim/cut.py" 189, .int 1 0, .int 1 0, .int 0 0, .int 0 0, .int 3 0, .ref 15, .bool true, .int 181 0, .ref 16, .none, .ref 17, .ref 18, .ref 19, .int 191 0, .int 1 0, sv "/claim/cut.py" 192])
noncomputable def hO13 : Params -> Obj := by
 refine (?g : (n : Str) -> (ps : _) -> (b : List Stmt) -> (dl : _) -> (r : _) -> (tp : _) -> (sc : _) -> (ts : _) -> (bd : _) -> (p : Pos) -> (stAt 0) = Stmt.FunctionDef n ps b dl r tp sc ts bd p -> Params -> Obj) ?a0 ?a1 ?a2 ?a3 ?a4 ?a5 ?a6 ?a7 ?a8 ?a9 ?h
 case g => exact fun n ps b _ _ _ sc _ _ _ _ _ => { cls := .type "function", data := .func { name := n, qualname := oS "_wall", params := ps, body := .stmts b, scope := sc, globals := 3, closure := [], defaults := Value.none, kwdefaults := Value.none, pyModule := Value.str (oS "__main__") 164, code := Value.ref 20 } }
 case h => exact rfl
def hO14 (_ : Params) := ob (.type "tuple") (.seq #[])
def hO15 (_ : Params) := ob (.type "builtin_function_or_method") (.fields #[.builtin "type.__prepare__", .type "type"])
def hO16 (P : Params) := ob (.type "dict") (.dict #[en P "__module__" 203 (sv "cpy313.difflib" 194), en P "__qualname__" 205 (sv "_tuplegetter" 204), en P "__firstlineno__" 207 (.int 5 206), en P "__init__" 216 (.ref 35), en P "__get__" 225 (.ref 43), en P "__set__" 234 (.ref 50), en P "__delete__" 242 (.ref 57), en P "__static_attributes__" 245 (.ref 58)] 8)
def hO17 (_ : Params) := ob (.type "tuple") (.seq #[])
def hO18 (_ : Params) := ob .none (.fields #[.int 7 0, .int 4 0, .ref 34, .int 11 0, .int 4 0, .ref 42, .int 18 0, .int 4 0, .ref 49, .int 21 0, .int 4 0, .ref 56])
def hO19 (_ : Params) := ob (.type "code") (.fields #[sv "_tuplegetter" 198, sv "_tuplegetter" 199, sv "/claim/cut.py" 200, .int 5 0, .int 0 0, .int 0 0, .int 0 0, .int 0 0, .ref 25, .bool false, .int 181 0, .ref 26, .none, .none, .none, .none, .int 201 0, .int 5 0, sv "/claim/cut.py" 202])
def hO20 (_ : Params) : Obj := { cls := .type "frame", slots := #[some (.ref 27), some (.ref 3), some (.ref 24), none, some (sv "cpy313.difflib" 194), none, some (.ref 0)] }
def hO21 (_ : Params) := ob (.type "tuple") (.seq #[])
def hO22 (_ : Params) := ob .none (.fields #[])
def hO23 (_ : Params) := ob (.type "tuple") (.seq #[sv "self" 211, sv "index" 212, sv "doc" 213])
def hO24 (_ : Params) := ob (.type "tuple") (.seq #[])
noncomputable def hO25 (_ : Params) : Obj := codeFn (oS "_tuplegetter.__init__") (stIn 2 0)
def hO26 (_ : Params) := ob (.type "code") (.fields #[sv "__init__" 208, sv "_tuplegetter.__init__" 209, sv "/claim/cut.py" 210, .int 7 0, .int 3 0, .int 0 0, .int 0 0, .int 3 0, .ref 29, .bool true, .int 181 0, .ref 30, .none, .ref 31, .ref 32, .ref 33, .int 214 0, .int 7 0, sv "/claim/cut.py" 215])
noncomputable def hO27 : Params -> Obj := by
 refine (?g : (n : Str) -> (ps : _) -> (b : List Stmt) -> (dl : _) -> (r : _) -> (tp : _) -> (sc : _) -> (ts : _) -> (bd : _) -> (p : Pos) -> (stIn 2 0) = Stmt.FunctionDef n ps b dl r tp sc ts bd p -> Params -> Obj) ?a0 ?a1 ?a2 ?a3 ?a4 ?a5 ?a6 ?a7 ?a8 ?a9 ?h
 case g => exact fun n ps b _ _ _ sc _ _ _ _ _ => { cls := .type "function", data := .func { name := n, qualname := oS "_tuplegetter.__init__", params := ps, body := .stmts b, scope := sc, globals := 3, closure := [], defaults := Value.none, kwdefaults := Value.none, pyModule := Value.str (oS "cpy313.difflib") 194, code := Value.ref 34 } }
 case h => exact rfl
def hO28 (_ : Params) := ob (.type "tuple") (.seq #[.none])
def hO29 (_ : Params) := ob (.type "tuple") (.seq #[])
def hO30 (_ : Params) := ob .none (.fields #[])
def hO31 (_ : Params) := ob (.type "tuple") (.seq #[sv "self" 220, sv "obj" 221, sv "objtype" 222])
def hO32 (_ : Params) := ob (.type "tuple") (.seq #[])
noncomputable def hO33 (_ : Params) : Obj := codeFn (oS "_tuplegetter.__get__") (stIn 2 1)
def hO34 (_ : Params) := ob (.type "code") (.fields #[sv "__get__" 217, sv "_tuplegetter.__get__" 218, sv "/claim/cut.py" 219, .int 11 0, .int 3 0, .int 0 0, .int 0 0, .int 3 0, .ref 37, .bool true, .int 181 0, .ref 38, .none, .ref 39, .ref 40, .ref 41, .int 223 0, .int 11 0, sv "/claim/cut.py" 224])
noncomputable def hO35 : Params -> Obj := by
 refine (?g : (n : Str) -> (ps : _) -> (b : List Stmt) -> (dl : _) -> (r : _) -> (tp : _) -> (sc : _) -> (ts : _) -> (bd : _) -> (p : Pos) -> (stIn 2 1) = Stmt.FunctionDef n ps b dl r tp sc ts bd p -> Params -> Obj) ?a0 ?a1 ?a2 ?a3 ?a4 ?a5 ?a6 ?a7 ?a8 ?a9 ?h
 case g => exact fun n ps b _ _ _ sc _ _ _ _ _ => { cls := .type "function", data := .func { name := n, qualname := oS "_tuplegetter.__get__", params := ps, body := .stmts b, scope := sc, globals := 3, closure := [], defaults := Value.ref 36, kwdefaults := Value.none, pyModule := Value.str (oS "cpy313.difflib") 194, code := Value.ref 42 } }
 case h => exact rfl
def hO36 (_ : Params) := ob (.type "tuple") (.seq #[])
def hO37 (_ : Params) := ob .none (.fields #[])
def hO38 (_ : Params) := ob (.type "tuple") (.seq #[sv "self" 229, sv "obj" 230, sv "value" 231])
def hO39 (_ : Params) := ob (.type "tuple") (.seq #[])
noncomputable def hO40 (_ : Params) : Obj := codeFn (oS "_tuplegetter.__set__") (stIn 2 2)
def hO41 (_ : Params) := ob (.type "code") (.fields #[sv "__set__" 226, sv "_tuplegetter.__set__" 227, sv "/claim/cut.py" 228, .int 18 0, .int 3 0, .int 0 0, .int 0 0, .int 3 0, .ref 44, .bool true, .int 181 0, .ref 45, .none, .ref 46, .ref 47, .ref 48, .int 232 0, .int 18 0, sv "/claim/cut.py" 233])
noncomputable def hO42 : Params -> Obj := by
 refine (?g : (n : Str) -> (ps : _) -> (b : List Stmt) -> (dl : _) -> (r : _) -> (tp : _) -> (sc : _) -> (ts : _) -> (bd : _) -> (p : Pos) -> (stIn 2 2) = Stmt.FunctionDef n ps b dl r tp sc ts bd p -> Params -> Obj) ?a0 ?a1 ?a2 ?a3 ?a4 ?a5 ?a6 ?a7 ?a8 ?a9 ?h
 case g => exact fun n ps b _ _ _ sc _ _ _ _ _ => { cls := .type "function", data := .func { name := n, qualname := oS "_tuplegetter.__set__", params := ps, body := .stmts b, scope := sc, globals := 3, closure := [], defaults := Value.none, kwdefaults := Value.none, pyModule := Value.str (oS "cpy313.difflib") 194, code := Value.ref 49 } }
 case h => exact rfl
def hO43 (_ : Params) := ob (.type "tuple") (.seq #[])
def hO44 (_ : Params) := ob .none (.fields #[])
def hO45 (_ : Params) := ob (.type "tuple") (.seq #[sv "self" 238, sv "obj" 239])
def hO46 (_ : Params) := ob (.type "tuple") (.seq #[])
noncomputable def hO47 (_ : Params) : Obj := codeFn (oS "_tuplegetter.__delete__") (stIn 2 3)
def hO48 (_ : Params) := ob (.type "code") (.fields #[sv "__delete__" 235, sv "_tuplegetter.__delete__" 236, sv "/claim/cut.py" 237, .int 21 0, .int 2 0, .int 0 0, .int 0 0, .int 3 0, .ref 51, .bool true, .int 181 0, .ref 52, .none, .ref 53, .ref 54, .ref 55, .int 240 0, .int 21 0, sv "/claim/cut.py" 241])
noncomputable def hO49 : Params -> Obj := by
 refine (?g : (n : Str) -> (ps : _) -> (b : List Stmt) -> (dl : _) -> (r : _) -> (tp : _) -> (sc : _) -> (ts : _) -> (bd : _) -> (p : Pos) -> (stIn 2 3) = Stmt.FunctionDef n ps b dl r tp sc ts bd p -> Params -> Obj) ?a0 ?a1 ?a2 ?a3 ?a4 ?a5 ?a6 ?a7 ?a8 ?a9 ?h
 case g => exact fun n ps b _ _ _ sc _ _ _ _ _ => { cls := .type "function", data := .func { name := n, qualname := oS "_tuplegetter.__delete__", params := ps, body := .stmts b, scope := sc, globals := 3, closure := [], defaults := Value.none, kwdefaults := Value.none, pyModule := Value.str (oS "cpy313.difflib") 194, code := Value.ref 56 } }
 case h => exact rfl
def hO50 (_ : Params) := ob (.type "tuple") (.seq #[sv "__doc__" 243, sv "index" 244])
def hO51 (P : Params) := ob (.type "dict") (.dict #[en P "__module__" 203 (sv "cpy313.difflib" 194), en P "__firstlineno__" 207 (.int 5 206), en P "__init__" 216 (.ref 35), en P "__get__" 225 (.ref 43), en P "__set__" 234 (.ref 50), en P "__delete__" 242 (.ref 57), en P "__static_attributes__" 245 (.ref 58), en P "__dict__" 247 (.ref 61), en P "__weakref__" 249 (.ref 62), en P "__doc__" 250 .none] 4)
def hO52 (_ : Params) : Obj := { cls := .type "type", data := Data.cls { name := oS "_tuplegetter", bases := [.type "object"], mro := [.ref 60, .type "object"], ns := 59, qualname := oS "_tuplegetter" }, slots := #[none, none, some (sv "_tuplegetter" 196), some (sv "_tuplegetter" 204), some (.builtin "object.__new__"), some (.bool true)] }
def hO53 (_ : Params) := ob (.type "getset_descriptor") (.fields #[sv "__dict__" 246, .ref 60, .builtin "function.__dict__", .builtin "function.__dict__#set"])
def hO54 (_ : Params) := ob (.type "getset_descriptor") (.fields #[sv "__weakref__" 248, .ref 60, .builtin "ExceptionGroup.__weakref__", .none])
def hO55 (_ : Params) := ob (.type "super") (.fields #[.ref 60, .ref 60, .ref 60])
def hO56 (_ : Params) := ob (.type "builtin_function_or_method") (.fields #[.builtin "object.__init_subclass__", .ref 60])
def hO58 (P : Params) := ob (.type "dict") (.dict #[en P "__name__" 165 (sv "cpy313.difflib" 194), en P "__doc__" 166 .none, en P "__package__" 167 .none, en P "__loader__" 168 (.builtin "__main__.__loader__#opaque"), en P "__spec__" 169 .none, en P "__annotations__" 170 (.ref 6), en P "__builtins__" 171 (.ref 4), en P "__file__" 173 (sv "/claim/cut.py" 172), en P "__cached__" 174 .none, en P "_wall" 193 (.ref 21), en P "_tuplegetter" 252 (.ref 60), en P "Match" 380 (.ref 135)] 12)
def hO59 (_ : Params) := ob .none (.fields #[.int 1 0, .int 0 0, .ref 20, .int 5 0, .int 0 0, .ref 27, .int 23 0, .int 0 0, .ref 71])
def hO60 (_ : Params) := ob (.type "tuple") (.seq #[.type "tuple"])
def hO61 (_ : Params) := ob (.type "builtin_function_or_method") (.fields #[.builtin "type.__prepare__", .type "type"])
def hO62 (P : Params) := ob (.type "dict") (.dict #[en P "__module__" 260 (sv "cpy313.difflib" 194), en P "__qualname__" 262 (sv "Match" 261), en P "__firstlineno__" 264 (.int 23 263), en P "__doc__" 266 (sv "Match(a, b, size)" 265), en P "__slots__" 268 (.ref 73), en P "_fields" 272 (.ref 74), en P "_field_defaults" 273 (.ref 75), en P "__new__" 284 (.ref 82), en P "_make" 306 (.ref 91), en P "_replace" 317 (.ref 100), en P "__replace__" 318 (.ref 100), en P "__repr__" 326 (.ref 107), en P "_asdict" 333 (.ref 114), en P "__getnewargs__" 341 (.ref 121), en P "__match_args__" 345 (.ref 122), en P "a" 355 (.ref 124), en P "b" 365 (.ref 127), en P "size" 375 (.ref 130), en P "__static_attributes__" 376 (.ref 132), en P "__classcell__" 377 (.ref 68)] 20)
def hO63 (_ : Params) := ob (.type "cell") (.cell (some (.ref 135)))
def hO64 (_ : Params) := ob (.type "tuple") (.seq #[])
def hO65 (_ : Params) := ob .none (.fields #[.int 29 0, .int 4 0, .ref 81, .int 34 0, .int 4 0, .ref 88, .int 41 0, .int 4 0, .ref 99, .int 52 0, .int 4 0, .ref 106, .int 56 0, .int 4 0, .ref 113, .int 59 0, .int 4 0, .ref 120])
def hO66 (_ : Params) := ob (.type "code") (.fields #[sv "Match" 255, sv "Match" 256, sv "/claim/cut.py" 257, .int 23 0, .int 0 0, .int 0 0, .int 0 0, .int 0 0, .ref 69, .bool false, .int 181 0, .ref 70, .none, .none, .none, .none, .int 258 0, .int 23 0, sv "/claim/cut.py" 259])
def hO67 (_ : Params) : Obj := { cls := .type "frame", slots := #[some (.ref 71), some (.ref 3), some (.ref 67), none, some (sv "cpy313.difflib" 194), none, some (.ref 0)] }
def hO68 (_ : Params) := ob (.type "tuple") (.seq #[])
def hO69 (_ : Params) := ob (.type "tuple") (.seq #[sv "a" 269, sv "b" 270, sv "size" 271])
def hO70 (_ : Params) := ob (.type "dict") (.dict #[])
def hO71 (_ : Params) := ob (.type "tuple") (.seq #[])
def hO72 (_ : Params) := ob .none (.fields #[])
def hO73 (_ : Params) := ob (.type "tuple") (.seq #[sv "_cls" 277, sv "a" 278, sv "b" 279, sv "size" 280])
def hO74 (_ : Params) := ob (.type "tuple") (.seq #[])
noncomputable def hO75 (_ : Params) : Obj := codeFn (oS "Match.__new__") (stIn 3 4)
def hO76 (_ : Params) := ob (.type "code") (.fields #[sv "__new__" 274, sv "Match.__new__" 275, sv "/claim/cut.py" 276, .int 29 0, .int 4 0, .int 0 0, .int 0 0, .int 3 0, .ref 76, .bool true, .int 181 0, .ref 77, .none, .ref 78, .ref 79, .ref 80, .int 281 0, .int 29 0, sv "/claim/cut.py" 282])
noncomputable def hO77 : Params -> Obj := by
 refine (?g : (n : Str) -> (ps : _) -> (d : Str) -> (k : Nat) -> (q : Pos) -> (p1 : Pos) -> (b : List Stmt) -> (dl : _) -> (r : _) -> (tp : _) -> (sc : _) -> (ts : _) -> (bd : _) -> (p : Pos) -> (stIn 3 4) = Stmt.FunctionDef n ps (.Expr (.Constant (.str d) k q) p1 :: b) dl r tp sc ts bd p -> Params -> Obj) ?a0 ?a1 ?a2 ?a3 ?a4 ?a5 ?a6 ?a7 ?a8 ?a9 ?a10 ?a11 ?a12 ?a13 ?h
 case g => exact fun n ps d k q p1 b _ _ _ sc _ _ _ _ _ => { cls := .type "function", data := .func { name := n, qualname := oS "Match.__new__", params := ps, body := .stmts (.Expr (.Constant (.str d) k q) p1 :: b), scope := sc, globals := 3, closure := [], defaults := Value.none, kwdefaults := Value.none, doc := Value.str d 283, pyModule := Value.str (oS "cpy313.difflib") 194, code := Value.ref 81 } }
 case h => exact rfl
def hO78 (_ : Params) := ob (.type "tuple") (.seq #[])
def hO79 (_ : Params) := ob .none (.fields #[])
def hO80 (_ : Params) := ob (.type "tuple") (.seq #[sv "cls" 288, sv "iterable" 289, sv "result" 290])
def hO81 (_ : Params) := ob (.type "tuple") (.seq #[])
noncomputable def hO82 (_ : Params) : Obj := codeFn (oS "Match._make") (stIn 3 5)
def hO83 (_ : Params) := ob (.type "code") (.fields #[sv "_make" 285, sv "Match._make" 286, sv "/claim/cut.py" 287, .int 33 0, .int 2 0, .int 0 0, .int 0 0, .int 3 0, .ref 83, .bool true, .int 181 0, .ref 84, .none, .ref 85, .ref 86, .ref 87, .int 291 0, .int 33 0, sv "/claim/cut.py" 292])
noncomputable def hO84 : Params -> Obj := by
 refine (?g : (n : Str) -> (ps : _) -> (d : Str) -> (k : Nat) -> (q : Pos) -> (p1 : Pos) -> (b : List Stmt) -> (dl : _) -> (r : _) -> (tp : _) -> (sc : _) -> (ts : _) -> (bd : _) -> (p : Pos) -> (stIn 3 5) = Stmt.FunctionDef n ps (.Expr (.Constant (.str d) k q) p1 :: b) dl r tp sc ts bd p -> Params -> Obj) ?a0 ?a1 ?a2 ?a3 ?a4 ?a5 ?a6 ?a7 ?a8 ?a9 ?a10 ?a11 ?a12 ?a13 ?h
 case g => exact fun n ps d k q p1 b _ _ _ sc _ _ _ _ _ => { cls := .type "function", data := .func { name := n, qualname := oS "Match._make", params := ps, body := .stmts (.Expr (.Constant (.str d) k q) p1 :: b), scope := sc, globals := 3, closure := [], defaults := Value.none, kwdefaults := Value.none, doc := Value.str d 293, pyModule := Value.str (oS "cpy313.difflib") 194, annotations := some 92, code := Value.ref 88 } }
 case h => exact rfl
def hO85 (P : Params) := ob (.type "dict") (.dict #[en P "__module__" 295 (sv "cpy313.difflib" 194), en P "__name__" 298 (sv "_make" 297), en P "__qualname__" 301 (sv "Match._make" 300), en P "__doc__" 303 (sv "Make a new Match object from a sequence or iterable" 293), en P "__annotations__" 305 (.ref 92)] 5)
noncomputable def hO86 (_ : Params) : Obj := { cls := .type "classmethod", dict := some 90, data := Data.fields #[.ref 89, .bool false] }
def hO87 (_ : Params) := ob (.type "dict") (.dict #[])
def hO88 (_ : Params) := ob (.type "tuple") (.seq #[.ref 68])
def hO89 (_ : Params) := ob (.type "tuple") (.seq #[sv "__class__" 310])
def hO90 (_ : Params) := ob .none (.fields #[])
def hO91 (_ : Params) := ob (.type "tuple") (.seq #[sv "self" 311, sv "kwds" 312, sv "result" 313])
def hO92 (_ : Params) := ob (.type "tuple") (.seq #[])
noncomputable def hO93 (_ : Params) : Obj := codeFn (oS "Match._replace") (stIn 3 6)
def hO94 (_ : Params) := ob (.type "code") (.fields #[sv "_replace" 307, sv "Match._replace" 308, sv "/claim/cut.py" 309, .int 41 0, .int 1 0, .int 1 0, .int 0 0, .int 11 0, .ref 94, .bool true, .int 181 0, .ref 95, .none, .ref 96, .ref 97, .ref 98, .int 314 0, .int 41 0, sv "/claim/cut.py" 315])
noncomputable def hO95 : Params -> Obj := by
 refine (?g : (n : Str) -> (ps : _) -> (d : Str) -> (k : Nat) -> (q : Pos) -> (p1 : Pos) -> (b : List Stmt) -> (dl : _) -> (r : _) -> (tp : _) -> (sc : _) -> (ts : _) -> (bd : _) -> (p : Pos) -> (stIn 3 6) = Stmt.FunctionDef n ps (.Expr (.Constant (.str d) k q) p1 :: b) dl r tp sc ts bd p -> Params -> Obj) ?a0 ?a1 ?a2 ?a3 ?a4 ?a5 ?a6 ?a7 ?a8 ?a9 ?a10 ?a11 ?a12 ?a13 ?h
 case g => exact fun n ps d k q p1 b _ _ _ sc _ _ _ _ _ => { cls := .type "function", data := .func { name := n, qualname := oS "Match._replace", params := ps, body := .stmts (.Expr (.Constant (.str d) k q) p1 :: b), scope := sc, globals := 3, closure := [(oS "__class__", 68)], defaults := Value.none, kwdefaults := Value.none, doc := Value.str d 316, pyModule := Value.str (oS "cpy313.difflib") 194, code := Value.ref 99, closureTuple := Value.ref 93 } }
 case h => exact rfl
def hO96 (_ : Params) := ob (.type "tuple") (.seq #[])
def hO97 (_ : Params) := ob .none (.fields #[])
def hO98 (_ : Params) := ob (.type "tuple") (.seq #[sv "self" 322])
def hO99 (_ : Params) := ob (.type "tuple") (.seq #[])
noncomputable def hO100 (_ : Params) : Obj := codeFn (oS "Match.__repr__") (stIn 3 8)
def hO101 (_ : Params) := ob (.type "code") (.fields #[sv "__repr__" 319, sv "Match.__repr__" 320, sv "/claim/cut.py" 321, .int 52 0, .int 1 0, .int 0 0, .int 0 0, .int 3 0, .ref 101, .bool true, .int 181 0, .ref 102, .none, .ref 103, .ref 104, .ref 105, .int 323 0, .int 52 0, sv "/claim/cut.py" 324])
noncomputable def hO102 : Params -> Obj := by
 refine (?g : (n : Str) -> (ps : _) -> (d : Str) -> (k : Nat) -> (q : Pos) -> (p1 : Pos) -> (b : List Stmt) -> (dl : _) -> (r : _) -> (tp : _) -> (sc : _) -> (ts : _) -> (bd : _) -> (p : Pos) -> (stIn 3 8) = Stmt.FunctionDef n ps (.Expr (.Constant (.str d) k q) p1 :: b) dl r tp sc ts bd p -> Params -> Obj) ?a0 ?a1 ?a2 ?a3 ?a4 ?a5 ?a6 ?a7 ?a8 ?a9 ?a10 ?a11 ?a12 ?a13 ?h
 case g => exact fun n ps d k q p1 b _ _ _ sc _ _ _ _ _ => { cls := .type "function", data := .func { name := n, qualname := oS "Match.__repr__", params := ps, body := .stmts (.Expr (.Constant (.str d) k q) p1 :: b), scope := sc, globals := 3, closure := [], defaults := Value.none, kwdefaults := Value.none, doc := Value.str d 325, pyModule := Value.str (oS "cpy313.difflib") 194, code := Value.ref 106 } }
 case h => exact rfl
def hO103 (_ : Params) := ob (.type "tuple") (.seq #[])
def hO104 (_ : Params) := ob .none (.fields #[])
def hO105 (_ : Params) := ob (.type "tuple") (.seq #[sv "self" 330])
def hO106 (_ : Params) := ob (.type "tuple") (.seq #[])
noncomputable def hO107 (_ : Params) : Obj := codeFn (oS "Match._asdict") (stIn 3 9)
def hO108 (_ : Params) := ob (.type "code") (.fields #[sv "_asdict" 327, sv "Match._asdict" 328, sv "/claim/cut.py" 329, .int 56 0, .int 1 0, .int 0 0, .int 0 0, .int 3 0, .ref 108, .bool true, .int 181 0, .ref 109, .none, .ref 110, .ref 111, .ref 112, .int 331 0, .int 56 0, sv "/claim/cut.py" 332])
noncomputable def hO109 : Params -> Obj := by
 refine (?g : (n : Str) -> (ps : _) -> (b : List Stmt) -> (dl : _) -> (r : _) -> (tp : _) -> (sc : _) -> (ts : _) -> (bd : _) -> (p : Pos) -> (stIn 3 9) = Stmt.FunctionDef n ps b dl r tp sc ts bd p -> Params -> Obj) ?a0 ?a1 ?a2 ?a3 ?a4 ?a5 ?a6 ?a7 ?a8 ?a9 ?h
 case g => exact fun n ps b _ _ _ sc _ _ _ _ _ => { cls := .type "function", data := .func { name := n, qualname := oS "Match._asdict", params := ps, body := .stmts b, scope := sc, globals := 3, closure := [], defaults := Value.none, kwdefaults := Value.none, pyModule := Value.str (oS "cpy313.difflib") 194, code := Value.ref 113 } }
 case h => exact rfl
def hO110 (_ : Params) := ob (.type "tuple") (.seq #[])
def hO111 (_ : Params) := ob .none (.fields #[])
def hO112 (_ : Params) := ob (.type "tuple") (.seq #[sv "self" 337])
def hO113 (_ : Params) := ob (.type "tuple") (.seq #[])
noncomputable def hO114 (_ : Params) : Obj := codeFn (oS "Match.__getnewargs__") (stIn 3 10)
def hO115 (_ : Params) := ob (.type "code") (.fields #[sv "__getnewargs__" 334, sv "Match.__getnewargs__" 335, sv "/claim/cut.py" 336, .int 59 0, .int 1 0, .int 0 0, .int 0 0, .int 3 0, .ref 115, .bool true, .int 181 0, .ref 116, .none, .ref 117, .ref 118, .ref 119, .int 338 0, .int 59 0, sv "/claim/cut.py" 339])
noncomputable def hO116 : Params -> Obj := by
 refine (?g : (n : Str) -> (ps : _) -> (d : Str) -> (k : Nat) -> (q : Pos) -> (p1 : Pos) -> (b : List Stmt) -> (dl : _) -> (r : _) -> (tp : _) -> (sc : _) -> (ts : _) -> (bd : _) -> (p : Pos) -> (stIn 3 10) = Stmt.FunctionDef n ps (.Expr (.Constant (.str d) k q) p1 :: b) dl r tp sc ts bd p -> Params -> Obj) ?a0 ?a1 ?a2 ?a3 ?a4 ?a5 ?a6 ?a7 ?a8 ?a9 ?a10 ?a11 ?a12 ?a13 ?h
 case g => exact fun n ps d k q p1 b _ _ _ sc _ _ _ _ _ => { cls := .type "function", data := .func { name := n, qualname := oS "Match.__getnewargs__", params := ps, body := .stmts (.Expr (.Constant (.str d) k q) p1 :: b), scope := sc, globals := 3, closure := [], defaults := Value.none, kwdefaults := Value.none, doc := Value.str d 340, pyModule := Value.str (oS "cpy313.difflib") 194, code := Value.ref 120 } }
 case h => exact rfl
def hO117 (_ : Params) := ob (.type "tuple") (.seq #[sv "a" 342, sv "b" 343, sv "size" 344])
def hO118 (P : Params) := ob (.type "dict") (.dict #[en P "index" 352 (.int 0 346), en P "__doc__" 354 (sv "Alias for field number 0" 347)] 2)
noncomputable def hO119 (_ : Params) : Obj := { cls := .ref 60, dict := some 123 }
def hO120 (P : Params) := ob (.type "frame") (.dict #[en P "self" 348 (.ref 124), en P "index" 349 (.int 0 346), en P "doc" 350 (sv "Alias for field number 0" 347)] 3)
def hO121 (P : Params) := ob (.type "dict") (.dict #[en P "index" 362 (.int 1 356), en P "__doc__" 364 (sv "Alias for field number 1" 357)] 2)
noncomputable def hO122 (_ : Params) : Obj := { cls := .ref 60, dict := some 126 }
def hO123 (P : Params) := ob (.type "frame") (.dict #[en P "self" 358 (.ref 127), en P "index" 359 (.int 1 356), en P "doc" 360 (sv "Alias for field number 1" 357)] 3)
def hO124 (P : Params) := ob (.type "dict") (.dict #[en P "index" 372 (.int 2 366), en P "__doc__" 374 (sv "Alias for field number 2" 367)] 2)
noncomputable def hO125 (_ : Params) : Obj := { cls := .ref 60, dict := some 129 }
def hO126 (P : Params) := ob (.type "frame") (.dict #[en P "self" 368 (.ref 130), en P "index" 369 (.int 2 366), en P "doc" 370 (sv "Alias for field number 2" 367)] 3)
def hO127 (_ : Params) := ob (.type "tuple") (.seq #[])
def hO128 (_ : Params) := ob (.type "list") (.seq #[])
def hO129 (P : Params) := ob (.type "dict") (.dict #[en P "__module__" 260 (sv "cpy313.difflib" 194), en P "__firstlineno__" 264 (.int 23 263), en P "__doc__" 266 (sv "Match(a, b, size)" 265), en P "__slots__" 268 (.ref 73), en P "_fields" 272 (.ref 74), en P "_field_defaults" 273 (.ref 75), en P "__new__" 284 (.ref 136), en P "_make" 306 (.ref 91), en P "_replace" 317 (.ref 100), en P "__replace__" 318 (.ref 100), en P "__repr__" 326 (.ref 107), en P "_asdict" 333 (.ref 114), en P "__getnewargs__" 341 (.ref 121), en P "__match_args__" 345 (.ref 122), en P "a" 355 (.ref 124), en P "b" 365 (.ref 127), en P "size" 375 (.ref 130), en P "__static_attributes__" 376 (.ref 132)] 2)
def hO130 (_ : Params) : Obj := { cls := .type "type", data := Data.cls { name := oS "Match", bases := [.type "tuple"], mro := [.ref 135, .type "tuple", .type "object"], ns := 134, qualname := oS "Match", hasDict := false }, slots := #[some (.ref 65), none, some (sv "Match" 253), some (sv "Match" 261), some .none, some (.bool false)] }
def hO131 (_ : Params) := ob (.type "staticmethod") (.fields #[.ref 82])
def hO132 (_ : Params) := ob (.type "super") (.fields #[.ref 135, .ref 135, .ref 135])
def hO133 (_ : Params) := ob (.type "builtin_function_or_method") (.fields #[.builtin "object.__init_subclass__", .ref 135])
def hO207 (P : Params) := ob (.type "dict") (.dict #[en P "__name__" 165 (sv "cpy313.difflib" 194), en P "__doc__" 166 .none, en P "__package__" 167 .none, en P "__loader__" 168 (.builtin "__main__.__loader__#opaque"), en P "__spec__" 169 .none, en P "__annotations__" 170 (.ref 6), en P "__builtins__" 171 (.ref 4), en P "__file__" 173 (sv "/claim/cut.py" 172), en P "__cached__" 174 .none, en P "_wall" 193 (.ref 21), en P "_tuplegetter" 252 (.ref 60), en P "Match" 380 (.ref 135), en P "_calculate_ratio" 388 (.ref 145)] 13)
def hO208 (_ : Params) := ob .none (.fields #[.int 1 0, .int 0 0, .ref 20, .int 5 0, .int 0 0, .ref 27, .int 23 0, .int 0 0, .ref 71, .int 66 0, .int 0 0, .ref 144])
def hO209 (_ : Params) := ob (.type "tuple") (.seq #[])
def hO210 (_ : Params) := ob .none (.fields #[])
def hO211 (_ : Params) := ob (.type "tuple") (.seq #[sv "matches" 384, sv "length" 385])
def hO212 (_ : Params) := ob (.type "tuple") (.seq #[])
noncomputable def hO213 (_ : Params) : Obj := codeFn (oS "_calculate_ratio") (stAt 4)
def hO214 (_ : Params) := ob (.type "code") (.fields #[sv "_calculate_ratio" 381, sv "_calculate_ratio" 382, sv "/claim/cut.py" 383, .int 66 0, .int 2 0, .int 0 0, .int 0 0, .int 3 0, .ref 139, .bool true, .int 181 0, .ref 140, .none, .ref 141, .ref 142, .ref 143, .int 386 0, .int 66 0, sv "/claim/cut.py" 387])
noncomputable def hO215 : Params -> Obj := by
 refine (?g : (n : Str) -> (ps : _) -> (b : List Stmt) -> (dl : _) -> (r : _) -> (tp : _) -> (sc : _) -> (ts : _) -> (bd : _) -> (p : Pos) -> (stAt 4) = Stmt.FunctionDef n ps b dl r tp sc ts bd p -> Params -> Obj) ?a0 ?a1 ?a2 ?a3 ?a4 ?a5 ?a6 ?a7 ?a8 ?a9 ?h
 case g => exact fun n ps b _ _ _ sc _ _ _ _ _ => { cls := .type "function", data := .func { name := n, qualname := oS "_calculate_ratio", params := ps, body := .stmts b, scope := sc, globals := 3, closure := [], defaults := Value.none, kwdefaults := Value.none, pyModule := Value.str (oS "cpy313.difflib") 194, code := Value.ref 144 } }
 case h => exact rfl
def hO217 (P : Params) := ob (.type "dict") (.dict #[en P "__name__" 165 (sv "cpy313.difflib" 194), en P "__doc__" 166 .none, en P "__package__" 167 .none, en P "__loader__" 168 (.builtin "__main__.__loader__#opaque"), en P "__spec__" 169 .none, en P "__annotations__" 170 (.ref 6), en P "__builtins__" 171 (.ref 4), en P "__file__" 173 (sv "/claim/cut.py" 172), en P "__cached__" 174 .none, en P "_wall" 193 (.ref 21), en P "_tuplegetter" 252 (.ref 60), en P "Match" 380 (.ref 135), en P "_calculate_ratio" 388 (.ref 145), en P "SequenceMatcher" 582 (.ref 242)] 14)
def hO218 (_ : Params) := ob .none (.fields #[.int 1 0, .int 0 0, .ref 20, .int 5 0, .int 0 0, .ref 27, .int 23 0, .int 0 0, .ref 71, .int 66 0, .int 0 0, .ref 144, .int 70 0, .int 0 0, .ref 151])
def hO219 (_ : Params) := ob (.type "tuple") (.seq #[])
def hO220 (_ : Params) := ob (.type "builtin_function_or_method") (.fields #[.builtin "type.__prepare__", .type "type"])
def hO221 (P : Params) := ob (.type "dict") (.dict #[en P "__module__" 396 (sv "cpy313.difflib" 194), en P "__qualname__" 398 (sv "SequenceMatcher" 397), en P "__firstlineno__" 400 (.int 70 399), en P "__doc__" 402 (sv "x" 401), en P "__init__" 417 (.ref 160), en P "set_seqs" 427 (.ref 167), en P "set_seq1" 436 (.ref 174), en P "set_seq2" 445 (.ref 181), en P "_SequenceMatcher__chain_b" 463 (.ref 188), en P "find_longest_match" 491 (.ref 196), en P "get_matching_blocks" 518 (.ref 203), en P "get_opcodes" 533 (.ref 210), en P "get_grouped_opcodes" 542 (.ref 218), en P "ratio" 551 (.ref 225), en P "quick_ratio" 558 (.ref 232), en P "real_quick_ratio" 565 (.ref 239), en P "__static_attributes__" 576 (.ref 240)] 17)
def hO222 (_ : Params) := ob (.type "tuple") (.seq #[])
def hO223 (_ : Params) := ob .none (.fields #[.int 145 0, .int 4 0, .ref 159, .int 173 0, .int 4 0, .ref 166, .int 184 0, .int 4 0, .ref 173, .int 209 0, .int 4 0, .ref 180, .int 236 0, .int 4 0, .ref 187, .int 260 0, .int 4 0, .ref 195, .int 335 0, .int 4 0, .ref 202, .int 383 0, .int 4 0, .ref 209, .int 430 0, .int 4 0, .ref 217, .int 433 0, .int 4 0, .ref 224, .int 457 0, .int 4 0, .ref 231, .int 460 0, .int 4 0, .ref 238])
def hO224 (_ : Params) := ob (.type "code") (.fields #[sv "SequenceMatcher" 391, sv "SequenceMatcher" 392, sv "/claim/cut.py" 393, .int 70 0, .int 0 0, .int 0 0, .int 0 0, .int 0 0, .ref 149, .bool false, .int 181 0, .ref 150, .none, .none, .none, .none, .int 394 0, .int 70 0, sv "/claim/cut.py" 395])
def hO225 (_ : Params) : Obj := { cls := .type "frame", slots := #[some (.ref 151), some (.ref 3), some (.ref 148), none, some (sv "cpy313.difflib" 194), none, some (.ref 0)] }
def hO226 (_ : Params) := ob (.type "tuple") (.seq #[.none, sv "" 404, sv "" 405, .bool true])
def hO227 (_ : Params) := ob (.type "tuple") (.seq #[])
def hO228 (_ : Params) := ob .none (.fields #[])
def hO229 (_ : Params) := ob (.type "tuple") (.seq #[sv "self" 409, sv "isjunk" 410, sv "a" 411, sv "b" 412, sv "autojunk" 413])
def hO230 (_ : Params) := ob (.type "tuple") (.seq #[])
noncomputable def hO231 (_ : Params) : Obj := codeFn (oS "SequenceMatcher.__init__") (stIn 5 1)
def hO232 (_ : Params) := ob (.type "code") (.fields #[sv "__init__" 406, sv "SequenceMatcher.__init__" 407, sv "/claim/cut.py" 408, .int 145 0, .int 5 0, .int 0 0, .int 0 0, .int 3 0, .ref 154, .bool true, .int 181 0, .ref 155, .none, .ref 156, .ref 157, .ref 158, .int 414 0, .int 145 0, sv "/claim/cut.py" 415])
noncomputable def hO233 : Params -> Obj := by
 refine (?g : (n : Str) -> (ps : _) -> (d : Str) -> (k : Nat) -> (q : Pos) -> (p1 : Pos) -> (b : List Stmt) -> (dl : _) -> (r : _) -> (tp : _) -> (sc : _) -> (ts : _) -> (bd : _) -> (p : Pos) -> (stIn 5 1) = Stmt.FunctionDef n ps (.Expr (.Constant (.str d) k q) p1 :: b) dl r tp sc ts bd p -> Params -> Obj) ?a0 ?a1 ?a2 ?a3 ?a4 ?a5 ?a6 ?a7 ?a8 ?a9 ?a10 ?a11 ?a12 ?a13 ?h
 case g => exact fun n ps d k q p1 b _ _ _ sc _ _ _ _ _ => { cls := .type "function", data := .func { name := n, qualname := oS "SequenceMatcher.__init__", params := ps, body := .stmts (.Expr (.Constant (.str d) k q) p1 :: b), scope := sc, globals := 3, closure := [], defaults := Value.ref 153, kwdefaults := Value.none, doc := Value.str d 416, pyModule := Value.str (oS "cpy313.difflib") 194, code := Value.ref 159 } }
 case h => exact rfl
def hO234 (_ : Params) := ob (.type "tuple") (.seq #[])
def hO235 (_ : Params) := ob .none (.fields #[])
def hO236 (_ : Params) := ob (.type "tuple") (.seq #[sv "self" 421, sv "a" 422, sv "b" 423])
def hO237 (_ : Params) := ob (.type "tuple") (.seq #[])
noncomputable def hO238 (_ : Params) : Obj := codeFn (oS "SequenceMatcher.set_seqs") (stIn 5 2)
def hO239 (_ : Params) := ob (.type "code") (.fields #[sv "set_seqs" 418, sv "SequenceMatcher.set_seqs" 419, sv "/claim/cut.py" 420, .int 173 0, .int 3 0, .int 0 0, .int 0 0, .int 3 0, .ref 161, .bool true, .int 181 0, .ref 162, .none, .ref 163, .ref 164, .ref 165, .int 424 0, .int 173 0, sv "/claim/cut.py" 425])
noncomputable def hO240 : Params -> Obj := by
 refine (?g : (n : Str) -> (ps : _) -> (d : Str) -> (k : Nat) -> (q : Pos) -> (p1 : Pos) -> (b : List Stmt) -> (dl : _) -> (r : _) -> (tp : _) -> (sc : _) -> (ts : _) -> (bd : _) -> (p : Pos) -> (stIn 5 2) = Stmt.FunctionDef n ps (.Expr (.Constant (.str d) k q) p1 :: b) dl r tp sc ts bd p -> Params -> Obj) ?a0 ?a1 ?a2 ?a3 ?a4 ?a5 ?a6 ?a7 ?a8 ?a9 ?a10 ?a11 ?a12 ?a13 ?h
 case g => exact fun n ps d k q p1 b _ _ _ sc _ _ _ _ _ => { cls := .type "function", data := .func { name := n, qualname := oS "SequenceMatcher.set_seqs", params := ps, body := .stmts (.Expr (.Constant (.str d) k q) p1 :: b), scope := sc, globals := 3, closure := [], defaults := Value.none, kwdefaults := Value.none, doc := Value.str d 426, pyModule := Value.str (oS "cpy313.difflib") 194, code := Value.ref 166 } }
 case h => exact rfl
def hO241 (_ : Params) := ob (.type "tuple") (.seq #[])
def hO242 (_ : Params) := ob .none (.fields #[])
def hO243 (_ : Params) := ob (.type "tuple") (.seq #[sv "self" 431, sv "a" 432])
def hO244 (_ : Params) := ob (.type "tuple") (.seq #[])
noncomputable def hO245 (_ : Params) : Obj := codeFn (oS "SequenceMatcher.set_seq1") (stIn 5 3)
def hO246 (_ : Params) := ob (.type "code") (.fields #[sv "set_seq1" 428, sv "SequenceMatcher.set_seq1" 429, sv "/claim/cut.py" 430, .int 184 0, .int 2 0, .int 0 0, .int 0 0, .int 3 0, .ref 168, .bool true, .int 181 0, .ref 169, .none, .ref 170, .ref 171, .ref 172, .int 433 0, .int 184 0, sv "/claim/cut.py" 434])
noncomputable def hO247 : Params -> Obj := by
 refine (?g : (n : Str) -> (ps : _) -> (d : Str) -> (k : Nat) -> (q : Pos) -> (p1 : Pos) -> (b : List Stmt) -> (dl : _) -> (r : _) -> (tp : _) -> (sc : _) -> (ts : _) -> (bd : _) -> (p : Pos) -> (stIn 5 3) = Stmt.FunctionDef n ps (.Expr (.Constant (.str d) k q) p1 :: b) dl r tp sc ts bd p -> Params -> Obj) ?a0 ?a1 ?a2 ?a3 ?a4 ?a5 ?a6 ?a7 ?a8 ?a9 ?a10 ?a11 ?a12 ?a13 ?h
 case g => exact fun n ps d k q p1 b _ _ _ sc _ _ _ _ _ => { cls := .type "function", data := .func { name := n, qualname := oS "SequenceMatcher.set_seq1", params := ps, body := .stmts (.Expr (.Constant (.str d) k q) p1 :: b), scope := sc, globals := 3, closure := [], defaults := Value.none, kwdefaults := Value.none, doc := Value.str d 435, pyModule := Value.str (oS "cpy313.difflib") 194, code := Value.ref 173 } }
 case h => exact rfl
def hO248 (_ : Params) := ob (.type "tuple") (.seq #[])
def hO249 (_ : Params) := ob .none (.fields #[])
def hO250 (_ : Params) := ob (.type "tuple") (.seq #[sv "self" 440, sv "b" 441])
def hO251 (_ : Params) := ob (.type "tuple") (.seq #[])
noncomputable def hO252 (_ : Params) : Obj := codeFn (oS "SequenceMatcher.set_seq2") (stIn 5 4)
def hO253 (_ : Params) := ob (.type "code") (.fields #[sv "set_seq2" 437, sv "SequenceMatcher.set_seq2" 438, sv "/claim/cut.py" 439, .int 209 0, .int 2 0, .int 0 0, .int 0 0, .int 3 0, .ref 175, .bool true, .int 181 0, .ref 176, .none, .ref 177, .ref 178, .ref 179, .int 442 0, .int 209 0, sv "/claim/cut.py" 443])
noncomputable def hO254 : Params -> Obj := by
 refine (?g : (n : Str) -> (ps : _) -> (d : Str) -> (k : Nat) -> (q : Pos) -> (p1 : Pos) -> (b : List Stmt) -> (dl : _) -> (r : _) -> (tp : _) -> (sc : _) -> (ts : _) -> (bd : _) -> (p : Pos) -> (stIn 5 4) = Stmt.FunctionDef n ps (.Expr (.Constant (.str d) k q) p1 :: b) dl r tp sc ts bd p -> Params -> Obj) ?a0 ?a1 ?a2 ?a3 ?a4 ?a5 ?a6 ?a7 ?a8 ?a9 ?a10 ?a11 ?a12 ?a13 ?h
 case g => exact fun n ps d k q p1 b _ _ _ sc _ _ _ _ _ => { cls := .type "function", data := .func { name := n, qualname := oS "SequenceMatcher.set_seq2", params := ps, body := .stmts (.Expr (.Constant (.str d) k q) p1 :: b), scope := sc, globals := 3, closure := [], defaults := Value.none, kwdefaults := Value.none, doc := Value.str d 444, pyModule := Value.str (oS "cpy313.difflib") 194, code := Value.ref 180 } }
 case h => exact rfl
def hO255 (_ : Params) := ob (.type "tuple") (.seq #[])
def hO256 (_ : Params) := ob .none (.fields #[])
def hO257 (_ : Params) := ob (.type "tuple") (.seq #[sv "self" 449, sv "b" 450, sv "b2j" 451, sv "i" 452, sv "elt" 453, sv "indices" 454, sv "junk" 455, sv "isjunk" 456, sv "popular" 457, sv "n" 458, sv "ntest" 459, sv "idxs" 460])
def hO258 (_ : Params) := ob (.type "tuple") (.seq #[])
noncomputable def hO259 (_ : Params) : Obj := codeFn (oS "SequenceMatcher.__chain_b") (stIn 5 5)
def hO260 (_ : Params) := ob (.type "code") (.fields #[sv "__chain_b" 446, sv "SequenceMatcher.__chain_b" 447, sv "/claim/cut.py" 448, .int 236 0, .int 1 0, .int 0 0, .int 0 0, .int 3 0, .ref 182, .bool true, .int 181 0, .ref 183, .none, .ref 184, .ref 185, .ref 186, .int 461 0, .int 236 0, sv "/claim/cut.py" 462])
noncomputable def hO261 : Params -> Obj := by
 refine (?g : (n : Str) -> (ps : _) -> (b : List Stmt) -> (dl : _) -> (r : _) -> (tp : _) -> (sc : _) -> (ts : _) -> (bd : _) -> (p : Pos) -> (stIn 5 5) = Stmt.FunctionDef n ps b dl r tp sc ts bd p -> Params -> Obj) ?a0 ?a1 ?a2 ?a3 ?a4 ?a5 ?a6 ?a7 ?a8 ?a9 ?h
 case g => exact fun n ps b _ _ _ sc _ _ _ _ _ => { cls := .type "function", data := .func { name := n, qualname := oS "SequenceMatcher.__chain_b", params := ps, body := .stmts b, scope := sc, globals := 3, closure := [], defaults := Value.none, kwdefaults := Value.none, pyModule := Value.str (oS "cpy313.difflib") 194, code := Value.ref 187 } }
 case h => exact rfl
def hO262 (_ : Params) := ob (.type "tuple") (.seq #[.int 0 464, .none, .int 0 465, .none])
def hO263 (_ : Params) := ob (.type "tuple") (.seq #[])
def hO264 (_ : Params) := ob .none (.fields #[])
def hO265 (_ : Params) := ob (.type "tuple") (.seq #[sv "self" 469, sv "alo" 470, sv "ahi" 471, sv "blo" 472, sv "bhi" 473, sv "a" 474, sv "b" 475, sv "b2j" 476, sv "isbjunk" 477, sv "besti" 478, sv "bestj" 479, sv "bestsize" 480, sv "j2len" 481, sv "nothing" 482, sv "i" 483, sv "j2lenget" 484, sv "newj2len" 485, sv "j" 486, sv "k" 487])
def hO266 (_ : Params) := ob (.type "tuple") (.seq #[])
noncomputable def hO267 (_ : Params) : Obj := codeFn (oS "SequenceMatcher.find_longest_match") (stIn 5 6)
def hO268 (_ : Params) := ob (.type "code") (.fields #[sv "find_longest_match" 466, sv "SequenceMatcher.find_longest_match" 467, sv "/claim/cut.py" 468, .int 260 0, .int 5 0, .int 0 0, .int 0 0, .int 3 0, .ref 190, .bool true, .int 181 0, .ref 191, .none, .ref 192, .ref 193, .ref 194, .int 488 0, .int 260 0, sv "/claim/cut.py" 489])
noncomputable def hO269 : Params -> Obj := by
 refine (?g : (n : Str) -> (ps : _) -> (d : Str) -> (k : Nat) -> (q : Pos) -> (p1 : Pos) -> (b : List Stmt) -> (dl : _) -> (r : _) -> (tp : _) -> (sc : _) -> (ts : _) -> (bd : _) -> (p : Pos) -> (stIn 5 6) = Stmt.FunctionDef n ps (.Expr (.Constant (.str d) k q) p1 :: b) dl r tp sc ts bd p -> Params -> Obj) ?a0 ?a1 ?a2 ?a3 ?a4 ?a5 ?a6 ?a7 ?a8 ?a9 ?a10 ?a11 ?a12 ?a13 ?h
 case g => exact fun n ps d k q p1 b _ _ _ sc _ _ _ _ _ => { cls := .type "function", data := .func { name := n, qualname := oS "SequenceMatcher.find_longest_match", params := ps, body := .stmts (.Expr (.Constant (.str d) k q) p1 :: b), scope := sc, globals := 3, closure := [], defaults := Value.ref 189, kwdefaults := Value.none, doc := Value.str d 490, pyModule := Value.str (oS "cpy313.difflib") 194, code := Value.ref 195 } }
 case h => exact rfl
def hO270 (_ : Params) := ob (.type "tuple") (.seq #[])
def hO271 (_ : Params) := ob .none (.fields #[])
def hO272 (_ : Params) := ob (.type "tuple") (.seq #[sv "self" 495, sv "la" 496, sv "lb" 497, sv "queue" 498, sv "matching_blocks" 499, sv "alo" 500, sv "ahi" 501, sv "blo" 502, sv "bhi" 503, sv "i" 504, sv "j" 505, sv "k" 506, sv "x" 507, sv "i1" 508, sv "j1" 509, sv "k1" 510, sv "non_adjacent" 511, sv "i2" 512, sv "j2" 513, sv "k2" 514])
def hO273 (_ : Params) := ob (.type "tuple") (.seq #[])
noncomputable def hO274 (_ : Params) : Obj := codeFn (oS "SequenceMatcher.get_matching_blocks") (stIn 5 7)
def hO275 (_ : Params) := ob (.type "code") (.fields #[sv "get_matching_blocks" 492, sv "SequenceMatcher.get_matching_blocks" 493, sv "/claim/cut.py" 494, .int 335 0, .int 1 0, .int 0 0, .int 0 0, .int 3 0, .ref 197, .bool true, .int 181 0, .ref 198, .none, .ref 199, .ref 200, .ref 201, .int 515 0, .int 335 0, sv "/claim/cut.py" 516])
noncomputable def hO276 : Params -> Obj := by
 refine (?g : (n : Str) -> (ps : _) -> (d : Str) -> (k : Nat) -> (q : Pos) -> (p1 : Pos) -> (b : List Stmt) -> (dl : _) -> (r : _) -> (tp : _) -> (sc : _) -> (ts : _) -> (bd : _) -> (p : Pos) -> (stIn 5 7) = Stmt.FunctionDef n ps (.Expr (.Constant (.str d) k q) p1 :: b) dl r tp sc ts bd p -> Params -> Obj) ?a0 ?a1 ?a2 ?a3 ?a4 ?a5 ?a6 ?a7 ?a8 ?a9 ?a10 ?a11 ?a12 ?a13 ?h
 case g => exact fun n ps d k q p1 b _ _ _ sc _ _ _ _ _ => { cls := .type "function", data := .func { name := n, qualname := oS "SequenceMatcher.get_matching_blocks", params := ps, body := .stmts (.Expr (.Constant (.str d) k q) p1 :: b), scope := sc, globals := 3, closure := [], defaults := Value.none, kwdefaults := Value.none, doc := Value.str d 517, pyModule := Value.str (oS "cpy313.difflib") 194, code := Value.ref 202 } }
 case h => exact rfl
def hO277 (_ : Params) := ob (.type "tuple") (.seq #[])
def hO278 (_ : Params) := ob .none (.fields #[])
def hO279 (_ : Params) := ob (.type "tuple") (.seq #[sv "self" 522, sv "i" 523, sv "j" 524, sv "answer" 525, sv "ai" 526, sv "bj" 527, sv "size" 528, sv "tag" 529])
def hO280 (_ : Params) := ob (.type "tuple") (.seq #[])
noncomputable def hO281 (_ : Params) : Obj := codeFn (oS "SequenceMatcher.get_opcodes") (stIn 5 8)
def hO282 (_ : Params) := ob (.type "code") (.fields #[sv "get_opcodes" 519, sv "SequenceMatcher.get_opcodes" 520, sv "/claim/cut.py" 521, .int 383 0, .int 1 0, .int 0 0, .int 0 0, .int 3 0, .ref 204, .bool true, .int 181 0, .ref 205, .none, .ref 206, .ref 207, .ref 208, .int 530 0, .int 383 0, sv "/claim/cut.py" 531])
noncomputable def hO283 : Params -> Obj := by
 refine (?g : (n : Str) -> (ps : _) -> (d : Str) -> (k : Nat) -> (q : Pos) -> (p1 : Pos) -> (b : List Stmt) -> (dl : _) -> (r : _) -> (tp : _) -> (sc : _) -> (ts : _) -> (bd : _) -> (p : Pos) -> (stIn 5 8) = Stmt.FunctionDef n ps (.Expr (.Constant (.str d) k q) p1 :: b) dl r tp sc ts bd p -> Params -> Obj) ?a0 ?a1 ?a2 ?a3 ?a4 ?a5 ?a6 ?a7 ?a8 ?a9 ?a10 ?a11 ?a12 ?a13 ?h
 case g => exact fun n ps d k q p1 b _ _ _ sc _ _ _ _ _ => { cls := .type "function", data := .func { name := n, qualname := oS "SequenceMatcher.get_opcodes", params := ps, body := .stmts (.Expr (.Constant (.str d) k q) p1 :: b), scope := sc, globals := 3, closure := [], defaults := Value.none, kwdefaults := Value.none, doc := Value.str d 532, pyModule := Value.str (oS "cpy313.difflib") 194, code := Value.ref 209 } }
 case h => exact rfl
def hO284 (_ : Params) := ob (.type "tuple") (.seq #[.int 3 534])
def hO285 (_ : Params) := ob (.type "tuple") (.seq #[])
def hO286 (_ : Params) := ob .none (.fields #[])
def hO287 (_ : Params) := ob (.type "tuple") (.seq #[sv "self" 538, sv "n" 539])
def hO288 (_ : Params) := ob (.type "tuple") (.seq #[])
noncomputable def hO289 (_ : Params) : Obj := codeFn (oS "SequenceMatcher.get_grouped_opcodes") (stIn 5 9)
def hO290 (_ : Params) := ob (.type "code") (.fields #[sv "get_grouped_opcodes" 535, sv "SequenceMatcher.get_grouped_opcodes" 536, sv "/claim/cut.py" 537, .int 430 0, .int 2 0, .int 0 0, .int 0 0, .int 3 0, .ref 212, .bool true, .int 181 0, .ref 213, .none, .ref 214, .ref 215, .ref 216, .int 540 0, .int 430 0, sv "/claim/cut.py" 541])
noncomputable def hO291 : Params -> Obj := by
 refine (?g : (n : Str) -> (ps : _) -> (b : List Stmt) -> (dl : _) -> (r : _) -> (tp : _) -> (sc : _) -> (ts : _) -> (bd : _) -> (p : Pos) -> (stIn 5 9) = Stmt.FunctionDef n ps b dl r tp sc ts bd p -> Params -> Obj) ?a0 ?a1 ?a2 ?a3 ?a4 ?a5 ?a6 ?a7 ?a8 ?a9 ?h
 case g => exact fun n ps b _ _ _ sc _ _ _ _ _ => { cls := .type "function", data := .func { name := n, qualname := oS "SequenceMatcher.get_grouped_opcodes", params := ps, body := .stmts b, scope := sc, globals := 3, closure := [], defaults := Value.ref 211, kwdefaults := Value.none, pyModule := Value.str (oS "cpy313.difflib") 194, code := Value.ref 217 } }
 case h => exact rfl
def hO292 (_ : Params) := ob (.type "tuple") (.seq #[])
def hO293 (_ : Params) := ob .none (.fields #[])
def hO294 (_ : Params) := ob (.type "tuple") (.seq #[sv "self" 546, sv "matches" 547])
def hO295 (_ : Params) := ob (.type "tuple") (.seq #[])
noncomputable def hO296 (_ : Params) : Obj := codeFn (oS "SequenceMatcher.ratio") (stIn 5 10)
def hO297 (_ : Params) := ob (.type "code") (.fields #[sv "ratio" 543, sv "SequenceMatcher.ratio" 544, sv "/claim/cut.py" 545, .int 433 0, .int 1 0, .int 0 0, .int 0 0, .int 3 0, .ref 219, .bool true, .int 181 0, .ref 220, .none, .ref 221, .ref 222, .ref 223, .int 548 0, .int 433 0, sv "/claim/cut.py" 549])
noncomputable def hO298 : Params -> Obj := by
 refine (?g : (n : Str) -> (ps : _) -> (d : Str) -> (k : Nat) -> (q : Pos) -> (p1 : Pos) -> (b : List Stmt) -> (dl : _) -> (r : _) -> (tp : _) -> (sc : _) -> (ts : _) -> (bd : _) -> (p : Pos) -> (stIn 5 10) = Stmt.FunctionDef n ps (.Expr (.Constant (.str d) k q) p1 :: b) dl r tp sc ts bd p -> Params -> Obj) ?a0 ?a1 ?a2 ?a3 ?a4 ?a5 ?a6 ?a7 ?a8 ?a9 ?a10 ?a11 ?a12 ?a13 ?h
 case g => exact fun n ps d k q p1 b _ _ _ sc _ _ _ _ _ => { cls := .type "function", data := .func { name := n, qualname := oS "SequenceMatcher.ratio", params := ps, body := .stmts (.Expr (.Constant (.str d) k q) p1 :: b), scope := sc, globals := 3, closure := [], defaults := Value.none, kwdefaults := Value.none, doc := Value.str d 550, pyModule := Value.str (oS "cpy313.difflib") 194, code := Value.ref 224 } }
 case h => exact rfl
def hO299 (_ : Params) := ob (.type "tuple") (.seq #[])
def hO300 (_ : Params) := ob .none (.fields #[])
def hO301 (_ : Params) := ob (.type "tuple") (.seq #[sv "self" 555])
def hO302 (_ : Params) := ob (.type "tuple") (.seq #[])
noncomputable def hO303 (_ : Params) : Obj := codeFn (oS "SequenceMatcher.quick_ratio") (stIn 5 11)
def hO304 (_ : Params) := ob (.type "code") (.fields #[sv "quick_ratio" 552, sv "SequenceMatcher.quick_ratio" 553, sv "/claim/cut.py" 554, .int 457 0, .int 1 0, .int 0 0, .int 0 0, .int 3 0, .ref 226, .bool true, .int 181 0, .ref 227, .none, .ref 228, .ref 229, .ref 230, .int 556 0, .int 457 0, sv "/claim/cut.py" 557])
noncomputable def hO305 : Params -> Obj := by
 refine (?g : (n : Str) -> (ps : _) -> (b : List Stmt) -> (dl : _) -> (r : _) -> (tp : _) -> (sc : _) -> (ts : _) -> (bd : _) -> (p : Pos) -> (stIn 5 11) = Stmt.FunctionDef n ps b dl r tp sc ts bd p -> Params -> Obj) ?a0 ?a1 ?a2 ?a3 ?a4 ?a5 ?a6 ?a7 ?a8 ?a9 ?h
 case g => exact fun n ps b _ _ _ sc _ _ _ _ _ => { cls := .type "function", data := .func { name := n, qualname := oS "SequenceMatcher.quick_ratio", params := ps, body := .stmts b, scope := sc, globals := 3, closure := [], defaults := Value.none, kwdefaults := Value.none, pyModule := Value.str (oS "cpy313.difflib") 194, code := Value.ref 231 } }
 case h => exact rfl
def hO306 (_ : Params) := ob (.type "tuple") (.seq #[])
def hO307 (_ : Params) := ob .none (.fields #[])
def hO308 (_ : Params) := ob (.type "tuple") (.seq #[sv "self" 562])
def hO309 (_ : Params) := ob (.type "tuple") (.seq #[])
noncomputable def hO310 (_ : Params) : Obj := codeFn (oS "SequenceMatcher.real_quick_ratio") (stIn 5 12)
def hO311 (_ : Params) := ob (.type "code") (.fields #[sv "real_quick_ratio" 559, sv "SequenceMatcher.real_quick_ratio" 560, sv "/claim/cut.py" 561, .int 460 0, .int 1 0, .int 0 0, .int 0 0, .int 3 0, .ref 233, .bool true, .int 181 0, .ref 234, .none, .ref 235, .ref 236, .ref 237, .int 563 0, .int 460 0, sv "/claim/cut.py" 564])
noncomputable def hO312 : Params -> Obj := by
 refine (?g : (n : Str) -> (ps : _) -> (b : List Stmt) -> (dl : _) -> (r : _) -> (tp : _) -> (sc : _) -> (ts : _) -> (bd : _) -> (p : Pos) -> (stIn 5 12) = Stmt.FunctionDef n ps b dl r tp sc ts bd p -> Params -> Obj) ?a0 ?a1 ?a2 ?a3 ?a4 ?a5 ?a6 ?a7 ?a8 ?a9 ?h
 case g => exact fun n ps b _ _ _ sc _ _ _ _ _ => { cls := .type "function", data := .func { name := n, qualname := oS "SequenceMatcher.real_quick_ratio", params := ps, body := .stmts b, scope := sc, globals := 3, closure := [], defaults := Value.none, kwdefaults := Value.none, pyModule := Value.str (oS "cpy313.difflib") 194, code := Value.ref 238 } }
 case h => exact rfl
def hO313 (_ : Params) := ob (.type "tuple") (.seq #[sv "a" 566, sv "autojunk" 567, sv "b" 568, sv "b2j" 569, sv "bjunk" 570, sv "bpopular" 571, sv "fullbcount" 572, sv "isjunk" 573, sv "matching_blocks" 574, sv "opcodes" 575])
def hO314 (P : Params) := ob (.type "dict") (.dict #[en P "__module__" 396 (sv "cpy313.difflib" 194), en P "__firstlineno__" 400 (.int 70 399), en P "__doc__" 402 (sv "x" 401), en P "__init__" 417 (.ref 160), en P "set_seqs" 427 (.ref 167), en P "set_seq1" 436 (.ref 174), en P "set_seq2" 445 (.ref 181), en P "_SequenceMatcher__chain_b" 463 (.ref 188), en P "find_longest_match" 491 (.ref 196), en P "get_matching_blocks" 518 (.ref 203), en P "get_opcodes" 533 (.ref 210), en P "get_grouped_opcodes" 542 (.ref 218), en P "ratio" 551 (.ref 225), en P "quick_ratio" 558 (.ref 232), en P "real_quick_ratio" 565 (.ref 239), en P "__static_attributes__" 576 (.ref 240), en P "__dict__" 578 (.ref 243), en P "__weakref__" 580 (.ref 244)] 3)
def hO315 (_ : Params) : Obj := { cls := .type "type", data := Data.cls { name := oS "SequenceMatcher", bases := [.type "object"], mro := [.ref 242, .type "object"], ns := 241, qualname := oS "SequenceMatcher" }, slots := #[none, none, some (sv "SequenceMatcher" 389), some (sv "SequenceMatcher" 397), some (.builtin "object.__new__"), some (.bool true)] }
def hO316 (_ : Params) := ob (.type "getset_descriptor") (.fields #[sv "__dict__" 577, .ref 242, .builtin "function.__dict__", .builtin "function.__dict__#set"])
def hO317 (_ : Params) := ob (.type "getset_descriptor") (.fields #[sv "__weakref__" 579, .ref 242, .builtin "ExceptionGroup.__weakref__", .none])
def hO318 (_ : Params) := ob (.type "super") (.fields #[.ref 242, .ref 242, .ref 242])
def hO319 (_ : Params) := ob (.type "builtin_function_or_method") (.fields #[.builtin "object.__init_subclass__", .ref 242])
def hO395 (P : Params) := ob (.type "dict") (.dict #[en P "__name__" 165 (sv "law_wn0129_03" 640), en P "__doc__" 166 .none, en P "__package__" 167 .none, en P "__loader__" 168 (.builtin "__main__.__loader__#opaque"), en P "__spec__" 169 .none, en P "__annotations__" 170 (.ref 6), en P "__builtins__" 171 (.ref 4), en P "__file__" 173 (sv "/claim/cut.py" 172), en P "__cached__" 174 .none, en P "_wall" 193 (.ref 21), en P "_tuplegetter" 252 (.ref 60), en P "Match" 380 (.ref 135), en P "_calculate_ratio" 388 (.ref 145), en P "SequenceMatcher" 582 (.ref 242), en P "TupleComp" 628 (.ref 270), en P "_deduplicate_unhashable" 639 (.ref 281), en P "_law_words" 647 (.ref 286), en P "_law_ties" 653 (.ref 291), en P "_law_keys" 659 (.ref 296)] 19)
def hO396 (_ : Params) := ob .none (.fields #[.int 1 0, .int 0 0, .ref 20, .int 5 0, .int 0 0, .ref 27, .int 23 0, .int 0 0, .ref 71, .int 66 0, .int 0 0, .ref 144, .int 70 0, .int 0 0, .ref 151, .int 463 0, .int 0 0, .ref 252, .int 484 0, .int 0 0, .ref 280, .int 491 0, .int 0 0, .ref 285, .int 493 0, .int 0 0, .ref 290, .int 498 0, .int 0 0, .ref 295])
def hO397 (_ : Params) := ob (.type "tuple") (.seq #[])
def hO398 (_ : Params) := ob (.type "builtin_function_or_method") (.fields #[.builtin "type.__prepare__", .type "type"])
def hO399 (P : Params) := ob (.type "dict") (.dict #[en P "__module__" 592 (sv "cpy313.pstats" 583), en P "__qualname__" 594 (sv "TupleComp" 593), en P "__firstlineno__" 596 (.int 463 595), en P "__doc__" 598 (.str (doc7) 597), en P "__init__" 607 (.ref 260), en P "compare" 620 (.ref 267), en P "__static_attributes__" 622 (.ref 268)] 7)
def hO400 (_ : Params) := ob (.type "tuple") (.seq #[])
def hO401 (_ : Params) := ob .none (.fields #[.int 471 0, .int 4 0, .ref 259, .int 474 0, .int 4 0, .ref 266])
def hO402 (_ : Params) := ob (.type "code") (.fields #[sv "TupleComp" 587, sv "TupleComp" 588, sv "/claim/cut.py" 589, .int 463 0, .int 0 0, .int 0 0, .int 0 0, .int 0 0, .ref 250, .bool false, .int 181 0, .ref 251, .none, .none, .none, .none, .int 590 0, .int 463 0, sv "/claim/cut.py" 591])
def hO403 (_ : Params) : Obj := { cls := .type "frame", slots := #[some (.ref 252), some (.ref 3), some (.ref 249), none, some (sv "cpy313.pstats" 583), none, some (.ref 0)] }
def hO404 (_ : Params) := ob (.type "tuple") (.seq #[])
def hO405 (_ : Params) := ob .none (.fields #[])
def hO406 (_ : Params) := ob (.type "tuple") (.seq #[sv "self" 603, sv "comp_select_list" 604])
def hO407 (_ : Params) := ob (.type "tuple") (.seq #[])
noncomputable def hO408 (_ : Params) : Obj := codeFn (oS "TupleComp.__init__") (stIn 7 1)
def hO409 (_ : Params) := ob (.type "code") (.fields #[sv "__init__" 600, sv "TupleComp.__init__" 601, sv "/claim/cut.py" 602, .int 471 0, .int 2 0, .int 0 0, .int 0 0, .int 3 0, .ref 254, .bool true, .int 181 0, .ref 255, .none, .ref 256, .ref 257, .ref 258, .int 605 0, .int 471 0, sv "/claim/cut.py" 606])
noncomputable def hO410 : Params -> Obj := by
 refine (?g : (n : Str) -> (ps : _) -> (b : List Stmt) -> (dl : _) -> (r : _) -> (tp : _) -> (sc : _) -> (ts : _) -> (bd : _) -> (p : Pos) -> (stIn 7 1) = Stmt.FunctionDef n ps b dl r tp sc ts bd p -> Params -> Obj) ?a0 ?a1 ?a2 ?a3 ?a4 ?a5 ?a6 ?a7 ?a8 ?a9 ?h
 case g => exact fun n ps b _ _ _ sc _ _ _ _ _ => { cls := .type "function", data := .func { name := n, qualname := oS "TupleComp.__init__", params := ps, body := .stmts b, scope := sc, globals := 3, closure := [], defaults := Value.none, kwdefaults := Value.none, pyModule := Value.str (oS "cpy313.pstats") 583, code := Value.ref 259 } }
 case h => exact rfl
def hO411 (_ : Params) := ob (.type "tuple") (.seq #[])
def hO412 (_ : Params) := ob .none (.fields #[])
def hO413 (_ : Params) := ob (.type "tuple") (.seq #[sv "self" 611, sv "left" 612, sv "right" 613, sv "index" 614, sv "direction" 615, sv "l" 616, sv "r" 617])
def hO414 (_ : Params) := ob (.type "tuple") (.seq #[])
noncomputable def hO415 (_ : Params) : Obj := codeFn (oS "TupleComp.compare") (stIn 7 2)
def hO416 (_ : Params) := ob (.type "code") (.fields #[sv "compare" 608, sv "TupleComp.compare" 609, sv "/claim/cut.py" 610, .int 474 0, .int 3 0, .int 0 0, .int 0 0, .int 3 0, .ref 261, .bool true, .int 181 0, .ref 262, .none, .ref 263, .ref 264, .ref 265, .int 618 0, .int 474 0, sv "/claim/cut.py" 619])
noncomputable def hO417 : Params -> Obj := by
 refine (?g : (n : Str) -> (ps : _) -> (b : List Stmt) -> (dl : _) -> (r : _) -> (tp : _) -> (sc : _) -> (ts : _) -> (bd : _) -> (p : Pos) -> (stIn 7 2) = Stmt.FunctionDef n ps b dl r tp sc ts bd p -> Params -> Obj) ?a0 ?a1 ?a2 ?a3 ?a4 ?a5 ?a6 ?a7 ?a8 ?a9 ?h
 case g => exact fun n ps b _ _ _ sc _ _ _ _ _ => { cls := .type "function", data := .func { name := n, qualname := oS "TupleComp.compare", params := ps, body := .stmts b, scope := sc, globals := 3, closure := [], defaults := Value.none, kwdefaults := Value.none, pyModule := Value.str (oS "cpy313.pstats") 583, code := Value.ref 266 } }
 case h => exact rfl
def hO418 (_ : Params) := ob (.type "tuple") (.seq #[sv "comp_select_list" 621])
def hO419 (P : Params) := ob (.type "dict") (.dict #[en P "__module__" 592 (sv "cpy313.pstats" 583), en P "__firstlineno__" 596 (.int 463 595), en P "__doc__" 598 (.str (doc7) 597), en P "__init__" 607 (.ref 260), en P "compare" 620 (.ref 267), en P "__static_attributes__" 622 (.ref 268), en P "__dict__" 624 (.ref 271), en P "__weakref__" 626 (.ref 272)] 3)
def hO420 (_ : Params) : Obj := { cls := .type "type", data := Data.cls { name := oS "TupleComp", bases := [.type "object"], mro := [.ref 270, .type "object"], ns := 269, qualname := oS "TupleComp" }, slots := #[none, none, some (sv "TupleComp" 585), some (sv "TupleComp" 593), some (.builtin "object.__new__"), some (.bool true)] }
def hO421 (_ : Params) := ob (.type "getset_descriptor") (.fields #[sv "__dict__" 623, .ref 270, .builtin "function.__dict__", .builtin "function.__dict__#set"])
def hO422 (_ : Params) := ob (.type "getset_descriptor") (.fields #[sv "__weakref__" 625, .ref 270, .builtin "ExceptionGroup.__weakref__", .none])
def hO423 (_ : Params) := ob (.type "super") (.fields #[.ref 270, .ref 270, .ref 270])
def hO424 (_ : Params) := ob (.type "builtin_function_or_method") (.fields #[.builtin "object.__init_subclass__", .ref 270])
def hO425 (_ : Params) := ob (.type "tuple") (.seq #[])
def hO426 (_ : Params) := ob .none (.fields #[])
def hO427 (_ : Params) := ob (.type "tuple") (.seq #[sv "unhashable_params" 634, sv "new_unhashable" 635, sv "t" 636])
def hO428 (_ : Params) := ob (.type "tuple") (.seq #[])
noncomputable def hO429 (_ : Params) : Obj := codeFn (oS "_deduplicate_unhashable") (stAt 9)
def hO430 (_ : Params) := ob (.type "code") (.fields #[sv "_deduplicate_unhashable" 631, sv "_deduplicate_unhashable" 632, sv "/claim/cut.py" 633, .int 484 0, .int 1 0, .int 0 0, .int 0 0, .int 3 0, .ref 275, .bool true, .int 181 0, .ref 276, .none, .ref 277, .ref 278, .ref 279, .int 637 0, .int 484 0, sv "/claim/cut.py" 638])
noncomputable def hO431 : Params -> Obj := by
 refine (?g : (n : Str) -> (ps : _) -> (b : List Stmt) -> (dl : _) -> (r : _) -> (tp : _) -> (sc : _) -> (ts : _) -> (bd : _) -> (p : Pos) -> (stAt 9) = Stmt.FunctionDef n ps b dl r tp sc ts bd p -> Params -> Obj) ?a0 ?a1 ?a2 ?a3 ?a4 ?a5 ?a6 ?a7 ?a8 ?a9 ?h
 case g => exact fun n ps b _ _ _ sc _ _ _ _ _ => { cls := .type "function", data := .func { name := n, qualname := oS "_deduplicate_unhashable", params := ps, body := .stmts b, scope := sc, globals := 3, closure := [], defaults := Value.none, kwdefaults := Value.none, pyModule := Value.str (oS "cpy313.typing") 629, code := Value.ref 280 } }
 case h => exact rfl
def hO432 (_ : Params) := ob (.type "tuple") (.seq #[])
def hO433 (_ : Params) := ob .none (.fields #[])
noncomputable def hO434 (_ : Params) : Obj := codeFn (oS "_law_words") (stAt 11)
def hO435 (_ : Params) := ob (.type "code") (.fields #[sv "_law_words" 642, sv "_law_words" 643, sv "/claim/cut.py" 644, .int 491 0, .int 1 0, .int 0 0, .int 0 0, .int 3 0, .ref 282, .bool true, .int 181 0, .ref 283, .none, .none, .none, .ref 284, .int 645 0, .int 491 0, sv "/claim/cut.py" 646])
noncomputable def hO436 : Params -> Obj := by
 refine (?g : (n : Str) -> (ps : _) -> (b : List Stmt) -> (dl : _) -> (r : _) -> (tp : _) -> (sc : _) -> (ts : _) -> (bd : _) -> (p : Pos) -> (stAt 11) = Stmt.FunctionDef n ps b dl r tp sc ts bd p -> Params -> Obj) ?a0 ?a1 ?a2 ?a3 ?a4 ?a5 ?a6 ?a7 ?a8 ?a9 ?h
 case g => exact fun n ps b _ _ _ sc _ _ _ _ _ => { cls := .type "function", data := .func { name := n, qualname := oS "_law_words", params := ps, body := .stmts b, scope := sc, globals := 3, closure := [], defaults := Value.none, kwdefaults := Value.none, pyModule := Value.str (oS "law_wn0129_03") 640, code := Value.ref 285 } }
 case h => exact rfl
def hO437 (_ : Params) := ob (.type "tuple") (.seq #[])
def hO438 (_ : Params) := ob .none (.fields #[])
noncomputable def hO439 (_ : Params) : Obj := codeFn (oS "_law_ties") (stAt 12)
def hO440 (_ : Params) := ob (.type "code") (.fields #[sv "_law_ties" 648, sv "_law_ties" 649, sv "/claim/cut.py" 650, .int 493 0, .int 1 0, .int 0 0, .int 0 0, .int 3 0, .ref 287, .bool true, .int 181 0, .ref 288, .none, .none, .none, .ref 289, .int 651 0, .int 493 0, sv "/claim/cut.py" 652])
noncomputable def hO441 : Params -> Obj := by
 refine (?g : (n : Str) -> (ps : _) -> (b : List Stmt) -> (dl : _) -> (r : _) -> (tp : _) -> (sc : _) -> (ts : _) -> (bd : _) -> (p : Pos) -> (stAt 12) = Stmt.FunctionDef n ps b dl r tp sc ts bd p -> Params -> Obj) ?a0 ?a1 ?a2 ?a3 ?a4 ?a5 ?a6 ?a7 ?a8 ?a9 ?h
 case g => exact fun n ps b _ _ _ sc _ _ _ _ _ => { cls := .type "function", data := .func { name := n, qualname := oS "_law_ties", params := ps, body := .stmts b, scope := sc, globals := 3, closure := [], defaults := Value.none, kwdefaults := Value.none, pyModule := Value.str (oS "law_wn0129_03") 640, code := Value.ref 290 } }
 case h => exact rfl
def hO442 (_ : Params) := ob (.type "tuple") (.seq #[])
def hO443 (_ : Params) := ob .none (.fields #[])
noncomputable def hO444 (_ : Params) : Obj := codeFn (oS "_law_keys") (stAt 13)
def hO445 (_ : Params) := ob (.type "code") (.fields #[sv "_law_keys" 654, sv "_law_keys" 655, sv "/claim/cut.py" 656, .int 498 0, .int 1 0, .int 0 0, .int 0 0, .int 3 0, .ref 292, .bool true, .int 181 0, .ref 293, .none, .none, .none, .ref 294, .int 657 0, .int 498 0, sv "/claim/cut.py" 658])
noncomputable def hO446 : Params -> Obj := by
 refine (?g : (n : Str) -> (ps : _) -> (b : List Stmt) -> (dl : _) -> (r : _) -> (tp : _) -> (sc : _) -> (ts : _) -> (bd : _) -> (p : Pos) -> (stAt 13) = Stmt.FunctionDef n ps b dl r tp sc ts bd p -> Params -> Obj) ?a0 ?a1 ?a2 ?a3 ?a4 ?a5 ?a6 ?a7 ?a8 ?a9 ?h
 case g => exact fun n ps b _ _ _ sc _ _ _ _ _ => { cls := .type "function", data := .func { name := n, qualname := oS "_law_keys", params := ps, body := .stmts b, scope := sc, globals := 3, closure := [], defaults := Value.none, kwdefaults := Value.none, pyModule := Value.str (oS "law_wn0129_03") 640, code := Value.ref 295 } }
 case h => exact rfl
def hO448 (P : Params) := ob (.type "dict") (.dict #[en P "__name__" 165 (sv "law_wn0129_03" 640), en P "__doc__" 166 .none, en P "__package__" 167 .none, en P "__loader__" 168 (.builtin "__main__.__loader__#opaque"), en P "__spec__" 169 .none, en P "__annotations__" 170 (.ref 6), en P "__builtins__" 171 (.ref 4), en P "__file__" 173 (sv "/claim/cut.py" 172), en P "__cached__" 174 .none, en P "_wall" 193 (.ref 21), en P "_tuplegetter" 252 (.ref 60), en P "Match" 380 (.ref 135), en P "_calculate_ratio" 388 (.ref 145), en P "SequenceMatcher" 582 (.ref 242), en P "TupleComp" 628 (.ref 270), en P "_deduplicate_unhashable" 639 (.ref 281), en P "_law_words" 647 (.ref 286), en P "_law_ties" 653 (.ref 291), en P "_law_keys" 659 (.ref 296), en P "_law_down" 665 (.ref 301), en P "_law_learn" 676 (.ref 308), en P "_law_beyond" 692 (.ref 315), en P "_law_with" 698 (.ref 320), en P "_law_rules" 704 (.ref 325), en P "_law_kinds" 710 (.ref 330), en P "_law_least" 716 (.ref 335), en P "law" 722 (.ref 340)] 27)
def hO449 (_ : Params) := ob .none (.fields #[.int 1 0, .int 0 0, .ref 20, .int 5 0, .int 0 0, .ref 27, .int 23 0, .int 0 0, .ref 71, .int 66 0, .int 0 0, .ref 144, .int 70 0, .int 0 0, .ref 151, .int 463 0, .int 0 0, .ref 252, .int 484 0, .int 0 0, .ref 280, .int 491 0, .int 0 0, .ref 285, .int 493 0, .int 0 0, .ref 290, .int 498 0, .int 0 0, .ref 295, .int 505 0, .int 0 0, .ref 300, .int 515 0, .int 0 0, .ref 307, .int 523 0, .int 0 0, .ref 314, .int 533 0, .int 0 0, .ref 319, .int 535 0, .int 0 0, .ref 324, .int 545 0, .int 0 0, .ref 329, .int 553 0, .int 0 0, .ref 334, .int 560 0, .int 0 0, .ref 339])
def hO450 (_ : Params) := ob (.type "tuple") (.seq #[])
def hO451 (_ : Params) := ob .none (.fields #[])
noncomputable def hO452 (_ : Params) : Obj := codeFn (oS "_law_down") (stAt 14)
def hO453 (_ : Params) := ob (.type "code") (.fields #[sv "_law_down" 660, sv "_law_down" 661, sv "/claim/cut.py" 662, .int 505 0, .int 2 0, .int 0 0, .int 0 0, .int 3 0, .ref 297, .bool true, .int 181 0, .ref 298, .none, .none, .none, .ref 299, .int 663 0, .int 505 0, sv "/claim/cut.py" 664])
noncomputable def hO454 : Params -> Obj := by
 refine (?g : (n : Str) -> (ps : _) -> (b : List Stmt) -> (dl : _) -> (r : _) -> (tp : _) -> (sc : _) -> (ts : _) -> (bd : _) -> (p : Pos) -> (stAt 14) = Stmt.FunctionDef n ps b dl r tp sc ts bd p -> Params -> Obj) ?a0 ?a1 ?a2 ?a3 ?a4 ?a5 ?a6 ?a7 ?a8 ?a9 ?h
 case g => exact fun n ps b _ _ _ sc _ _ _ _ _ => { cls := .type "function", data := .func { name := n, qualname := oS "_law_down", params := ps, body := .stmts b, scope := sc, globals := 3, closure := [], defaults := Value.none, kwdefaults := Value.none, pyModule := Value.str (oS "law_wn0129_03") 640, code := Value.ref 300 } }
 case h => exact rfl
def hO455 (_ : Params) := ob (.type "tuple") (.seq #[])
def hO456 (_ : Params) := ob .none (.fields #[])
def hO457 (_ : Params) := ob (.type "tuple") (.seq #[sv "rules" 669, sv "one" 670, sv "two" 671, sv "order" 672, sv "told" 673])
def hO458 (_ : Params) := ob (.type "tuple") (.seq #[])
noncomputable def hO459 (_ : Params) : Obj := codeFn (oS "_law_learn") (stAt 15)
def hO460 (_ : Params) := ob (.type "code") (.fields #[sv "_law_learn" 666, sv "_law_learn" 667, sv "/claim/cut.py" 668, .int 515 0, .int 4 0, .int 0 0, .int 0 0, .int 3 0, .ref 302, .bool true, .int 181 0, .ref 303, .none, .ref 304, .ref 305, .ref 306, .int 674 0, .int 515 0, sv "/claim/cut.py" 675])
noncomputable def hO461 : Params -> Obj := by
 refine (?g : (n : Str) -> (ps : _) -> (b : List Stmt) -> (dl : _) -> (r : _) -> (tp : _) -> (sc : _) -> (ts : _) -> (bd : _) -> (p : Pos) -> (stAt 15) = Stmt.FunctionDef n ps b dl r tp sc ts bd p -> Params -> Obj) ?a0 ?a1 ?a2 ?a3 ?a4 ?a5 ?a6 ?a7 ?a8 ?a9 ?h
 case g => exact fun n ps b _ _ _ sc _ _ _ _ _ => { cls := .type "function", data := .func { name := n, qualname := oS "_law_learn", params := ps, body := .stmts b, scope := sc, globals := 3, closure := [], defaults := Value.none, kwdefaults := Value.none, pyModule := Value.str (oS "law_wn0129_03") 640, code := Value.ref 307 } }
 case h => exact rfl
def hO462 (_ : Params) := ob (.type "tuple") (.seq #[])
def hO463 (_ : Params) := ob .none (.fields #[])
def hO464 (_ : Params) := ob (.type "tuple") (.seq #[sv "one" 680, sv "two" 681, sv "row" 682, sv "other" 683, sv "rests" 684, sv "tag" 685, sv "i" 686, sv "j" 687, sv "k" 688, sv "m" 689])
def hO465 (_ : Params) := ob (.type "tuple") (.seq #[])
noncomputable def hO466 (_ : Params) : Obj := codeFn (oS "_law_beyond") (stAt 16)
def hO467 (_ : Params) := ob (.type "code") (.fields #[sv "_law_beyond" 677, sv "_law_beyond" 678, sv "/claim/cut.py" 679, .int 523 0, .int 2 0, .int 0 0, .int 0 0, .int 3 0, .ref 309, .bool true, .int 181 0, .ref 310, .none, .ref 311, .ref 312, .ref 313, .int 690 0, .int 523 0, sv "/claim/cut.py" 691])
noncomputable def hO468 : Params -> Obj := by
 refine (?g : (n : Str) -> (ps : _) -> (b : List Stmt) -> (dl : _) -> (r : _) -> (tp : _) -> (sc : _) -> (ts : _) -> (bd : _) -> (p : Pos) -> (stAt 16) = Stmt.FunctionDef n ps b dl r tp sc ts bd p -> Params -> Obj) ?a0 ?a1 ?a2 ?a3 ?a4 ?a5 ?a6 ?a7 ?a8 ?a9 ?h
 case g => exact fun n ps b _ _ _ sc _ _ _ _ _ => { cls := .type "function", data := .func { name := n, qualname := oS "_law_beyond", params := ps, body := .stmts b, scope := sc, globals := 3, closure := [], defaults := Value.none, kwdefaults := Value.none, pyModule := Value.str (oS "law_wn0129_03") 640, code := Value.ref 314 } }
 case h => exact rfl
def hO469 (_ : Params) := ob (.type "tuple") (.seq #[])
def hO470 (_ : Params) := ob .none (.fields #[])
noncomputable def hO471 (_ : Params) : Obj := codeFn (oS "_law_with") (stAt 17)
def hO472 (_ : Params) := ob (.type "code") (.fields #[sv "_law_with" 693, sv "_law_with" 694, sv "/claim/cut.py" 695, .int 533 0, .int 2 0, .int 0 0, .int 0 0, .int 3 0, .ref 316, .bool true, .int 181 0, .ref 317, .none, .none, .none, .ref 318, .int 696 0, .int 533 0, sv "/claim/cut.py" 697])
noncomputable def hO473 : Params -> Obj := by
 refine (?g : (n : Str) -> (ps : _) -> (b : List Stmt) -> (dl : _) -> (r : _) -> (tp : _) -> (sc : _) -> (ts : _) -> (bd : _) -> (p : Pos) -> (stAt 17) = Stmt.FunctionDef n ps b dl r tp sc ts bd p -> Params -> Obj) ?a0 ?a1 ?a2 ?a3 ?a4 ?a5 ?a6 ?a7 ?a8 ?a9 ?h
 case g => exact fun n ps b _ _ _ sc _ _ _ _ _ => { cls := .type "function", data := .func { name := n, qualname := oS "_law_with", params := ps, body := .stmts b, scope := sc, globals := 3, closure := [], defaults := Value.none, kwdefaults := Value.none, pyModule := Value.str (oS "law_wn0129_03") 640, code := Value.ref 319 } }
 case h => exact rfl
def hO474 (_ : Params) := ob (.type "tuple") (.seq #[])
def hO475 (_ : Params) := ob .none (.fields #[])
noncomputable def hO476 (_ : Params) : Obj := codeFn (oS "_law_rules") (stAt 18)
def hO477 (_ : Params) := ob (.type "code") (.fields #[sv "_law_rules" 699, sv "_law_rules" 700, sv "/claim/cut.py" 701, .int 535 0, .int 2 0, .int 0 0, .int 0 0, .int 3 0, .ref 321, .bool true, .int 181 0, .ref 322, .none, .none, .none, .ref 323, .int 702 0, .int 535 0, sv "/claim/cut.py" 703])
noncomputable def hO478 : Params -> Obj := by
 refine (?g : (n : Str) -> (ps : _) -> (b : List Stmt) -> (dl : _) -> (r : _) -> (tp : _) -> (sc : _) -> (ts : _) -> (bd : _) -> (p : Pos) -> (stAt 18) = Stmt.FunctionDef n ps b dl r tp sc ts bd p -> Params -> Obj) ?a0 ?a1 ?a2 ?a3 ?a4 ?a5 ?a6 ?a7 ?a8 ?a9 ?h
 case g => exact fun n ps b _ _ _ sc _ _ _ _ _ => { cls := .type "function", data := .func { name := n, qualname := oS "_law_rules", params := ps, body := .stmts b, scope := sc, globals := 3, closure := [], defaults := Value.none, kwdefaults := Value.none, pyModule := Value.str (oS "law_wn0129_03") 640, code := Value.ref 324 } }
 case h => exact rfl
def hO479 (_ : Params) := ob (.type "tuple") (.seq #[])
def hO480 (_ : Params) := ob .none (.fields #[])
noncomputable def hO481 (_ : Params) : Obj := codeFn (oS "_law_kinds") (stAt 19)
def hO482 (_ : Params) := ob (.type "code") (.fields #[sv "_law_kinds" 705, sv "_law_kinds" 706, sv "/claim/cut.py" 707, .int 545 0, .int 2 0, .int 0 0, .int 0 0, .int 3 0, .ref 326, .bool true, .int 181 0, .ref 327, .none, .none, .none, .ref 328, .int 708 0, .int 545 0, sv "/claim/cut.py" 709])
noncomputable def hO483 : Params -> Obj := by
 refine (?g : (n : Str) -> (ps : _) -> (b : List Stmt) -> (dl : _) -> (r : _) -> (tp : _) -> (sc : _) -> (ts : _) -> (bd : _) -> (p : Pos) -> (stAt 19) = Stmt.FunctionDef n ps b dl r tp sc ts bd p -> Params -> Obj) ?a0 ?a1 ?a2 ?a3 ?a4 ?a5 ?a6 ?a7 ?a8 ?a9 ?h
 case g => exact fun n ps b _ _ _ sc _ _ _ _ _ => { cls := .type "function", data := .func { name := n, qualname := oS "_law_kinds", params := ps, body := .stmts b, scope := sc, globals := 3, closure := [], defaults := Value.none, kwdefaults := Value.none, pyModule := Value.str (oS "law_wn0129_03") 640, code := Value.ref 329 } }
 case h => exact rfl
def hO484 (_ : Params) := ob (.type "tuple") (.seq #[])
def hO485 (_ : Params) := ob .none (.fields #[])
noncomputable def hO486 (_ : Params) : Obj := codeFn (oS "_law_least") (stAt 20)
def hO487 (_ : Params) := ob (.type "code") (.fields #[sv "_law_least" 711, sv "_law_least" 712, sv "/claim/cut.py" 713, .int 553 0, .int 3 0, .int 0 0, .int 0 0, .int 3 0, .ref 331, .bool true, .int 181 0, .ref 332, .none, .none, .none, .ref 333, .int 714 0, .int 553 0, sv "/claim/cut.py" 715])
noncomputable def hO488 : Params -> Obj := by
 refine (?g : (n : Str) -> (ps : _) -> (b : List Stmt) -> (dl : _) -> (r : _) -> (tp : _) -> (sc : _) -> (ts : _) -> (bd : _) -> (p : Pos) -> (stAt 20) = Stmt.FunctionDef n ps b dl r tp sc ts bd p -> Params -> Obj) ?a0 ?a1 ?a2 ?a3 ?a4 ?a5 ?a6 ?a7 ?a8 ?a9 ?h
 case g => exact fun n ps b _ _ _ sc _ _ _ _ _ => { cls := .type "function", data := .func { name := n, qualname := oS "_law_least", params := ps, body := .stmts b, scope := sc, globals := 3, closure := [], defaults := Value.none, kwdefaults := Value.none, pyModule := Value.str (oS "law_wn0129_03") 640, code := Value.ref 334 } }
 case h => exact rfl
def hO489 (_ : Params) := ob (.type "tuple") (.seq #[])
def hO490 (_ : Params) := ob .none (.fields #[])
noncomputable def hO491 (_ : Params) : Obj := codeFn (oS "law") (stAt 21)
def hO492 (_ : Params) := ob (.type "code") (.fields #[sv "law" 717, sv "law" 718, sv "/claim/cut.py" 719, .int 560 0, .int 1 0, .int 0 0, .int 0 0, .int 3 0, .ref 336, .bool true, .int 181 0, .ref 337, .none, .none, .none, .ref 338, .int 720 0, .int 560 0, sv "/claim/cut.py" 721])
noncomputable def hO493 : Params -> Obj := by
 refine (?g : (n : Str) -> (ps : _) -> (b : List Stmt) -> (dl : _) -> (r : _) -> (tp : _) -> (sc : _) -> (ts : _) -> (bd : _) -> (p : Pos) -> (stAt 21) = Stmt.FunctionDef n ps b dl r tp sc ts bd p -> Params -> Obj) ?a0 ?a1 ?a2 ?a3 ?a4 ?a5 ?a6 ?a7 ?a8 ?a9 ?h
 case g => exact fun n ps b _ _ _ sc _ _ _ _ _ => { cls := .type "function", data := .func { name := n, qualname := oS "law", params := ps, body := .stmts b, scope := sc, globals := 3, closure := [], defaults := Value.none, kwdefaults := Value.none, pyModule := Value.str (oS "law_wn0129_03") 640, code := Value.ref 339 } }
 case h => exact rfl
noncomputable def o148 (P : Params) : Obj := { cls := .type "dict", data := .dict ⟨[
 ⟨PyData.keyHash P (oS "__module__"), .str (oS "__module__") 396, .str (oS "cpy313.difflib") 194⟩,
 ⟨PyData.keyHash P (oS "__qualname__"), .str (oS "__qualname__") 398, .str (oS "SequenceMatcher") 397⟩,
 ⟨PyData.keyHash P (oS "__firstlineno__"), .str (oS "__firstlineno__") 400, .int 70 399⟩,
 ⟨PyData.keyHash P (oS "__doc__"), .str (oS "__doc__") 402, .str docT 401⟩,
 ⟨PyData.keyHash P (oS "__init__"), .str (oS "__init__") 417, .ref 160⟩,
 ⟨PyData.keyHash P (oS "set_seqs"), .str (oS "set_seqs") 427, .ref 167⟩,
 ⟨PyData.keyHash P (oS "set_seq1"), .str (oS "set_seq1") 436, .ref 174⟩,
 ⟨PyData.keyHash P (oS "set_seq2"), .str (oS "set_seq2") 445, .ref 181⟩,
 ⟨PyData.keyHash P (oS "_SequenceMatcher__chain_b"), .str (oS "_SequenceMatcher__chain_b") 463, .ref 188⟩,
 ⟨PyData.keyHash P (oS "find_longest_match"), .str (oS "find_longest_match") 491, .ref 196⟩,
 ⟨PyData.keyHash P (oS "get_matching_blocks"), .str (oS "get_matching_blocks") 518, .ref 203⟩,
 ⟨PyData.keyHash P (oS "get_opcodes"), .str (oS "get_opcodes") 533, .ref 210⟩,
 ⟨PyData.keyHash P (oS "get_grouped_opcodes"), .str (oS "get_grouped_opcodes") 542, .ref 218⟩,
 ⟨PyData.keyHash P (oS "ratio"), .str (oS "ratio") 551, .ref 225⟩,
 ⟨PyData.keyHash P (oS "quick_ratio"), .str (oS "quick_ratio") 558, .ref 232⟩,
 ⟨PyData.keyHash P (oS "real_quick_ratio"), .str (oS "real_quick_ratio") 565, .ref 239⟩,
 ⟨PyData.keyHash P (oS "__static_attributes__"), .str (oS "__static_attributes__") 576, .ref 240⟩]⟩ 17 }
noncomputable def o241 (P : Params) : Obj := { cls := .type "dict", data := .dict ⟨[
 ⟨PyData.keyHash P (oS "__module__"), .str (oS "__module__") 396, .str (oS "cpy313.difflib") 194⟩,
 ⟨PyData.keyHash P (oS "__firstlineno__"), .str (oS "__firstlineno__") 400, .int 70 399⟩,
 ⟨PyData.keyHash P (oS "__doc__"), .str (oS "__doc__") 402, .str docT 401⟩,
 ⟨PyData.keyHash P (oS "__init__"), .str (oS "__init__") 417, .ref 160⟩,
 ⟨PyData.keyHash P (oS "set_seqs"), .str (oS "set_seqs") 427, .ref 167⟩,
 ⟨PyData.keyHash P (oS "set_seq1"), .str (oS "set_seq1") 436, .ref 174⟩,
 ⟨PyData.keyHash P (oS "set_seq2"), .str (oS "set_seq2") 445, .ref 181⟩,
 ⟨PyData.keyHash P (oS "_SequenceMatcher__chain_b"), .str (oS "_SequenceMatcher__chain_b") 463, .ref 188⟩,
 ⟨PyData.keyHash P (oS "find_longest_match"), .str (oS "find_longest_match") 491, .ref 196⟩,
 ⟨PyData.keyHash P (oS "get_matching_blocks"), .str (oS "get_matching_blocks") 518, .ref 203⟩,
 ⟨PyData.keyHash P (oS "get_opcodes"), .str (oS "get_opcodes") 533, .ref 210⟩,
 ⟨PyData.keyHash P (oS "get_grouped_opcodes"), .str (oS "get_grouped_opcodes") 542, .ref 218⟩,
 ⟨PyData.keyHash P (oS "ratio"), .str (oS "ratio") 551, .ref 225⟩,
 ⟨PyData.keyHash P (oS "quick_ratio"), .str (oS "quick_ratio") 558, .ref 232⟩,
 ⟨PyData.keyHash P (oS "real_quick_ratio"), .str (oS "real_quick_ratio") 565, .ref 239⟩,
 ⟨PyData.keyHash P (oS "__static_attributes__"), .str (oS "__static_attributes__") 576, .ref 240⟩,
 ⟨PyData.keyHash P (oS "__dict__"), .str (oS "__dict__") 578, .ref 243⟩,
 ⟨PyData.keyHash P (oS "__weakref__"), .str (oS "__weakref__") 580, .ref 244⟩]⟩ 3 }
noncomputable def H1 (P : Params) : Heap := ⟨⟨
 PySem.W.boot_o_0 P :: PySem.W.boot_o_1 P :: PySem.W.boot_o_2 P :: hO448 P :: PySem.W.boot_o_4 P :: PySem.W.boot_o_5 P :: PySem.W.boot_o_6 P :: PySem.W.boot_o_7 P ::
 PySem.W.boot_o_8 P :: PySem.W.boot_o_9 P :: PySem.W.boot_o_10 P :: hO1 P :: hO449 P :: hO3 P :: hO4 P :: hO7 P ::
 hO8 P :: hO9 P :: hO10 P :: hO11 P :: hO12 P :: hO13 P :: hO14 P :: hO15 P ::
 hO16 P :: hO17 P :: hO18 P :: hO19 P :: hO20 P :: hO21 P :: hO22 P :: hO23 P ::
 hO24 P :: hO25 P :: hO26 P :: hO27 P :: hO28 P :: hO29 P :: hO30 P :: hO31 P ::
 hO32 P :: hO33 P :: hO34 P :: hO35 P :: hO36 P :: hO37 P :: hO38 P :: hO39 P ::
 hO40 P :: hO41 P :: hO42 P :: hO43 P :: hO44 P :: hO45 P :: hO46 P :: hO47 P ::
 hO48 P :: hO49 P :: hO50 P :: hO51 P :: hO52 P :: hO53 P :: hO54 P :: hO55 P ::
 hO56 P :: hO60 P :: hO61 P :: hO62 P :: hO63 P :: hO64 P :: hO65 P :: hO66 P ::
 hO67 P :: hO68 P :: hO69 P :: hO70 P :: hO71 P :: hO72 P :: hO73 P :: hO74 P ::
 hO75 P :: hO76 P :: hO77 P :: hO78 P :: hO79 P :: hO80 P :: hO81 P :: hO82 P ::
 hO83 P :: hO84 P :: hO85 P :: hO86 P :: hO87 P :: hO88 P :: hO89 P :: hO90 P ::
 hO91 P :: hO92 P :: hO93 P :: hO94 P :: hO95 P :: hO96 P :: hO97 P :: hO98 P ::
 hO99 P :: hO100 P :: hO101 P :: hO102 P :: hO103 P :: hO104 P :: hO105 P :: hO106 P ::
 hO107 P :: hO108 P :: hO109 P :: hO110 P :: hO111 P :: hO112 P :: hO113 P :: hO114 P ::
 hO115 P :: hO116 P :: hO117 P :: hO118 P :: hO119 P :: hO120 P :: hO121 P :: hO122 P ::
 hO123 P :: hO124 P :: hO125 P :: hO126 P :: hO127 P :: hO128 P :: hO129 P :: hO130 P ::
 hO131 P :: hO132 P :: hO133 P :: hO209 P :: hO210 P :: hO211 P :: hO212 P :: hO213 P ::
 hO214 P :: hO215 P :: hO219 P :: hO220 P :: o148 P :: hO222 P :: hO223 P :: hO224 P ::
 hO225 P :: hO226 P :: hO227 P :: hO228 P :: hO229 P :: hO230 P :: hO231 P :: hO232 P ::
 hO233 P :: hO234 P :: hO235 P :: hO236 P :: hO237 P :: hO238 P :: hO239 P :: hO240 P ::
 hO241 P :: hO242 P :: hO243 P :: hO244 P :: hO245 P :: hO246 P :: hO247 P :: hO248 P ::
 hO249 P :: hO250 P :: hO251 P :: hO252 P :: hO253 P :: hO254 P :: hO255 P :: hO256 P ::
 hO257 P :: hO258 P :: hO259 P :: hO260 P :: hO261 P :: hO262 P :: hO263 P :: hO264 P ::
 hO265 P :: hO266 P :: hO267 P :: hO268 P :: hO269 P :: hO270 P :: hO271 P :: hO272 P ::
 hO273 P :: hO274 P :: hO275 P :: hO276 P :: hO277 P :: hO278 P :: hO279 P :: hO280 P ::
 hO281 P :: hO282 P :: hO283 P :: hO284 P :: hO285 P :: hO286 P :: hO287 P :: hO288 P ::
 hO289 P :: hO290 P :: hO291 P :: hO292 P :: hO293 P :: hO294 P :: hO295 P :: hO296 P ::
 hO297 P :: hO298 P :: hO299 P :: hO300 P :: hO301 P :: hO302 P :: hO303 P :: hO304 P ::
 hO305 P :: hO306 P :: hO307 P :: hO308 P :: hO309 P :: hO310 P :: hO311 P :: hO312 P ::
 hO313 P :: o241 P :: hO315 P :: hO316 P :: hO317 P :: hO318 P :: hO319 P :: hO397 P ::
 hO398 P :: hO399 P :: hO400 P :: hO401 P :: hO402 P :: hO403 P :: hO404 P :: hO405 P ::
 hO406 P :: hO407 P :: hO408 P :: hO409 P :: hO410 P :: hO411 P :: hO412 P :: hO413 P ::
 hO414 P :: hO415 P :: hO416 P :: hO417 P :: hO418 P :: hO419 P :: hO420 P :: hO421 P ::
 hO422 P :: hO423 P :: hO424 P :: hO425 P :: hO426 P :: hO427 P :: hO428 P :: hO429 P ::
 hO430 P :: hO431 P :: hO432 P :: hO433 P :: hO434 P :: hO435 P :: hO436 P :: hO437 P ::
 hO438 P :: hO439 P :: hO440 P :: hO441 P :: hO442 P :: hO443 P :: hO444 P :: hO445 P ::
 hO446 P :: hO450 P :: hO451 P :: hO452 P :: hO453 P :: hO454 P :: hO455 P :: hO456 P ::
 hO457 P :: hO458 P :: hO459 P :: hO460 P :: hO461 P :: hO462 P :: hO463 P :: hO464 P ::
 hO465 P :: hO466 P :: hO467 P :: hO468 P :: hO469 P :: hO470 P :: hO471 P :: hO472 P ::
 hO473 P :: hO474 P :: hO475 P :: hO476 P :: hO477 P :: hO478 P :: hO479 P :: hO480 P ::
 hO481 P :: hO482 P :: hO483 P :: hO484 P :: hO485 P :: hO486 P :: hO487 P :: hO488 P ::
 hO489 P :: hO490 P :: hO491 P :: hO492 P :: hO493 P :: []⟩, {}⟩
noncomputable def KR (P : Params) : Frag :=
 (nat_lit 0, PySem.W.boot_o_0 P) :: (nat_lit 1, PySem.W.boot_o_1 P) :: (nat_lit 2, PySem.W.boot_o_2 P) :: (nat_lit 3, hO448 P) :: (nat_lit 4, PySem.W.boot_o_4 P) :: (nat_lit 5, PySem.W.boot_o_5 P) ::
 (nat_lit 6, PySem.W.boot_o_6 P) :: (nat_lit 7, PySem.W.boot_o_7 P) :: (nat_lit 9, PySem.W.boot_o_9 P) :: (nat_lit 10, PySem.W.boot_o_10 P) :: (nat_lit 11, hO1 P) ::
 (nat_lit 13, hO3 P) :: (nat_lit 14, hO4 P) :: (nat_lit 15, hO7 P) :: (nat_lit 17, hO9 P) :: (nat_lit 18, hO10 P) ::
 (nat_lit 20, hO12 P) :: (nat_lit 21, hO13 P) :: (nat_lit 29, hO21 P) :: (nat_lit 31, hO23 P) :: (nat_lit 32, hO24 P) :: (nat_lit 34, hO26 P) ::
 (nat_lit 35, hO27 P) :: (nat_lit 36, hO28 P) :: (nat_lit 37, hO29 P) :: (nat_lit 39, hO31 P) :: (nat_lit 40, hO32 P) :: (nat_lit 42, hO34 P) ::
 (nat_lit 43, hO35 P) :: (nat_lit 44, hO36 P) :: (nat_lit 46, hO38 P) :: (nat_lit 47, hO39 P) :: (nat_lit 49, hO41 P) :: (nat_lit 50, hO42 P) ::
 (nat_lit 51, hO43 P) :: (nat_lit 53, hO45 P) :: (nat_lit 54, hO46 P) :: (nat_lit 56, hO48 P) :: (nat_lit 57, hO49 P) :: (nat_lit 58, hO50 P) ::
 (nat_lit 59, hO51 P) :: (nat_lit 60, hO52 P) :: (nat_lit 61, hO53 P) :: (nat_lit 62, hO54 P) :: (nat_lit 65, hO60 P) :: (nat_lit 68, hO63 P) ::
 (nat_lit 73, hO68 P) :: (nat_lit 74, hO69 P) :: (nat_lit 75, hO70 P) :: (nat_lit 76, hO71 P) :: (nat_lit 78, hO73 P) :: (nat_lit 79, hO74 P) ::
 (nat_lit 81, hO76 P) :: (nat_lit 82, hO77 P) :: (nat_lit 83, hO78 P) :: (nat_lit 85, hO80 P) :: (nat_lit 86, hO81 P) :: (nat_lit 88, hO83 P) ::
 (nat_lit 89, hO84 P) :: (nat_lit 90, hO85 P) :: (nat_lit 91, hO86 P) :: (nat_lit 92, hO87 P) :: (nat_lit 93, hO88 P) :: (nat_lit 94, hO89 P) ::
 (nat_lit 96, hO91 P) :: (nat_lit 97, hO92 P) :: (nat_lit 99, hO94 P) :: (nat_lit 100, hO95 P) :: (nat_lit 101, hO96 P) :: (nat_lit 103, hO98 P) ::
 (nat_lit 104, hO99 P) :: (nat_lit 106, hO101 P) :: (nat_lit 107, hO102 P) :: (nat_lit 108, hO103 P) :: (nat_lit 110, hO105 P) :: (nat_lit 111, hO106 P) ::
 (nat_lit 113, hO108 P) :: (nat_lit 114, hO109 P) :: (nat_lit 115, hO110 P) :: (nat_lit 117, hO112 P) :: (nat_lit 118, hO113 P) :: (nat_lit 120, hO115 P) ::
 (nat_lit 121, hO116 P) :: (nat_lit 122, hO117 P) :: (nat_lit 123, hO118 P) :: (nat_lit 124, hO119 P) :: (nat_lit 126, hO121 P) :: (nat_lit 127, hO122 P) ::
 (nat_lit 129, hO124 P) :: (nat_lit 130, hO125 P) :: (nat_lit 132, hO127 P) :: (nat_lit 134, hO129 P) :: (nat_lit 135, hO130 P) :: (nat_lit 136, hO131 P) ::
 (nat_lit 139, hO209 P) :: (nat_lit 141, hO211 P) :: (nat_lit 142, hO212 P) :: (nat_lit 144, hO214 P) :: (nat_lit 145, hO215 P) :: (nat_lit 153, hO226 P) ::
 (nat_lit 154, hO227 P) :: (nat_lit 156, hO229 P) :: (nat_lit 157, hO230 P) :: (nat_lit 159, hO232 P) :: (nat_lit 160, hO233 P) :: (nat_lit 161, hO234 P) ::
 (nat_lit 163, hO236 P) :: (nat_lit 164, hO237 P) :: (nat_lit 166, hO239 P) :: (nat_lit 167, hO240 P) :: (nat_lit 168, hO241 P) :: (nat_lit 170, hO243 P) ::
 (nat_lit 171, hO244 P) :: (nat_lit 173, hO246 P) :: (nat_lit 174, hO247 P) :: (nat_lit 175, hO248 P) :: (nat_lit 177, hO250 P) :: (nat_lit 178, hO251 P) ::
 (nat_lit 180, hO253 P) :: (nat_lit 181, hO254 P) :: (nat_lit 182, hO255 P) :: (nat_lit 184, hO257 P) :: (nat_lit 185, hO258 P) :: (nat_lit 187, hO260 P) ::
 (nat_lit 188, hO261 P) :: (nat_lit 189, hO262 P) :: (nat_lit 190, hO263 P) :: (nat_lit 192, hO265 P) :: (nat_lit 193, hO266 P) :: (nat_lit 195, hO268 P) ::
 (nat_lit 196, hO269 P) :: (nat_lit 197, hO270 P) :: (nat_lit 199, hO272 P) :: (nat_lit 200, hO273 P) :: (nat_lit 202, hO275 P) :: (nat_lit 203, hO276 P) ::
 (nat_lit 204, hO277 P) :: (nat_lit 206, hO279 P) :: (nat_lit 207, hO280 P) :: (nat_lit 209, hO282 P) :: (nat_lit 210, hO283 P) :: (nat_lit 211, hO284 P) ::
 (nat_lit 212, hO285 P) :: (nat_lit 214, hO287 P) :: (nat_lit 215, hO288 P) :: (nat_lit 217, hO290 P) :: (nat_lit 218, hO291 P) :: (nat_lit 219, hO292 P) ::
 (nat_lit 221, hO294 P) :: (nat_lit 222, hO295 P) :: (nat_lit 224, hO297 P) :: (nat_lit 225, hO298 P) :: (nat_lit 226, hO299 P) :: (nat_lit 228, hO301 P) ::
 (nat_lit 229, hO302 P) :: (nat_lit 231, hO304 P) :: (nat_lit 232, hO305 P) :: (nat_lit 233, hO306 P) :: (nat_lit 235, hO308 P) :: (nat_lit 236, hO309 P) ::
 (nat_lit 238, hO311 P) :: (nat_lit 239, hO312 P) :: (nat_lit 240, hO313 P) :: (nat_lit 241, o241 P) :: (nat_lit 242, hO315 P) :: (nat_lit 243, hO316 P) ::
 (nat_lit 244, hO317 P) :: (nat_lit 254, hO404 P) :: (nat_lit 256, hO406 P) :: (nat_lit 257, hO407 P) :: (nat_lit 259, hO409 P) :: (nat_lit 260, hO410 P) ::
 (nat_lit 261, hO411 P) :: (nat_lit 263, hO413 P) :: (nat_lit 264, hO414 P) :: (nat_lit 266, hO416 P) :: (nat_lit 267, hO417 P) :: (nat_lit 268, hO418 P) ::
 (nat_lit 269, hO419 P) :: (nat_lit 270, hO420 P) :: (nat_lit 271, hO421 P) :: (nat_lit 272, hO422 P) :: (nat_lit 275, hO425 P) :: (nat_lit 277, hO427 P) ::
 (nat_lit 278, hO428 P) :: (nat_lit 280, hO430 P) :: (nat_lit 281, hO431 P) :: (nat_lit 282, hO432 P) :: (nat_lit 285, hO435 P) :: (nat_lit 286, hO436 P) ::
 (nat_lit 287, hO437 P) :: (nat_lit 290, hO440 P) :: (nat_lit 291, hO441 P) :: (nat_lit 292, hO442 P) :: (nat_lit 295, hO445 P) :: (nat_lit 296, hO446 P) ::
 (nat_lit 297, hO450 P) :: (nat_lit 300, hO453 P) :: (nat_lit 301, hO454 P) :: (nat_lit 302, hO455 P) :: (nat_lit 304, hO457 P) :: (nat_lit 305, hO458 P) ::
 (nat_lit 307, hO460 P) :: (nat_lit 308, hO461 P) :: (nat_lit 309, hO462 P) :: (nat_lit 311, hO464 P) :: (nat_lit 312, hO465 P) :: (nat_lit 314, hO467 P) ::
 (nat_lit 315, hO468 P) :: (nat_lit 316, hO469 P) :: (nat_lit 319, hO472 P) :: (nat_lit 320, hO473 P) :: (nat_lit 321, hO474 P) :: (nat_lit 324, hO477 P) ::
 (nat_lit 325, hO478 P) :: (nat_lit 326, hO479 P) :: (nat_lit 329, hO482 P) :: (nat_lit 330, hO483 P) :: (nat_lit 331, hO484 P) :: (nat_lit 334, hO487 P) ::
 (nat_lit 335, hO488 P) :: (nat_lit 336, hO489 P) :: (nat_lit 339, hO492 P) :: (nat_lit 340, hO493 P) :: []
noncomputable def asR : List Nat :=
 nat_lit 0 :: nat_lit 1 :: nat_lit 2 :: nat_lit 3 :: nat_lit 4 :: nat_lit 5 :: nat_lit 6 :: nat_lit 7 :: nat_lit 9 :: nat_lit 10 :: nat_lit 11 :: nat_lit 13 :: nat_lit 14 :: nat_lit 15 ::
 nat_lit 17 :: nat_lit 18 :: nat_lit 20 :: nat_lit 21 :: nat_lit 29 :: nat_lit 31 :: nat_lit 32 :: nat_lit 34 :: nat_lit 35 :: nat_lit 36 :: nat_lit 37 :: nat_lit 39 :: nat_lit 40 :: nat_lit 42 :: nat_lit 43 :: nat_lit 44 ::
 nat_lit 46 :: nat_lit 47 :: nat_lit 49 :: nat_lit 50 :: nat_lit 51 :: nat_lit 53 :: nat_lit 54 :: nat_lit 56 :: nat_lit 57 :: nat_lit 58 :: nat_lit 59 :: nat_lit 60 :: nat_lit 61 :: nat_lit 62 :: nat_lit 65 :: nat_lit 68 ::
 nat_lit 73 :: nat_lit 74 :: nat_lit 75 :: nat_lit 76 :: nat_lit 78 :: nat_lit 79 :: nat_lit 81 :: nat_lit 82 :: nat_lit 83 :: nat_lit 85 :: nat_lit 86 :: nat_lit 88 :: nat_lit 89 :: nat_lit 90 :: nat_lit 91 :: nat_lit 92 ::
 nat_lit 93 :: nat_lit 94 :: nat_lit 96 :: nat_lit 97 :: nat_lit 99 :: nat_lit 100 :: nat_lit 101 :: nat_lit 103 :: nat_lit 104 :: nat_lit 106 :: nat_lit 107 :: nat_lit 108 :: nat_lit 110 :: nat_lit 111 :: nat_lit 113 :: nat_lit 114 ::
 nat_lit 115 :: nat_lit 117 :: nat_lit 118 :: nat_lit 120 :: nat_lit 121 :: nat_lit 122 :: nat_lit 123 :: nat_lit 124 :: nat_lit 126 :: nat_lit 127 :: nat_lit 129 :: nat_lit 130 :: nat_lit 132 :: nat_lit 134 :: nat_lit 135 :: nat_lit 136 ::
 nat_lit 139 :: nat_lit 141 :: nat_lit 142 :: nat_lit 144 :: nat_lit 145 :: nat_lit 153 :: nat_lit 154 :: nat_lit 156 :: nat_lit 157 :: nat_lit 159 :: nat_lit 160 :: nat_lit 161 :: nat_lit 163 :: nat_lit 164 :: nat_lit 166 :: nat_lit 167 ::
 nat_lit 168 :: nat_lit 170 :: nat_lit 171 :: nat_lit 173 :: nat_lit 174 :: nat_lit 175 :: nat_lit 177 :: nat_lit 178 :: nat_lit 180 :: nat_lit 181 :: nat_lit 182 :: nat_lit 184 :: nat_lit 185 :: nat_lit 187 :: nat_lit 188 :: nat_lit 189 ::
 nat_lit 190 :: nat_lit 192 :: nat_lit 193 :: nat_lit 195 :: nat_lit 196 :: nat_lit 197 :: nat_lit 199 :: nat_lit 200 :: nat_lit 202 :: nat_lit 203 :: nat_lit 204 :: nat_lit 206 :: nat_lit 207 :: nat_lit 209 :: nat_lit 210 :: nat_lit 211 ::
 nat_lit 212 :: nat_lit 214 :: nat_lit 215 :: nat_lit 217 :: nat_lit 218 :: nat_lit 219 :: nat_lit 221 :: nat_lit 222 :: nat_lit 224 :: nat_lit 225 :: nat_lit 226 :: nat_lit 228 :: nat_lit 229 :: nat_lit 231 :: nat_lit 232 :: nat_lit 233 ::
 nat_lit 235 :: nat_lit 236 :: nat_lit 238 :: nat_lit 239 :: nat_lit 240 :: nat_lit 241 :: nat_lit 242 :: nat_lit 243 :: nat_lit 244 :: nat_lit 254 :: nat_lit 256 :: nat_lit 257 :: nat_lit 259 :: nat_lit 260 :: nat_lit 261 :: nat_lit 263 ::
 nat_lit 264 :: nat_lit 266 :: nat_lit 267 :: nat_lit 268 :: nat_lit 269 :: nat_lit 270 :: nat_lit 271 :: nat_lit 272 :: nat_lit 275 :: nat_lit 277 :: nat_lit 278 :: nat_lit 280 :: nat_lit 281 :: nat_lit 282 :: nat_lit 285 :: nat_lit 286 ::
 nat_lit 287 :: nat_lit 290 :: nat_lit 291 :: nat_lit 292 :: nat_lit 295 :: nat_lit 296 :: nat_lit 297 :: nat_lit 300 :: nat_lit 301 :: nat_lit 302 :: nat_lit 304 :: nat_lit 305 :: nat_lit 307 :: nat_lit 308 :: nat_lit 309 :: nat_lit 311 ::
 nat_lit 312 :: nat_lit 314 :: nat_lit 315 :: nat_lit 316 :: nat_lit 319 :: nat_lit 320 :: nat_lit 321 :: nat_lit 324 :: nat_lit 325 :: nat_lit 326 :: nat_lit 329 :: nat_lit 330 :: nat_lit 331 :: nat_lit 334 :: nat_lit 335 :: nat_lit 336 ::
 nat_lit 339 :: nat_lit 340 :: []
end
end Mine
end
noncomputable section
example : True := by w_top off; trivial
open PySem PySem.W PySem.W.X PyProof.Rows
namespace Mine
open PySem.W.BT renaming node -> N, nil -> Z
noncomputable def tree4 (P : Params) : BT := N (PySem.W.boot_o_0 P) (N (PySem.W.boot_o_1 P) (N (PySem.W.boot_o_3 P) (N (PySem.W.boot_o_7 P) Z Z) (N (hO1 P) Z Z)) (N (PySem.W.boot_o_5 P) (N (PySem.W.boot_o_9 P) Z Z) (N (hO3 P) Z Z))) (N (PySem.W.boot_o_2 P) (N (PySem.W.boot_o_4 P) (N (PySem.W.boot_o_8 P) Z Z) (N (hO2 P) Z Z)) (N (PySem.W.boot_o_6 P) (N (PySem.W.boot_o_10 P) Z Z) (N (hO4 P) Z Z)))
noncomputable def tree56 (P : Params) : BT := N (PySem.W.boot_o_0 P) (N (PySem.W.boot_o_1 P) (N (hO5 P) (N (PySem.W.boot_o_7 P) (N (hO7 P) (N (hO23 P) (N (hO55 P) Z Z) Z) (N (hO39 P) Z Z)) (N (hO15 P) (N (hO31 P) Z Z) (N (hO47 P) Z Z))) (N (hO1 P) (N (hO11 P) (N (hO27 P) Z Z) (N (hO43 P) Z Z)) (N (hO19 P) (N (hO35 P) Z Z) (N (hO51 P) Z Z)))) (N (PySem.W.boot_o_5 P) (N (PySem.W.boot_o_9 P) (N (hO9 P) (N (hO25 P) Z Z) (N (hO41 P) Z Z)) (N (hO17 P) (N (hO33 P) Z Z) (N (hO49 P) Z Z))) (N (hO3 P) (N (hO13 P) (N (hO29 P) Z Z) (N (hO45 P) Z Z)) (N (hO21 P) (N (hO37 P) Z Z) (N (hO53 P) Z Z))))) (N (PySem.W.boot_o_2 P) (N (PySem.W.boot_o_4 P) (N (PySem.W.boot_o_8 P) (N (hO8 P) (N (hO24 P) (N (hO56 P) Z Z) Z) (N (hO40 P) Z Z)) (N (hO16 P) (N (hO32 P) Z Z) (N (hO48 P) Z Z))) (N (hO6 P) (N (hO12 P) (N (hO28 P) Z Z) (N (hO44 P) Z Z)) (N (hO20 P) (N (hO36 P) Z Z) (N (hO52 P) Z Z)))) (N (PySem.W.boot_o_6 P) (N (PySem.W.boot_o_10 P) (N (hO10 P) (N (hO26 P) Z Z) (N (hO42 P) Z Z)) (N (hO18 P) (N (hO34 P) Z Z) (N (hO50 P) Z Z))) (N (hO4 P) (N (hO14 P) (N (hO30 P) Z Z) (N (hO46 P) Z Z)) (N (hO22 P) (N (hO38 P) Z Z) (N (hO54 P) Z Z)))))
noncomputable def tree133 (P : Params) : BT := N (PySem.W.boot_o_0 P) (N (PySem.W.boot_o_1 P) (N (hO58 P) (N (PySem.W.boot_o_7 P) (N (hO7 P) (N (hO23 P) (N (hO55 P) (N (hO122 P) Z Z) Z) (N (hO90 P) Z Z)) (N (hO39 P) (N (hO74 P) Z Z) (N (hO106 P) Z Z))) (N (hO15 P) (N (hO31 P) (N (hO66 P) (N (hO130 P) Z Z) Z) (N (hO98 P) Z Z)) (N (hO47 P) (N (hO82 P) Z Z) (N (hO114 P) Z Z)))) (N (hO1 P) (N (hO11 P) (N (hO27 P) (N (hO62 P) (N (hO126 P) Z Z) Z) (N (hO94 P) Z Z)) (N (hO43 P) (N (hO78 P) Z Z) (N (hO110 P) Z Z))) (N (hO19 P) (N (hO35 P) (N (hO70 P) Z Z) (N (hO102 P) Z Z)) (N (hO51 P) (N (hO86 P) Z Z) (N (hO118 P) Z Z))))) (N (PySem.W.boot_o_5 P) (N (PySem.W.boot_o_9 P) (N (hO9 P) (N (hO25 P) (N (hO60 P) (N (hO124 P) Z Z) Z) (N (hO92 P) Z Z)) (N (hO41 P) (N (hO76 P) Z Z) (N (hO108 P) Z Z))) (N (hO17 P) (N (hO33 P) (N (hO68 P) (N (hO132 P) Z Z) Z) (N (hO100 P) Z Z)) (N (hO49 P) (N (hO84 P) Z Z) (N (hO116 P) Z Z)))) (N (hO3 P) (N (hO13 P) (N (hO29 P) (N (hO64 P) (N (hO128 P) Z Z) Z) (N (hO96 P) Z Z)) (N (hO45 P) (N (hO80 P) Z Z) (N (hO112 P) Z Z))) (N (hO21 P) (N (hO37 P) (N (hO72 P) Z Z) (N (hO104 P) Z Z)) (N (hO53 P) (N (hO88 P) Z Z) (N (hO120 P) Z Z)))))) (N (PySem.W.boot_o_2 P) (N (PySem.W.boot_o_4 P) (N (PySem.W.boot_o_8 P) (N (hO8 P) (N (hO24 P) (N (hO56 P) (N (hO123 P) Z Z) Z) (N (hO91 P) Z Z)) (N (hO40 P) (N (hO75 P) Z Z) (N (hO107 P) Z Z))) (N (hO16 P) (N (hO32 P) (N (hO67 P) (N (hO131 P) Z Z) Z) (N (hO99 P) Z Z)) (N (hO48 P) (N (hO83 P) Z Z) (N (hO115 P) Z Z)))) (N (hO59 P) (N (hO12 P) (N (hO28 P) (N (hO63 P) (N (hO127 P) Z Z) Z) (N (hO95 P) Z Z)) (N (hO44 P) (N (hO79 P) Z Z) (N (hO111 P) Z Z))) (N (hO20 P) (N (hO36 P) (N (hO71 P) Z Z) (N (hO103 P) Z Z)) (N (hO52 P) (N (hO87 P) Z Z) (N (hO119 P) Z Z))))) (N (PySem.W.boot_o_6 P) (N (PySem.W.boot_o_10 P) (N (hO10 P) (N (hO26 P) (N (hO61 P) (N (hO125 P) Z Z) Z) (N (hO93 P) Z Z)) (N (hO42 P) (N (hO77 P) Z Z) (N (hO109 P) Z Z))) (N (hO18 P) (N (hO34 P) (N (hO69 P) (N (hO133 P) Z Z) Z) (N (hO101 P) Z Z)) (N (hO50 P) (N (hO85 P) Z Z) (N (hO117 P) Z Z)))) (N (hO4 P) (N (hO14 P) (N (hO30 P) (N (hO65 P) (N (hO129 P) Z Z) Z) (N (hO97 P) Z Z)) (N (hO46 P) (N (hO81 P) Z Z) (N (hO113 P) Z Z))) (N (hO22 P) (N (hO38 P) (N (hO73 P) Z Z) (N (hO105 P) Z Z)) (N (hO54 P) (N (hO89 P) Z Z) (N (hO121 P) Z Z))))))
noncomputable def tree215 (P : Params) : BT := N (PySem.W.boot_o_0 P) (N (PySem.W.boot_o_1 P) (N (hO207 P) (N (PySem.W.boot_o_7 P) (N (hO7 P) (N (hO23 P) (N (hO55 P) (N (hO122 P) Z Z) Z) (N (hO90 P) Z Z)) (N (hO39 P) (N (hO74 P) (N (hO213 P) Z Z) Z) (N (hO106 P) Z Z))) (N (hO15 P) (N (hO31 P) (N (hO66 P) (N (hO130 P) Z Z) Z) (N (hO98 P) Z Z)) (N (hO47 P) (N (hO82 P) Z Z) (N (hO114 P) Z Z)))) (N (hO1 P) (N (hO11 P) (N (hO27 P) (N (hO62 P) (N (hO126 P) Z Z) Z) (N (hO94 P) Z Z)) (N (hO43 P) (N (hO78 P) Z Z) (N (hO110 P) Z Z))) (N (hO19 P) (N (hO35 P) (N (hO70 P) (N (hO209 P) Z Z) Z) (N (hO102 P) Z Z)) (N (hO51 P) (N (hO86 P) Z Z) (N (hO118 P) Z Z))))) (N (PySem.W.boot_o_5 P) (N (PySem.W.boot_o_9 P) (N (hO9 P) (N (hO25 P) (N (hO60 P) (N (hO124 P) Z Z) Z) (N (hO92 P) Z Z)) (N (hO41 P) (N (hO76 P) (N (hO215 P) Z Z) Z) (N (hO108 P) Z Z))) (N (hO17 P) (N (hO33 P) (N (hO68 P) (N (hO132 P) Z Z) Z) (N (hO100 P) Z Z)) (N (hO49 P) (N (hO84 P) Z Z) (N (hO116 P) Z Z)))) (N (hO3 P) (N (hO13 P) (N (hO29 P) (N (hO64 P) (N (hO128 P) Z Z) Z) (N (hO96 P) Z Z)) (N (hO45 P) (N (hO80 P) Z Z) (N (hO112 P) Z Z))) (N (hO21 P) (N (hO37 P) (N (hO72 P) (N (hO211 P) Z Z) Z) (N (hO104 P) Z Z)) (N (hO53 P) (N (hO88 P) Z Z) (N (hO120 P) Z Z)))))) (N (PySem.W.boot_o_2 P) (N (PySem.W.boot_o_4 P) (N (PySem.W.boot_o_8 P) (N (hO8 P) (N (hO24 P) (N (hO56 P) (N (hO123 P) Z Z) Z) (N (hO91 P) Z Z)) (N (hO40 P) (N (hO75 P) (N (hO214 P) Z Z) Z) (N (hO107 P) Z Z))) (N (hO16 P) (N (hO32 P) (N (hO67 P) (N (hO131 P) Z Z) Z) (N (hO99 P) Z Z)) (N (hO48 P) (N (hO83 P) Z Z) (N (hO115 P) Z Z)))) (N (hO208 P) (N (hO12 P) (N (hO28 P) (N (hO63 P) (N (hO127 P) Z Z) Z) (N (hO95 P) Z Z)) (N (hO44 P) (N (hO79 P) Z Z) (N (hO111 P) Z Z))) (N (hO20 P) (N (hO36 P) (N (hO71 P) (N (hO210 P) Z Z) Z) (N (hO103 P) Z Z)) (N (hO52 P) (N (hO87 P) Z Z) (N (hO119 P) Z Z))))) (N (PySem.W.boot_o_6 P) (N (PySem.W.boot_o_10 P) (N (hO10 P) (N (hO26 P) (N (hO61 P) (N (hO125 P) Z Z) Z) (N (hO93 P) Z Z)) (N (hO42 P) (N (hO77 P) Z Z) (N (hO109 P) Z Z))) (N (hO18 P) (N (hO34 P) (N (hO69 P) (N (hO133 P) Z Z) Z) (N (hO101 P) Z Z)) (N (hO50 P) (N (hO85 P) Z Z) (N (hO117 P) Z Z)))) (N (hO4 P) (N (hO14 P) (N (hO30 P) (N (hO65 P) (N (hO129 P) Z Z) Z) (N (hO97 P) Z Z)) (N (hO46 P) (N (hO81 P) Z Z) (N (hO113 P) Z Z))) (N (hO22 P) (N (hO38 P) (N (hO73 P) (N (hO212 P) Z Z) Z) (N (hO105 P) Z Z)) (N (hO54 P) (N (hO89 P) Z Z) (N (hO121 P) Z Z))))))
noncomputable def tree319 (P : Params) : BT := N (PySem.W.boot_o_0 P) (N (PySem.W.boot_o_1 P) (N (hO217 P) (N (PySem.W.boot_o_7 P) (N (hO7 P) (N (hO23 P) (N (hO55 P) (N (hO122 P) Z Z) (N (hO264 P) Z Z)) (N (hO90 P) (N (hO232 P) Z Z) (N (hO296 P) Z Z))) (N (hO39 P) (N (hO74 P) (N (hO213 P) Z Z) (N (hO280 P) Z Z)) (N (hO106 P) (N (hO248 P) Z Z) (N (hO312 P) Z Z)))) (N (hO15 P) (N (hO31 P) (N (hO66 P) (N (hO130 P) Z Z) (N (hO272 P) Z Z)) (N (hO98 P) (N (hO240 P) Z Z) (N (hO304 P) Z Z))) (N (hO47 P) (N (hO82 P) (N (hO224 P) Z Z) (N (hO288 P) Z Z)) (N (hO114 P) (N (hO256 P) Z Z) Z)))) (N (hO1 P) (N (hO11 P) (N (hO27 P) (N (hO62 P) (N (hO126 P) Z Z) (N (hO268 P) Z Z)) (N (hO94 P) (N (hO236 P) Z Z) (N (hO300 P) Z Z))) (N (hO43 P) (N (hO78 P) (N (hO220 P) Z Z) (N (hO284 P) Z Z)) (N (hO110 P) (N (hO252 P) Z Z) (N (hO316 P) Z Z)))) (N (hO19 P) (N (hO35 P) (N (hO70 P) (N (hO209 P) Z Z) (N (hO276 P) Z Z)) (N (hO102 P) (N (hO244 P) Z Z) (N (hO308 P) Z Z))) (N (hO51 P) (N (hO86 P) (N (hO228 P) Z Z) (N (hO292 P) Z Z)) (N (hO118 P) (N (hO260 P) Z Z) Z))))) (N (PySem.W.boot_o_5 P) (N (PySem.W.boot_o_9 P) (N (hO9 P) (N (hO25 P) (N (hO60 P) (N (hO124 P) Z Z) (N (hO266 P) Z Z)) (N (hO92 P) (N (hO234 P) Z Z) (N (hO298 P) Z Z))) (N (hO41 P) (N (hO76 P) (N (hO215 P) Z Z) (N (hO282 P) Z Z)) (N (hO108 P) (N (hO250 P) Z Z) (N (hO314 P) Z Z)))) (N (hO17 P) (N (hO33 P) (N (hO68 P) (N (hO132 P) Z Z) (N (hO274 P) Z Z)) (N (hO100 P) (N (hO242 P) Z Z) (N (hO306 P) Z Z))) (N (hO49 P) (N (hO84 P) (N (hO226 P) Z Z) (N (hO290 P) Z Z)) (N (hO116 P) (N (hO258 P) Z Z) Z)))) (N (hO3 P) (N (hO13 P) (N (hO29 P) (N (hO64 P) (N (hO128 P) Z Z) (N (hO270 P) Z Z)) (N (hO96 P) (N (hO238 P) Z Z) (N (hO302 P) Z Z))) (N (hO45 P) (N (hO80 P) (N (hO222 P) Z Z) (N (hO286 P) Z Z)) (N (hO112 P) (N (hO254 P) Z Z) (N (hO318 P) Z Z)))) (N (hO21 P) (N (hO37 P) (N (hO72 P) (N (hO211 P) Z Z) (N (hO278 P) Z Z)) (N (hO104 P) (N (hO246 P) Z Z) (N (hO310 P) Z Z))) (N (hO53 P) (N (hO88 P) (N (hO230 P) Z Z) (N (hO294 P) Z Z)) (N (hO120 P) (N (hO262 P) Z Z) Z)))))) (N (PySem.W.boot_o_2 P) (N (PySem.W.boot_o_4 P) (N (PySem.W.boot_o_8 P) (N (hO8 P) (N (hO24 P) (N (hO56 P) (N (hO123 P) Z Z) (N (hO265 P) Z Z)) (N (hO91 P) (N (hO233 P) Z Z) (N (hO297 P) Z Z))) (N (hO40 P) (N (hO75 P) (N (hO214 P) Z Z) (N (hO281 P) Z Z)) (N (hO107 P) (N (hO249 P) Z Z) (N (hO313 P) Z Z)))) (N (hO16 P) (N (hO32 P) (N (hO67 P) (N (hO131 P) Z Z) (N (hO273 P) Z Z)) (N (hO99 P) (N (hO241 P) Z Z) (N (hO305 P) Z Z))) (N (hO48 P) (N (hO83 P) (N (hO225 P) Z Z) (N (hO289 P) Z Z)) (N (hO115 P) (N (hO257 P) Z Z) Z)))) (N (hO218 P) (N (hO12 P) (N (hO28 P) (N (hO63 P) (N (hO127 P) Z Z) (N (hO269 P) Z Z)) (N (hO95 P) (N (hO237 P) Z Z) (N (hO301 P) Z Z))) (N (hO44 P) (N (hO79 P) (N (hO221 P) Z Z) (N (hO285 P) Z Z)) (N (hO111 P) (N (hO253 P) Z Z) (N (hO317 P) Z Z)))) (N (hO20 P) (N (hO36 P) (N (hO71 P) (N (hO210 P) Z Z) (N (hO277 P) Z Z)) (N (hO103 P) (N (hO245 P) Z Z) (N (hO309 P) Z Z))) (N (hO52 P) (N (hO87 P) (N (hO229 P) Z Z) (N (hO293 P) Z Z)) (N (hO119 P) (N (hO261 P) Z Z) Z))))) (N (PySem.W.boot_o_6 P) (N (PySem.W.boot_o_10 P) (N (hO10 P) (N (hO26 P) (N (hO61 P) (N (hO125 P) Z Z) (N (hO267 P) Z Z)) (N (hO93 P) (N (hO235 P) Z Z) (N (hO299 P) Z Z))) (N (hO42 P) (N (hO77 P) (N (hO219 P) Z Z) (N (hO283 P) Z Z)) (N (hO109 P) (N (hO251 P) Z Z) (N (hO315 P) Z Z)))) (N (hO18 P) (N (hO34 P) (N (hO69 P) (N (hO133 P) Z Z) (N (hO275 P) Z Z)) (N (hO101 P) (N (hO243 P) Z Z) (N (hO307 P) Z Z))) (N (hO50 P) (N (hO85 P) (N (hO227 P) Z Z) (N (hO291 P) Z Z)) (N (hO117 P) (N (hO259 P) Z Z) Z)))) (N (hO4 P) (N (hO14 P) (N (hO30 P) (N (hO65 P) (N (hO129 P) Z Z) (N (hO271 P) Z Z)) (N (hO97 P) (N (hO239 P) Z Z) (N (hO303 P) Z Z))) (N (hO46 P) (N (hO81 P) (N (hO223 P) Z Z) (N (hO287 P) Z Z)) (N (hO113 P) (N (hO255 P) Z Z) (N (hO319 P) Z Z)))) (N (hO22 P) (N (hO38 P) (N (hO73 P) (N (hO212 P) Z Z) (N (hO279 P) Z Z)) (N (hO105 P) (N (hO247 P) Z Z) (N (hO311 P) Z Z))) (N (hO54 P) (N (hO89 P) (N (hO231 P) Z Z) (N (hO295 P) Z Z)) (N (hO121 P) (N (hO263 P) Z Z) Z))))))
noncomputable def tree446 (P : Params) : BT := N (PySem.W.boot_o_0 P) (N (PySem.W.boot_o_1 P) (N (hO395 P) (N (PySem.W.boot_o_7 P) (N (hO7 P) (N (hO23 P) (N (hO55 P) (N (hO122 P) (N (hO405 P) Z Z) Z) (N (hO264 P) Z Z)) (N (hO90 P) (N (hO232 P) (N (hO437 P) Z Z) Z) (N (hO296 P) Z Z))) (N (hO39 P) (N (hO74 P) (N (hO213 P) (N (hO421 P) Z Z) Z) (N (hO280 P) Z Z)) (N (hO106 P) (N (hO248 P) Z Z) (N (hO312 P) Z Z)))) (N (hO15 P) (N (hO31 P) (N (hO66 P) (N (hO130 P) (N (hO413 P) Z Z) Z) (N (hO272 P) Z Z)) (N (hO98 P) (N (hO240 P) (N (hO445 P) Z Z) Z) (N (hO304 P) Z Z))) (N (hO47 P) (N (hO82 P) (N (hO224 P) (N (hO429 P) Z Z) Z) (N (hO288 P) Z Z)) (N (hO114 P) (N (hO256 P) Z Z) (N (hO397 P) Z Z))))) (N (hO1 P) (N (hO11 P) (N (hO27 P) (N (hO62 P) (N (hO126 P) (N (hO409 P) Z Z) Z) (N (hO268 P) Z Z)) (N (hO94 P) (N (hO236 P) (N (hO441 P) Z Z) Z) (N (hO300 P) Z Z))) (N (hO43 P) (N (hO78 P) (N (hO220 P) (N (hO425 P) Z Z) Z) (N (hO284 P) Z Z)) (N (hO110 P) (N (hO252 P) Z Z) (N (hO316 P) Z Z)))) (N (hO19 P) (N (hO35 P) (N (hO70 P) (N (hO209 P) (N (hO417 P) Z Z) Z) (N (hO276 P) Z Z)) (N (hO102 P) (N (hO244 P) Z Z) (N (hO308 P) Z Z))) (N (hO51 P) (N (hO86 P) (N (hO228 P) (N (hO433 P) Z Z) Z) (N (hO292 P) Z Z)) (N (hO118 P) (N (hO260 P) Z Z) (N (hO401 P) Z Z)))))) (N (PySem.W.boot_o_5 P) (N (PySem.W.boot_o_9 P) (N (hO9 P) (N (hO25 P) (N (hO60 P) (N (hO124 P) (N (hO407 P) Z Z) Z) (N (hO266 P) Z Z)) (N (hO92 P) (N (hO234 P) (N (hO439 P) Z Z) Z) (N (hO298 P) Z Z))) (N (hO41 P) (N (hO76 P) (N (hO215 P) (N (hO423 P) Z Z) Z) (N (hO282 P) Z Z)) (N (hO108 P) (N (hO250 P) Z Z) (N (hO314 P) Z Z)))) (N (hO17 P) (N (hO33 P) (N (hO68 P) (N (hO132 P) (N (hO415 P) Z Z) Z) (N (hO274 P) Z Z)) (N (hO100 P) (N (hO242 P) Z Z) (N (hO306 P) Z Z))) (N (hO49 P) (N (hO84 P) (N (hO226 P) (N (hO431 P) Z Z) Z) (N (hO290 P) Z Z)) (N (hO116 P) (N (hO258 P) Z Z) (N (hO399 P) Z Z))))) (N (hO3 P) (N (hO13 P) (N (hO29 P) (N (hO64 P) (N (hO128 P) (N (hO411 P) Z Z) Z) (N (hO270 P) Z Z)) (N (hO96 P) (N (hO238 P) (N (hO443 P) Z Z) Z) (N (hO302 P) Z Z))) (N (hO45 P) (N (hO80 P) (N (hO222 P) (N (hO427 P) Z Z) Z) (N (hO286 P) Z Z)) (N (hO112 P) (N (hO254 P) Z Z) (N (hO318 P) Z Z)))) (N (hO21 P) (N (hO37 P) (N (hO72 P) (N (hO211 P) (N (hO419 P) Z Z) Z) (N (hO278 P) Z Z)) (N (hO104 P) (N (hO246 P) Z Z) (N (hO310 P) Z Z))) (N (hO53 P) (N (hO88 P) (N (hO230 P) (N (hO435 P) Z Z) Z) (N (hO294 P) Z Z)) (N (hO120 P) (N (hO262 P) Z Z) (N (hO403 P) Z Z))))))) (N (PySem.W.boot_o_2 P) (N (PySem.W.boot_o_4 P) (N (PySem.W.boot_o_8 P) (N (hO8 P) (N (hO24 P) (N (hO56 P) (N (hO123 P) (N (hO406 P) Z Z) Z) (N (hO265 P) Z Z)) (N (hO91 P) (N (hO233 P) (N (hO438 P) Z Z) Z) (N (hO297 P) Z Z))) (N (hO40 P) (N (hO75 P) (N (hO214 P) (N (hO422 P) Z Z) Z) (N (hO281 P) Z Z)) (N (hO107 P) (N (hO249 P) Z Z) (N (hO313 P) Z Z)))) (N (hO16 P) (N (hO32 P) (N (hO67 P) (N (hO131 P) (N (hO414 P) Z Z) Z) (N (hO273 P) Z Z)) (N (hO99 P) (N (hO241 P) (N (hO446 P) Z Z) Z) (N (hO305 P) Z Z))) (N (hO48 P) (N (hO83 P) (N (hO225 P) (N (hO430 P) Z Z) Z) (N (hO289 P) Z Z)) (N (hO115 P) (N (hO257 P) Z Z) (N (hO398 P) Z Z))))) (N (hO396 P) (N (hO12 P) (N (hO28 P) (N (hO63 P) (N (hO127 P) (N (hO410 P) Z Z) Z) (N (hO269 P) Z Z)) (N (hO95 P) (N (hO237 P) (N (hO442 P) Z Z) Z) (N (hO301 P) Z Z))) (N (hO44 P) (N (hO79 P) (N (hO221 P) (N (hO426 P) Z Z) Z) (N (hO285 P) Z Z)) (N (hO111 P) (N (hO253 P) Z Z) (N (hO317 P) Z Z)))) (N (hO20 P) (N (hO36 P) (N (hO71 P) (N (hO210 P) (N (hO418 P) Z Z) Z) (N (hO277 P) Z Z)) (N (hO103 P) (N (hO245 P) Z Z) (N (hO309 P) Z Z))) (N (hO52 P) (N (hO87 P) (N (hO229 P) (N (hO434 P) Z Z) Z) (N (hO293 P) Z Z)) (N (hO119 P) (N (hO261 P) Z Z) (N (hO402 P) Z Z)))))) (N (PySem.W.boot_o_6 P) (N (PySem.W.boot_o_10 P) (N (hO10 P) (N (hO26 P) (N (hO61 P) (N (hO125 P) (N (hO408 P) Z Z) Z) (N (hO267 P) Z Z)) (N (hO93 P) (N (hO235 P) (N (hO440 P) Z Z) Z) (N (hO299 P) Z Z))) (N (hO42 P) (N (hO77 P) (N (hO219 P) (N (hO424 P) Z Z) Z) (N (hO283 P) Z Z)) (N (hO109 P) (N (hO251 P) Z Z) (N (hO315 P) Z Z)))) (N (hO18 P) (N (hO34 P) (N (hO69 P) (N (hO133 P) (N (hO416 P) Z Z) Z) (N (hO275 P) Z Z)) (N (hO101 P) (N (hO243 P) Z Z) (N (hO307 P) Z Z))) (N (hO50 P) (N (hO85 P) (N (hO227 P) (N (hO432 P) Z Z) Z) (N (hO291 P) Z Z)) (N (hO117 P) (N (hO259 P) Z Z) (N (hO400 P) Z Z))))) (N (hO4 P) (N (hO14 P) (N (hO30 P) (N (hO65 P) (N (hO129 P) (N (hO412 P) Z Z) Z) (N (hO271 P) Z Z)) (N (hO97 P) (N (hO239 P) (N (hO444 P) Z Z) Z) (N (hO303 P) Z Z))) (N (hO46 P) (N (hO81 P) (N (hO223 P) (N (hO428 P) Z Z) Z) (N (hO287 P) Z Z)) (N (hO113 P) (N (hO255 P) Z Z) (N (hO319 P) Z Z)))) (N (hO22 P) (N (hO38 P) (N (hO73 P) (N (hO212 P) (N (hO420 P) Z Z) Z) (N (hO279 P) Z Z)) (N (hO105 P) (N (hO247 P) Z Z) (N (hO311 P) Z Z))) (N (hO54 P) (N (hO89 P) (N (hO231 P) (N (hO436 P) Z Z) Z) (N (hO295 P) Z Z)) (N (hO121 P) (N (hO263 P) Z Z) (N (hO404 P) Z Z)))))))
noncomputable def tree493 (P : Params) : BT := N (PySem.W.boot_o_0 P) (N (PySem.W.boot_o_1 P) (N (hO448 P) (N (PySem.W.boot_o_7 P) (N (hO7 P) (N (hO23 P) (N (hO55 P) (N (hO122 P) (N (hO405 P) Z Z) Z) (N (hO264 P) (N (hO472 P) Z Z) Z)) (N (hO90 P) (N (hO232 P) (N (hO437 P) Z Z) Z) (N (hO296 P) Z Z))) (N (hO39 P) (N (hO74 P) (N (hO213 P) (N (hO421 P) Z Z) Z) (N (hO280 P) (N (hO488 P) Z Z) Z)) (N (hO106 P) (N (hO248 P) (N (hO456 P) Z Z) Z) (N (hO312 P) Z Z)))) (N (hO15 P) (N (hO31 P) (N (hO66 P) (N (hO130 P) (N (hO413 P) Z Z) Z) (N (hO272 P) (N (hO480 P) Z Z) Z)) (N (hO98 P) (N (hO240 P) (N (hO445 P) Z Z) Z) (N (hO304 P) Z Z))) (N (hO47 P) (N (hO82 P) (N (hO224 P) (N (hO429 P) Z Z) Z) (N (hO288 P) Z Z)) (N (hO114 P) (N (hO256 P) (N (hO464 P) Z Z) Z) (N (hO397 P) Z Z))))) (N (hO1 P) (N (hO11 P) (N (hO27 P) (N (hO62 P) (N (hO126 P) (N (hO409 P) Z Z) Z) (N (hO268 P) (N (hO476 P) Z Z) Z)) (N (hO94 P) (N (hO236 P) (N (hO441 P) Z Z) Z) (N (hO300 P) Z Z))) (N (hO43 P) (N (hO78 P) (N (hO220 P) (N (hO425 P) Z Z) Z) (N (hO284 P) (N (hO492 P) Z Z) Z)) (N (hO110 P) (N (hO252 P) (N (hO460 P) Z Z) Z) (N (hO316 P) Z Z)))) (N (hO19 P) (N (hO35 P) (N (hO70 P) (N (hO209 P) (N (hO417 P) Z Z) Z) (N (hO276 P) (N (hO484 P) Z Z) Z)) (N (hO102 P) (N (hO244 P) (N (hO452 P) Z Z) Z) (N (hO308 P) Z Z))) (N (hO51 P) (N (hO86 P) (N (hO228 P) (N (hO433 P) Z Z) Z) (N (hO292 P) Z Z)) (N (hO118 P) (N (hO260 P) (N (hO468 P) Z Z) Z) (N (hO401 P) Z Z)))))) (N (PySem.W.boot_o_5 P) (N (PySem.W.boot_o_9 P) (N (hO9 P) (N (hO25 P) (N (hO60 P) (N (hO124 P) (N (hO407 P) Z Z) Z) (N (hO266 P) (N (hO474 P) Z Z) Z)) (N (hO92 P) (N (hO234 P) (N (hO439 P) Z Z) Z) (N (hO298 P) Z Z))) (N (hO41 P) (N (hO76 P) (N (hO215 P) (N (hO423 P) Z Z) Z) (N (hO282 P) (N (hO490 P) Z Z) Z)) (N (hO108 P) (N (hO250 P) (N (hO458 P) Z Z) Z) (N (hO314 P) Z Z)))) (N (hO17 P) (N (hO33 P) (N (hO68 P) (N (hO132 P) (N (hO415 P) Z Z) Z) (N (hO274 P) (N (hO482 P) Z Z) Z)) (N (hO100 P) (N (hO242 P) (N (hO450 P) Z Z) Z) (N (hO306 P) Z Z))) (N (hO49 P) (N (hO84 P) (N (hO226 P) (N (hO431 P) Z Z) Z) (N (hO290 P) Z Z)) (N (hO116 P) (N (hO258 P) (N (hO466 P) Z Z) Z) (N (hO399 P) Z Z))))) (N (hO3 P) (N (hO13 P) (N (hO29 P) (N (hO64 P) (N (hO128 P) (N (hO411 P) Z Z) Z) (N (hO270 P) (N (hO478 P) Z Z) Z)) (N (hO96 P) (N (hO238 P) (N (hO443 P) Z Z) Z) (N (hO302 P) Z Z))) (N (hO45 P) (N (hO80 P) (N (hO222 P) (N (hO427 P) Z Z) Z) (N (hO286 P) Z Z)) (N (hO112 P) (N (hO254 P) (N (hO462 P) Z Z) Z) (N (hO318 P) Z Z)))) (N (hO21 P) (N (hO37 P) (N (hO72 P) (N (hO211 P) (N (hO419 P) Z Z) Z) (N (hO278 P) (N (hO486 P) Z Z) Z)) (N (hO104 P) (N (hO246 P) (N (hO454 P) Z Z) Z) (N (hO310 P) Z Z))) (N (hO53 P) (N (hO88 P) (N (hO230 P) (N (hO435 P) Z Z) Z) (N (hO294 P) Z Z)) (N (hO120 P) (N (hO262 P) (N (hO470 P) Z Z) Z) (N (hO403 P) Z Z))))))) (N (PySem.W.boot_o_2 P) (N (PySem.W.boot_o_4 P) (N (PySem.W.boot_o_8 P) (N (hO8 P) (N (hO24 P) (N (hO56 P) (N (hO123 P) (N (hO406 P) Z Z) Z) (N (hO265 P) (N (hO473 P) Z Z) Z)) (N (hO91 P) (N (hO233 P) (N (hO438 P) Z Z) Z) (N (hO297 P) Z Z))) (N (hO40 P) (N (hO75 P) (N (hO214 P) (N (hO422 P) Z Z) Z) (N (hO281 P) (N (hO489 P) Z Z) Z)) (N (hO107 P) (N (hO249 P) (N (hO457 P) Z Z) Z) (N (hO313 P) Z Z)))) (N (hO16 P) (N (hO32 P) (N (hO67 P) (N (hO131 P) (N (hO414 P) Z Z) Z) (N (hO273 P) (N (hO481 P) Z Z) Z)) (N (hO99 P) (N (hO241 P) (N (hO446 P) Z Z) Z) (N (hO305 P) Z Z))) (N (hO48 P) (N (hO83 P) (N (hO225 P) (N (hO430 P) Z Z) Z) (N (hO289 P) Z Z)) (N (hO115 P) (N (hO257 P) (N (hO465 P) Z Z) Z) (N (hO398 P) Z Z))))) (N (hO449 P) (N (hO12 P) (N (hO28 P) (N (hO63 P) (N (hO127 P) (N (hO410 P) Z Z) Z) (N (hO269 P) (N (hO477 P) Z Z) Z)) (N (hO95 P) (N (hO237 P) (N (hO442 P) Z Z) Z) (N (hO301 P) Z Z))) (N (hO44 P) (N (hO79 P) (N (hO221 P) (N (hO426 P) Z Z) Z) (N (hO285 P) (N (hO493 P) Z Z) Z)) (N (hO111 P) (N (hO253 P) (N (hO461 P) Z Z) Z) (N (hO317 P) Z Z)))) (N (hO20 P) (N (hO36 P) (N (hO71 P) (N (hO210 P) (N (hO418 P) Z Z) Z) (N (hO277 P) (N (hO485 P) Z Z) Z)) (N (hO103 P) (N (hO245 P) (N (hO453 P) Z Z) Z) (N (hO309 P) Z Z))) (N (hO52 P) (N (hO87 P) (N (hO229 P) (N (hO434 P) Z Z) Z) (N (hO293 P) Z Z)) (N (hO119 P) (N (hO261 P) (N (hO469 P) Z Z) Z) (N (hO402 P) Z Z)))))) (N (PySem.W.boot_o_6 P) (N (PySem.W.boot_o_10 P) (N (hO10 P) (N (hO26 P) (N (hO61 P) (N (hO125 P) (N (hO408 P) Z Z) Z) (N (hO267 P) (N (hO475 P) Z Z) Z)) (N (hO93 P) (N (hO235 P) (N (hO440 P) Z Z) Z) (N (hO299 P) Z Z))) (N (hO42 P) (N (hO77 P) (N (hO219 P) (N (hO424 P) Z Z) Z) (N (hO283 P) (N (hO491 P) Z Z) Z)) (N (hO109 P) (N (hO251 P) (N (hO459 P) Z Z) Z) (N (hO315 P) Z Z)))) (N (hO18 P) (N (hO34 P) (N (hO69 P) (N (hO133 P) (N (hO416 P) Z Z) Z) (N (hO275 P) (N (hO483 P) Z Z) Z)) (N (hO101 P) (N (hO243 P) (N (hO451 P) Z Z) Z) (N (hO307 P) Z Z))) (N (hO50 P) (N (hO85 P) (N (hO227 P) (N (hO432 P) Z Z) Z) (N (hO291 P) Z Z)) (N (hO117 P) (N (hO259 P) (N (hO467 P) Z Z) Z) (N (hO400 P) Z Z))))) (N (hO4 P) (N (hO14 P) (N (hO30 P) (N (hO65 P) (N (hO129 P) (N (hO412 P) Z Z) Z) (N (hO271 P) (N (hO479 P) Z Z) Z)) (N (hO97 P) (N (hO239 P) (N (hO444 P) Z Z) Z) (N (hO303 P) Z Z))) (N (hO46 P) (N (hO81 P) (N (hO223 P) (N (hO428 P) Z Z) Z) (N (hO287 P) Z Z)) (N (hO113 P) (N (hO255 P) (N (hO463 P) Z Z) Z) (N (hO319 P) Z Z)))) (N (hO22 P) (N (hO38 P) (N (hO73 P) (N (hO212 P) (N (hO420 P) Z Z) Z) (N (hO279 P) (N (hO487 P) Z Z) Z)) (N (hO105 P) (N (hO247 P) (N (hO455 P) Z Z) Z) (N (hO311 P) Z Z))) (N (hO54 P) (N (hO89 P) (N (hO231 P) (N (hO436 P) Z Z) Z) (N (hO295 P) Z Z)) (N (hO121 P) (N (hO263 P) (N (hO471 P) Z Z) Z) (N (hO404 P) Z Z)))))))
noncomputable abbrev q0 : Pos := { line := 0, col := 0, endLine := 0, endCol := 0 }
noncomputable def envQ : Env := { scope := PW.main.scope, locals := mainNs, globals := mainNs, cells := [], code := Value.ref 13, frame := some 14 }
noncomputable def setQ (t : BT) (P : Params) : BT := (t.set 148 fun _ => o148 P).set 241 fun _ => o241 P
noncomputable def stT (t : BT) (n k : Nat) (os : OsState) : SharedT := { tree := t, n := n, life := { }, gens := ⟨[]⟩, drawn := { }, toks := k, os := os }
noncomputable def stsQ (i k : Nat) : List Stmt := (PW.main.body.drop i).take k
theorem p2 (w : World) (p : Program) (b : List Stmt) (os : OsState) :
 PySem.W.Fast.tw10110043849684766642 PySem.W.Fast.tw14364793385576792824 p w 11 (some (Value.ref 6)) 1 362 (stT (tree4 w.params) 15 187 os)
     (piecesOf (stsQ 0 3) envQ (Code.body b envQ) q0 [topFrame q0]) =
   some (Flow.next, stT (tree56 w.params) 65 253 os, Code.body b envQ, { line := 5, col := 0, endLine := 22, endCol := 54 }) := by
 kernel_rfl
theorem p3 (w : World) (p : Program) (b : List Stmt) (os : OsState) :
 PySem.W.Fast.tw10110043849684766642 PySem.W.Fast.tw14364793385576792824 p w 11 (some (Value.ref 6)) 1 1047 (stT (tree56 w.params) 65 253 os)
     (piecesOf (stsQ 3 1) envQ (Code.body b envQ) { line := 5, col := 0, endLine := 22, endCol := 54 } [topFrame q0]) =
   some (Flow.next, stT (tree133 w.params) 139 381 os, Code.body b envQ, { line := 23, col := 0, endLine := 65, endCol := 54 }) := by
 kernel_rfl
theorem p4 (w : World) (p : Program) (b : List Stmt) (os : OsState) :
 PySem.W.Fast.tw10110043849684766642 PySem.W.Fast.tw14364793385576792824 p w 11 (some (Value.ref 6)) 1 31 (stT (tree133 w.params) 139 381 os)
     (piecesOf (stsQ 4 1) envQ (Code.body b envQ) { line := 23, col := 0, endLine := 65, endCol := 54 } [topFrame q0]) =
   some (Flow.next, stT (tree215 w.params) 146 389 os, Code.body b envQ, { line := 66, col := 0, endLine := 69, endCol := 14 }) := by
 kernel_rfl
theorem p5 (w : World) (p : Program) (b : List Stmt) (os : OsState) :
 PySem.W.Fast.tw10110043849684766642 tblQ p w 11 (some (Value.ref 6)) 1 657 (stT (tree215 w.params) 146 389 os)
     (piecesOf [setDoc docT (stAt 5)] envQ (Code.body b envQ) { line := 66, col := 0, endLine := 69, endCol := 14 } [topFrame q0]) =
   some (Flow.next, stT (setQ (tree319 w.params) w.params) 247 583 os, Code.body b envQ, { line := 70, col := 0, endLine := 461, endCol := 16 }) := by
 kernel_rfl
theorem p6 (w : World) (p : Program) (b : List Stmt) (os : OsState) :
 PySem.W.Fast.tw10110043849684766642 PySem.W.Fast.tw14364793385576792824 p w 11 (some (Value.ref 6)) 1 400 (stT (setQ (tree319 w.params) w.params) 247 583 os)
     (piecesOf (stsQ 6 8) envQ (Code.body b envQ) { line := 70, col := 0, endLine := 461, endCol := 16 } [topFrame q0]) =
   some (Flow.next, stT (setQ (tree446 w.params) w.params) 297 660 os, Code.body b envQ, { line := 498, col := 0, endLine := 504, endCol := 48 }) := by
 kernel_rfl
theorem p7 (w : World) (p : Program) (b : List Stmt) (os : OsState) :
 PySem.W.Fast.tw10110043849684766642 PySem.W.Fast.tw14364793385576792824 p w 11 (some (Value.ref 6)) 1 228 (stT (setQ (tree446 w.params) w.params) 297 660 os)
     (piecesOf (stsQ 14 8) envQ (Code.body b envQ) { line := 498, col := 0, endLine := 504, endCol := 48 } [topFrame q0]) =
   some (Flow.next, stT (setQ (tree493 w.params) w.params) 341 723 os, Code.body b envQ, { line := 560, col := 0, endLine := 571, endCol := 50 }) := by
 kernel_rfl
theorem last_heap (w : World) (os : OsState) : (stT (setQ (tree493 w.params) w.params) 341 723 os).abs = ⟨H1 w.params, ⟨[]⟩, {}, 723, os⟩ := by
 kernel_rfl
end Mine
end
noncomputable section
example : True := by w_top off; trivial
open PySem PySem.W PySem.W.X PyProof.Rows
namespace Mine
theorem body_is : behindTheImports PW = stsQ 0 3 ++ (stsQ 3 1 ++ (stsQ 4 1 ++ ([setDoc docT (stAt 5)] ++ (stsQ 6 8 ++ (stsQ 14 8 ++ []))))) := by
 rw [← cls_is]; kernel_rfl
theorem pre (w : World) (os : OsState) : topGo treeTable PW w 11 (some (Value.ref 6)) 12 ⟨boot_heap w.params, ⟨[]⟩, boot_drawn, boot_toks, os⟩ (topStub PW) =
   some ((stT (tree4 w.params) 15 187 os).abs, ⟨denote treeTable (.body (behindTheImports PW) envQ), .body (behindTheImports PW) envQ, q0, [topFrame q0]⟩) := by
 kernel_rfl
theorem blk (w : World) (os : OsState) : segRun treeTable PW w 11 (some (Value.ref 6)) 1 1 (stT (tree4 w.params) 15 187 os).abs (blockOf (behindTheImports PW) envQ (.body (behindTheImports PW) envQ) q0 [topFrame q0]) =
   some (.next, (stT (tree4 w.params) 15 187 os).abs, .body (behindTheImports PW) envQ, q0) := by
 kernel_rfl
theorem fin_ (w : World) (os : OsState) (c : Code) (q : Pos) (s : Shared) : topRun treeTable PW w 11 (some (Value.ref 6)) 2 s ⟨doneF .next, c, q, [topFrame q0]⟩ = some s := by
 kernel_rfl
theorem run (w : World) (os : OsState) : topRun treeTable PW w 11 (some (Value.ref 6)) 2740 ⟨boot_heap w.params, ⟨[]⟩, boot_drawn, boot_toks, os⟩ (topStub PW) = some ⟨H1 w.params, ⟨[]⟩, {}, 723, os⟩ := by
 refine go_top (n := 12) (N := 2728) (pre w os) (piece_block (n := 1) (N := 2727) (blk w os) ?_)
 have e := body_is
 generalize behindTheImports PW = b at e ⊢
 have h2 := p2 w PW b os
 have h3 := p3 w PW b os
 have h4 := p4 w PW b os
 have h5 := p5 w PW b os
 have h6 := p6 w PW b os
 have h7 := p7 w PW b os
 rw [← PySem.W.Fast.te10110043849684766642, ← PySem.W.Fast.te14364793385576792824] at h2 h3 h4 h6 h7
 rw [← PySem.W.Fast.te10110043849684766642, ← tblQ_eq] at h5
 have k2 := segRun_of h2
 have k3 := segRun_of h3
 have k4 := segRun_of h4
 have k5 := segRun_of h5
 have k6 := segRun_of h6
 have k7 := segRun_of h7
 rw [last_heap] at k7
 have : restOf b envQ (.body b envQ) q0 [topFrame q0] = restOf (stsQ 0 3 ++ (stsQ 3 1 ++ (stsQ 4 1 ++ ([setDoc docT (stAt 5)] ++ (stsQ 6 8 ++ (stsQ 14 8 ++ [])))))) envQ (.body b envQ) q0 [topFrame q0] := by rw [← e]
 rw [this]
 exact piece_app (n := 362) (N := 2365) k2 (piece_app (n := 1047) (N := 1318) k3 (piece_app (n := 31) (N := 1287) k4
   (piece_app (n := 657) (N := 630) k5 (piece_app (n := 400) (N := 230) k6 (piece_app (n := 228) (N := 2) k7 (piece_nil (fin_ w os _ _ _)))))))
noncomputable def viewR : Program := { PW with main := { PW.main with body := [0, 2, 3, 4, 5, 7, 9, 11, 12, 13, 14, 15, 16, 17, 18, 19, 20, 21].map fun i => PW.main.body.getD i (.Pass default) } }
noncomputable def looseR : List Str := [oS "_tuplegetter", oS "Match", oS "SequenceMatcher"]
noncomputable def sR (w : World) (os : OsState) : Shared := ⟨H1 w.params, ⟨[]⟩, {}, 723, os⟩
end Mine
end
noncomputable section
example : True := by w_top off; trivial
open PySem PySem.W PySem.W.X PyProof.Rows
namespace Mine
theorem look1 (w : World) (os : OsState) : (staticsOk (importedModules PW.main.body) (boot_heap w.params) (sR w os).heap && namesBound PW (sR w os).heap && gensDone (sR w os) && laidKept (boot_heap w.params) (sR w os).heap) = true := by kernel_rfl
theorem look2 (w : World) (os : OsState) : seen ((recsOf viewR).map (·.name)) (ownsOf viewR) [] { sR w os with gens := #[] } = expectedOf viewR := by kernel_rfl
theorem look3 (w : World) (os : OsState) : (sR w os).heap.bltView = bltViewBooted := by kernel_rfl
theorem look4 (w : World) (os : OsState) : ((sR w os).heap.keysOk (looseW viewR looseR) ((recsOf viewR).map (·.name)) ((litsOf viewR).map (·.1)) ((clssOf viewR (looseW viewR looseR)).map (·.name)) && (sR w os).heap.accountedOkI (importedModules PW.main.body) && (sR w os).heap.isNs mainGlobals && (sR w os).heap.isNs builtinsNs && tablesOk viewR (sR w os).heap && (xlAt viewR [] (sR w os) && recOk [] (sR w os)) && (if true then (sR w os).gens.size == 0 else !leftWithCleanup (sR w os).gens)) = true := by kernel_rfl
theorem look5 (w : World) (os : OsState) : tabsOk viewR (sR w os) = true := by kernel_rfl
theorem look6 (w : World) (os : OsState) : pinSeenD viewR (drecsOf viewR) (sR w os) = pinGoodD (drecsOf viewR) := by kernel_rfl
theorem look7 (w : World) (os : OsState) : plainSeenE viewR (looseW viewR looseR) (sR w os) = plainGoodE viewR (looseW viewR looseR) := by kernel_rfl
theorem look8 (w : World) (os : OsState) : plainSeenD viewR looseR (sR w os) = plainGoodD viewR looseR := by kernel_rfl
theorem look9 (w : World) (os : OsState) : wideSeen viewR (sR w os) = wideGood viewR := by kernel_rfl
theorem look10 (w : World) (os : OsState) : clsSeenW viewR looseR (sR w os) = clsGoodW viewR looseR := by kernel_rfl
theorem look11 (w : World) (os : OsState) : asR.map (sR w os).heap.get? = (KR w.params).map fun p => some p.2 := by kernel_rfl
theorem size_ (w : World) : ((boot_heap w.params).isNs mainGlobals && (⟨[]⟩ : Array GenState).size == 0, (boot_heap w.params).objs.size, (boot_heap w.params).nsMap mainGlobals "__annotations__") = (true, 11, some (Value.ref 6)) := by kernel_rfl
theorem kR_ok (P : Params) : asR = (KR P).map (·.1) := by kernel_rfl
noncomputable abbrev hookR : Hook := kHook KR asR kR_ok
theorem left : LeftO PW viewR looseR (fun s => xlAt viewR [] s && recOk [] s) hookR.obs hookR.val 5564 :=
 LeftO.of_pieces (H₀ := boot_heap) (H₁ := H1) (gs₀ := ⟨[]⟩) (gs₁ := ⟨[]⟩) (d₀ := boot_drawn) (d₁ := {}) (k₀ := boot_toks) (k₁ := 723) (m₀ := 11) (ann := some (Value.ref 6)) (M := 2740)
   (boot_open (by kernel_rfl) (by kernel_rfl) (fun s => by kernel_rfl)) size_ run (by kernel_rfl) (fun w => funext fun os =>
     looks_pair (look1 w os) (looks_pair (looks_pair (look2 w os) (looks_pair (look3 w os) (looks_pair (look4 w os) (looks_pair (look5 w os) (looks_pair (look6 w os) (looks_pair (look7 w os) (looks_pair (look8 w os) (looks_pair (look9 w os) (look10 w os))))))))) (look11 w os)))
end Mine
end
noncomputable section
example : True := by w_top off; trivial
open PySem PySem.W PySem.W.X PyProof.Rows PySem.Calls PySem.Spec
namespace Mine
theorem neW : Nonempty World := ⟨⟨fun _ _ => 0, { strHash := fun _ => 0, shareClass := fun _ => 0, mergeTok := fun t => t, lifetimes := .refcount, followText := fun _ => false, idOf := fun _ => 0, idOfShared := fun _ _ => 0, idOfImm := fun _ => 0 }⟩⟩
theorem neA : Nonempty Around := ⟨callerA⟩
theorem neS : Nonempty Shared := ⟨{}⟩
noncomputable def ep {T : Type} (ne : Nonempty T) (P : T -> Prop) : T := @Classical.epsilon T ne fun p => ¬ P p
theorem drink {T : Type} (ne : Nonempty T) (P : T -> Prop) (h : P (ep ne P)) (p : T) : P p :=
 Classical.byContradiction fun n => @Classical.epsilon_spec T (fun p => ¬ P p) ⟨p, n⟩ h
end Mine
end
noncomputable section
example : True := by w_top off; trivial
namespace Mine
abbrev Wd := Int × Int × Int
abbrev Rl := Wd × Wd
noncomputable def Wd.at (u : Wd) (i : Int) : Int := [u.1, u.2.1, u.2.2].getD i.toNat 0
noncomputable def cmpP (i0 d0 i1 d1 : Int) (u v : Wd) : Int :=
 if Wd.at u i0 < Wd.at v i0 then -d0 else if Wd.at v i0 < Wd.at u i0 then d0 else if Wd.at u i1 < Wd.at v i1 then -d1 else if Wd.at v i1 < Wd.at u i1 then d1 else 0
def Fits (u h : Wd) : Prop := h.1 ≤ u.1 ∧ h.2.1 ≤ u.2.1 ∧ h.2.2 ≤ u.2.2
noncomputable def Wd.swap (u h t : Wd) : Wd := (u.1 - h.1 + t.1, u.2.1 - h.2.1 + t.2.1, u.2.2 - h.2.2 + t.2.2)
inductive Led (rs : List Rl) : Wd -> Wd -> Prop
 | nil (u) : Led rs u u
 | step {u v r} : Led rs u v -> r ∈ rs -> Fits v r.1 -> Led rs u (v.swap r.1 r.2)
def Done (rs : List Rl) (u : Wd) : Prop := ∀ r ∈ rs, ¬ Fits u r.1
def Down (rs : List Rl) (u v : Wd) : Prop := Led rs u v ∧ Done rs v
end Mine
end
noncomputable section
example : True := by w_top off; trivial
open PySem PySem.W PySem.W.X PyProof.Rows PySem.Calls PySem.Spec
namespace Mine
noncomputable section
abbrev Fill (_ : OpenLaw) (_ : Params -> Frag) : Prop := True
abbrev Keeps (h h' : Heap) : Prop := ∀ b o, h.get? b = some o -> h'.get? b = some o
abbrev KeepsBut (a : Addr) (h h' : Heap) : Prop := ∀ b o, b ≠ a -> h.get? b = some o -> h'.get? b = some o
section
variable {prog : Program} {w : World} {A₀ A : Around} {s : Shared} {base h₀ : Heap} {outer : List Env} {L : Addr} {m mg mb : Str -> Option Value} {env : Env} {K : Frag} {p : Program} {loose : List Str} {mean : ExcName -> Option Value}
 {R : Result -> Shared -> Prop} {name qual : Str} {params : Arguments} {body : List Stmt} {scope : Scope} {dV kV doc pm cdv ct oc : Value} {an od : Option Addr} {osl : Array (Option Value)} {f : Addr} {args : Args} {binds : List (Str × Value)}
theorem enter_cells (B : Below A₀ base outer h₀) (F : Fr h₀ L s.heap m) (X₀ : K.In h₀) (T : Top p loose mean mg mb h₀) (hA : A.frames = some (env :: outer)) (hf : env.frame = some L) (hke : env.scope.kind = .function)
   (ho : K.lookup f = some ⟨oc, od, .func (fnOf name qual params body scope dV kV doc pm an cdv ct), osl⟩) (hcd : codeIn K cdv qual = true) (hroom : A.depth < recursionLimit)
   (hbind : BindsTo s (fnOf name qual params body scope dV kV doc pm an cdv ct) args binds) (hkind : (binds.all fun y => scope.names.lookup y.1 == some .local || scope.names.lookup y.1 == some .cell) = true)
   (hnd : ((cellsFrom 0 scope.names []).map (·.1)).Nodup)
   (h : ∀ L' h₁ tk cells, Fr s.heap L' h₁ (bindL (envOfC qual scope L' f cdv).kindOf binds fun _ => none) -> News s.heap L' h₁ cells ->
     CellsAre (bindC (envOfC qual scope L' f cdv).kindOf binds fun _ => none) (cellsFrom (L' + 1) scope.names []) cells -> Below A base (env :: outer) s.heap -> K.In s.heap -> Top p loose mean mg mb s.heap ->
     wpAny (model prog w) (A.deeper (envOfC qual scope L' f cdv)) (execs body (envOfC qual scope L' f cdv))
       (fun fl s' => LeaveK h₀ L m s.heap R (match fl with | .ret v => v | _ => .none) s')
       (fun e s' => wpAny (model prog w) (A.deeper (envOfC qual scope L' f cdv)) («leaving» (envOfC qual scope L' f cdv) e) (fun _ s'' => R (.error e) s'') (fun e' s'' => R (.error e') s'') s')
       { s with heap := h₁, toks := tk })
   (hco : scope.isCoroutine = false) (hgen : scope.isGenerator = false) (hk : scope.kind = .function) : codeAny (model prog w) A (.call (.ref f) args) R s := by
 have G := groundX (R := R) B F (News.nil (h₀ := h₀) (h := s.heap) (L := L)) hA hf hke
 obtain ⟨_, BG, st, lv⟩ := G
 refine codeAny_call_function hroom (F.keep _ _ (X₀ _ _ ho)) rfl hco hgen rfl (codeRec_of (X₀.keeps F.keep) hcd) (hbind _ _ _ _ ?_)
 refine wpAny_newFunctionEnv_cells hk (kindsX hkind _) fun env' he s' x => ?_
 subst he
 refine ⟨(T.nolimit.keeps F.keep).keeps x.toInCall.keep, codeAny_func ?_⟩
 obtain ⟨h₁, tk, rfl, _⟩ := x.done
 have hk₁ := x.toInCall.keep
 obtain ⟨cells, NC, Y⟩ := Cl.news (h₀ := s.heap) (Nat.le_refl _) fun n c hm => ⟨x.cell n c (lookup_of_mem_nodup (cellsFrom_names scope.names 0 (s.heap.objs.size + 1) [] [] rfl ▸ hnd) hm), x.above n c hm⟩
 exact wpAny_mono (h s.heap.objs.size h₁ tk cells ⟨x.toInCall.ns, fun b o e => hk₁ b o e, Nat.le_refl _⟩ (fun q hq => ⟨(NC q hq).1, (NC q hq).2.1, (NC q hq).2.2⟩) Y BG (X₀.keeps F.keep) (T.keeps F.keep)) (fun fl s' hl => lv _ _ hl) fun _ _ y => y
theorem enter_plain (B : Below A₀ base outer h₀) (F : Fr h₀ L s.heap m) (X₀ : K.In h₀) (T : Top p loose mean mg mb h₀) (hA : A.frames = some (env :: outer)) (hf : env.frame = some L) (hke : env.scope.kind = .function)
   (ho : K.lookup f = some ⟨oc, od, .func (fnOf name qual params body scope dV kV doc pm an cdv ct), osl⟩) (hcd : codeIn K cdv qual = true) (hroom : A.depth < recursionLimit)
   (hbind : BindsTo s (fnOf name qual params body scope dV kV doc pm an cdv ct) args binds) (hloc : ∀ y ∈ binds, scope.names.lookup y.1 = some .local)
   (h : ∀ L' h₁, Fr s.heap L' h₁ (fun y => binds.reverse.lookup y) -> News s.heap L' h₁ [] -> Below A base (env :: outer) s.heap -> K.In s.heap -> Top p loose mean mg mb s.heap ->
     wpAny (model prog w) (A.deeper (envOf qual scope L' f cdv)) (execs body (envOf qual scope L' f cdv))
       (fun fl s' => LeaveK h₀ L m s.heap R (match fl with | .ret v => v | _ => .none) s')
       (fun e s' => wpAny (model prog w) (A.deeper (envOf qual scope L' f cdv)) («leaving» (envOf qual scope L' f cdv) e) (fun _ s'' => R (.error e) s'') (fun e' s'' => R (.error e') s'') s')
       { s with heap := h₁, toks := s.toks + binds.length })
   (hco : scope.isCoroutine = false) (hgen : scope.isGenerator = false) (hk : scope.kind = .function) (hcell : ∀ x ∈ scope.names, x.2 ≠ .cell) : codeAny (model prog w) A (.call (.ref f) args) R s := by
 have G := groundX (R := R) B F (News.nil (h₀ := h₀) (h := s.heap) (L := L)) hA hf hke
 obtain ⟨_, BG, st, lv⟩ := G
 refine codeAny_call_def (fd := fnOf name qual params body scope dV kV doc pm an cdv ct) (body := body) (binds := binds) hroom (F.keep _ _ (X₀ _ _ ho)) rfl (T.nolimit.keeps F.keep) (codeRec_of (X₀.keeps F.keep) hcd) rfl hbind hcell hloc (fun h₁ hns hk₁ => ?_) hco hgen hk
 exact wpAny_mono (h s.heap.objs.size h₁ ⟨hns, fun b o e => hk₁ b o e, Nat.le_refl _⟩ News.nil BG (X₀.keeps F.keep) (T.keeps F.keep)) (fun fl s' hl => lv _ _ hl) fun _ _ y => y
end
theorem News.after {h₀ h h' : Heap} {L D : Addr} {o : Obj} {m : Str -> Option Value} {news : List (Addr × Obj)} (F : Fr h₀ L h m) (N : News h₀ L h news) (k : Keeps h h') (hf : h.get? D = none) (hD : h'.get? D = some o) : News h₀ L h' ((D, o) :: news) := by
 intro q hq
 rcases List.mem_cons.mp hq with rfl | hq
 . refine ⟨hD, fun e => ?_, ?_⟩
   . obtain ⟨oL, _, _, hL, _⟩ := F.ns
     change D = L at e
     subst e
     rw [hL] at hf; cases hf
   . cases z : h₀.get? D with
     | none => rfl
     | some o' => have := F.keep _ _ z; rw [hf] at this; cases this
 . exact ⟨k _ _ (N q hq).1, (N q hq).2⟩
theorem News.keep {h₀ h h' : Heap} {L : Addr} {news : List (Addr × Obj)} (N : News h₀ L h news) (k : Keeps h h') : News h₀ L h' news := fun q hq => ⟨k _ _ (N q hq).1, (N q hq).2⟩
noncomputable abbrev lst (vs : List Value) (n : Nat) : Obj := { cls := .type "list", data := .seq vs.toArray n }
noncomputable abbrev tup (vs : List Value) (n : Nat := 0) : Obj := { cls := .type "tuple", data := .seq vs.toArray n }
def IsW (h : Heap) (a : Addr) (x y z : Int) : Prop := ∃ t0 t1 t2 n, h.get? a = some (lst [.int x t0, .int y t1, .int z t2] n)
theorem IsW.keep {h h' : Heap} {a : Addr} {x y z : Int} (H : IsW h a x y z) (k : Keeps h h') : IsW h' a x y z := Exists.imp (fun _ => Exists.imp fun _ => Exists.imp fun _ => Exists.imp fun _ => k _ _) H
theorem nodict_of {h₀ h : Heap} {L a : Addr} {m : Str -> Option Value} {vs : List Value} {n : Nat} (F : Fr h₀ L h m) (e : h₀.get? a = some (lst vs n)) : h.NoDictAt (.ref a) := ⟨_, F.keep _ _ e, rfl⟩
theorem isl_of {h₀ h : Heap} {L a : Addr} {m : Str -> Option Value} {vs : List Value} {n : Nat} (F : Fr h₀ L h m) (e : h₀.get? a = some (lst vs n)) : h.IsList a vs.toArray := ⟨_, F.keep _ _ e, rfl, n, rfl⟩
theorem ints_inv {vs : List Value} {a : Int} {l : List Int} (h : IntsAre vs (a :: l)) : ∃ t vs', vs = .int a t :: vs' ∧ IntsAre vs' l := by
 cases h with
 | cons _ t h => exact ⟨t, _, rfl, h⟩
theorem ints_nil {vs : List Value} (h : IntsAre vs []) : vs = [] := by
 cases h; rfl
theorem ints3 {vs : List Value} {a b c : Int} (h : IntsAre vs [a, b, c]) : ∃ t0 t1 t2, vs = [.int a t0, .int b t1, .int c t2] := by
 obtain ⟨t0, _, rfl, h1⟩ := ints_inv h
 obtain ⟨t1, _, rfl, h2⟩ := ints_inv h1
 obtain ⟨t2, _, rfl, h3⟩ := ints_inv h2
 obtain rfl := ints_nil h3
 exact ⟨t0, t1, t2, rfl⟩
section
variable {prog : Program} {w : World} {A : Around} {E : Value -> Shared -> Prop} {s : Shared} {env : Env} {h₀ : Heap} {target : Expr} {body : List Stmt} {Q : Flow -> Shared -> Prop}
end
section
variable (prog : Program) (w : World) (A : Around) (E : Value -> Shared -> Prop) (s : Shared) (env : Env) (h₀ : Heap) (target : Expr) (body : List Stmt) (Q : Flow -> Shared -> Prop) (ax : Addr) (vs : List Value) (m₀ : Str -> Option Value) (news : List (Addr × Obj))
def Qturns_base : Prop :=
 ∀ (hh : A.handled = none),
 ∀ (F : Fr h₀ env.locals s.heap m₀),
 ∀ (N : News h₀ env.locals s.heap news),
 ∀ (hb : h₀.IsList ax vs.toArray),
 ∀ (rest₀ : ∀ I : Addr, (∀ p ∈ news, p.1 < I) -> ItemsRest prog w A E h₀ env target body Q s [(I, "list_iterator")] [] (vs.map .val) m₀ news),
 wpAny (model prog w) A (pyIter (.ref ax)) (fun it s₂ => TurnsAt prog w A h₀ env target body Q E it s₂) E s
def Sturns_base : Prop :=
 Qturns_base prog w A E s env h₀ target body Q ax vs m₀ news
end
abbrev Tturns_base : Type := (((Program × World) × (Around × (Value -> Shared -> Prop))) × ((Shared × Env) × Heap)) × (((Expr × (List Stmt)) × ((Flow -> Shared -> Prop) × Addr)) × (((List Value) × (Str -> Option Value)) × (List (Addr × Obj))))
def Pturns_base (p : Tturns_base) : Prop := Sturns_base p.1.1.1.1 p.1.1.1.2 p.1.1.2.1 p.1.1.2.2 p.1.2.1.1 p.1.2.1.2 p.1.2.2 p.2.1.1.1 p.2.1.1.2 p.2.1.2.1 p.2.1.2.2 p.2.2.1.1 p.2.2.1.2 p.2.2.2
theorem nturns_base : Nonempty Tturns_base := ⟨((((PW, Classical.choice neW), (callerA, default)), (({}, default), default)), default)⟩
namespace Cturns_base
def pt := ep nturns_base Pturns_base
@[irreducible] def prog := pt.1.1.1.1
@[irreducible] def w := pt.1.1.1.2
@[irreducible] def A := pt.1.1.2.1
@[irreducible] def E := pt.1.1.2.2
@[irreducible] def s := pt.1.2.1.1
@[irreducible] def env := pt.1.2.1.2
@[irreducible] def h₀ := pt.1.2.2
@[irreducible] def target := pt.2.1.1.1
@[irreducible] def body := pt.2.1.1.2
@[irreducible] def Q := pt.2.1.2.1
@[irreducible] def ax := pt.2.1.2.2
@[irreducible] def vs := pt.2.2.1.1
@[irreducible] def m₀ := pt.2.2.1.2
@[irreducible] def news := pt.2.2.2
theorem main : Sturns_base prog w A E s env h₀ target body Q ax vs m₀ news := by
 unfold Sturns_base Qturns_base
 intro hh F N hb rest₀
 have hl : s.heap.IsList ax vs.toArray := hb.at fun o e => F.keep ax o e
 obtain ⟨lo, hlo, _⟩ := id hb
 have hlt : ax < s.heap.objs.size := by obtain ⟨o, ho, _⟩ := id hl; exact Heap.lt_size ho
 have hne : ax ≠ s.heap.objs.size := Nat.ne_of_lt hlt
 have hLa : env.locals ≠ ax := fun e => Nat.lt_irrefl _ (Nat.lt_of_lt_of_le (e ▸ Heap.lt_size hlo : env.locals < h₀.objs.size) F.above)
 refine wpAny_pyIter_list hl ?_
 refine ⟨s.heap.objs.size, [s.heap.objs.size, ax], [s.heap.objs.size], vs.length, _, _, _, m₀, news,
   fun i m₁ news₁ => ItemsRest prog w A E h₀ env target body Q s [(s.heap.objs.size, "list_iterator")] [] ((vs.map .val).drop i) m₁ news₁, rfl,
   KTurns.ofWalks (Walks.list hh s.heap.objs.size ax hne vs.toArray) (fun i v s Q E st q => letGo_listiter st.1 q), ?_, ?_, ?_, ?_, F.push _, fun p hp => ⟨Heap.get?_push_of_some _ (N p hp).1, (N p hp).2⟩, ?_, ?_, ?_⟩
 . intro hI
   rcases List.mem_cons.mp hI with e | hI
   . exact absurd F.ns.lt (e ▸ Nat.lt_irrefl _)
   . exact hLa (List.mem_singleton.mp hI)
 . intro b hb'
   rw [List.mem_singleton.mp hb']
   exact next_is_new F
 . intro p hp hI
   exact absurd (Heap.lt_size (N p hp).1) ((List.mem_singleton.mp hI) ▸ Nat.lt_irrefl _)
 . exact ⟨⟨_, Heap.get?_push_size _ rfl, rfl, rfl⟩, hl.at fun o e => Heap.get?_push_of_some _ e⟩
 . exact rest₀ _ fun p hp => Heap.lt_size (N p hp).1
 . intro i v m₁ news₁ h₁ tk₁ own hin hPi hJ hoff hown hget hall hst₁ F₁ N₁
   have hv : vs[i]? = some v := by
     have : vs.toArray[i]? = some v := hPi
     simpa using this
   obtain ⟨it, hit, hic, _⟩ := hst₁.1
   have hI0 : h₀.get? s.heap.objs.size = none := next_is_new F
   have hiown := hall s.heap.objs.size (by simp) hI0 it hit
   have hdrop : (vs.map Itm.val).drop i = .val v :: (vs.map Itm.val).drop (i + 1) := by
     have hlt' : i < (vs.map Itm.val).length := by simpa using hin
     rw [List.drop_eq_getElem_cons hlt']
     congr 1
     have : (vs.map Itm.val)[i]? = some (.val v) := by simp [hv]
     exact Option.some.inj ((List.getElem?_eq_getElem hlt').symm.trans this)
   have hJ' : ItemsRest prog w A E h₀ env target body Q s [(s.heap.objs.size, "list_iterator")] [] (.val v :: (vs.map Itm.val).drop (i + 1)) m₁ news₁ := by rw [← hdrop]; exact hJ
   have N₂ : News h₀ env.locals h₁ ([(s.heap.objs.size, it)] ++ news₁) := fun p hp => by
     rcases List.mem_append.mp hp with hp | hp
     . rw [List.mem_singleton.mp hp]; exact N₁ _ (List.mem_append_left _ hiown)
     . exact N₁ _ (List.mem_append_right _ hp)
   have onlyI : ∀ p ∈ own, p = (s.heap.objs.size, it) := fun p hp => by
     rcases List.mem_cons.mp (hown p hp) with e | e
     . have := hget p hp
       rw [e, hit] at this
       exact Prod.ext e (Option.some.inj this).symm
     . have e' : p.1 = ax := List.mem_singleton.mp e
       have := (N₁ p (List.mem_append_left _ hp)).2.2
       rw [e', hlo] at this
       cases this
   have fin : ∀ s₃, UnrEndW h₀ env.locals { s with heap := h₁, toks := tk₁ } [(s.heap.objs.size, it)] (fun m' n' => SubL [] n' ∧ ItemsRest prog w A E h₀ env target body Q s [(s.heap.objs.size, "list_iterator")] [] ((vs.map Itm.val).drop (i + 1)) m' n') s₃ ->
       LoopStepU h₀ env.locals [s.heap.objs.size] own (fun m' n' => ItemsRest prog w A E h₀ env target body Q s [(s.heap.objs.size, "list_iterator")] [] ((vs.map Itm.val).drop (i + 1)) m' n') { s with heap := h₁, toks := tk₁ } .next s₃ := by
     rintro s₃ ⟨h', tk, m', news', e, F', N', ho, _, r⟩
     refine ⟨rfl, h', tk, m', news', e, F', fun p hp => ?_, fun p hp hI => ?_, r⟩
     . rcases List.mem_append.mp hp with hp | hp
       . rw [onlyI p hp]; exact N' _ (List.mem_append_left _ (.head _))
       . exact N' _ (List.mem_append_right _ hp)
     . exact ho p hp _ (.head _) (List.mem_singleton.mp hI)
   refine wpAny_mono ((hJ' v h₁ tk₁ rfl F₁).at (its := [(s.heap.objs.size, it)]) ⟨⟨rfl, hic⟩, trivial⟩ N₂) (fun _ s₂ h₂ => wpAny_mono h₂ (fun f s₃ p => ?_) fun _ _ e => e) fun _ _ e => e
   cases f with
   | ret v => exact .ret p
   | brk => exact .brk p
   | next => exact .next (fin _ p)
   | cont => exact .cont (fin _ p)
 . intro h' tk m' news' F' N' _ hJ
   have z : (vs.map Itm.val).drop vs.length = [] := List.drop_eq_nil_of_le (by simp)
   rw [z] at hJ
   exact hJ h' tk F' N'
end Cturns_base
theorem turns_base : ∀ {prog} {w} {A} {E} {s} {env} {h₀} {target} {body} {Q} {ax} {vs} {m₀} {news}, Qturns_base prog w A E s env h₀ target body Q ax vs m₀ news :=
 fun {prog} {w} {A} {E} {s} {env} {h₀} {target} {body} {Q} {ax} {vs} {m₀} {news} => drink nturns_base Pturns_base (by with_unfolding_all exact Cturns_base.main) ((((prog, w), (A, E)), ((s, env), h₀)), (((target, body), (Q, ax)), ((vs, m₀), news)))
section
variable {prog : Program} {w : World} {A : Around} {E : Value -> Shared -> Prop} {s : Shared} {env : Env} {h₀ : Heap} {target : Expr} {body : List Stmt} {Q : Flow -> Shared -> Prop}
end
theorem isl0 {h₀ : Heap} {a : Addr} {vs : List Value} {n : Nat} (e : h₀.get? a = some (lst vs n)) : h₀.IsList a vs.toArray := ⟨_, e, rfl, n, rfl⟩
theorem tup_of {h₀ h : Heap} {L a : Addr} {m : Str -> Option Value} {vs : List Value} {n : Nat} (F : Fr h₀ L h m) (e : h₀.get? a = some (tup vs n)) : IsTup h a vs.toArray := ⟨_, F.keep _ _ e, rfl, n, rfl⟩
theorem inst_of {h₀ h : Heap} {L x C dx : Addr} {m : Str -> Option Value} {od : Obj} {sl : Array (Option Value)} (F : Fr h₀ L h m) (h1 : h₀.get? x = some (⟨.ref C, some dx, .plain, sl⟩ : Obj)) (h2 : h₀.get? dx = some od) :
   InstAt h x ⟨.ref C, some dx, .plain, sl⟩ C (some od) := ⟨F.keep _ _ h1, rfl, rfl, F.keep _ _ h2⟩
def Halt (p : Prop) : Prop := p
theorem Halt.go {p : Prop} (h : Halt p) : p := h
theorem Halt.mk {p : Prop} (h : p) : Halt p := h
def WdAt (h : Heap) (v : Value) (u : Wd) : Prop := ∃ a, v = .ref a ∧ IsW h a u.1 u.2.1 u.2.2
def RlAt (h : Heap) (v : Value) (r : Rl) : Prop := ∃ p va vb n, v = .ref p ∧ h.get? p = some (tup [va, vb] n) ∧ WdAt h va r.1 ∧ WdAt h vb r.2
def AllAt {α : Type} (P : Heap -> Value -> α -> Prop) (h : Heap) (vs : List Value) (xs : List α) : Prop := vs.length = xs.length ∧ ∀ (k : Nat) v x, vs[k]? = some v -> xs[k]? = some x -> P h v x
theorem WdAt.keep {h h' : Heap} {v : Value} {u : Wd} (H : WdAt h v u) (k : Keeps h h') : WdAt h' v u := Exists.imp (fun _ => And.imp_right (·.keep k)) H
theorem RlAt.keep {h h' : Heap} {v : Value} {u : Rl} (H : RlAt h v u) (k : Keeps h h') : RlAt h' v u := Exists.imp (fun _ => Exists.imp fun _ => Exists.imp fun _ => Exists.imp fun _ => And.imp_right (And.imp (k _ _) (And.imp (·.keep k) (·.keep k)))) H
theorem AllAt.keep {α : Type} {P : Heap -> Value -> α -> Prop} {h h' : Heap} {vs : List Value} {xs : List α} (H : AllAt P h vs xs) (k : ∀ v x, P h v x -> P h' v x) : AllAt P h' vs xs := ⟨H.1, fun i v x a b => k v x (H.2 i v x a b)⟩
theorem AllAt.get {α : Type} {P : Heap -> Value -> α -> Prop} {h : Heap} {vs : List Value} {xs : List α} (H : AllAt P h vs xs) {k : Nat} (hk : k < vs.length) : ∃ v x, vs[k]? = some v ∧ xs[k]? = some x ∧ P h v x := by
 have hk' : k < xs.length := H.1 ▸ hk
 exact ⟨_, _, List.getElem?_eq_getElem hk, List.getElem?_eq_getElem hk', H.2 k _ _ (List.getElem?_eq_getElem hk) (List.getElem?_eq_getElem hk')⟩
theorem AllAt.nil {α : Type} {P : Heap -> Value -> α -> Prop} {h : Heap} : AllAt P h [] [] := ⟨rfl, fun k v x a _ => by simp at a⟩
theorem AllAt.push {α : Type} {P : Heap -> Value -> α -> Prop} {h : Heap} {vs : List Value} {xs : List α} (H : AllAt P h vs xs) {v : Value} {x : α} (hv : P h v x) : AllAt P h (vs ++ [v]) (xs ++ [x]) := by
 refine ⟨by simp [H.1], fun k v' x' a b => ?_⟩
 by_cases hk : k < vs.length
 . rw [List.getElem?_append_left hk] at a
   rw [List.getElem?_append_left (H.1 ▸ hk)] at b
   exact H.2 k _ _ a b
 . rw [List.getElem?_append_right (by lia)] at a
   rw [List.getElem?_append_right (by have := H.1; lia)] at b
   have : k - vs.length = 0 := by
     rcases Nat.eq_zero_or_pos (k - vs.length) with e | e
     . exact e
     . rw [List.getElem?_eq_none (by simp; lia)] at a; cases a
   rw [this] at a
   have e2 : k - xs.length = 0 := by have := H.1; lia
   rw [e2] at b
   simp at a b
   rw [← a, ← b]; exact hv
theorem IsW.out {h : Heap} {a : Addr} {x y z : Int} (H : IsW h a x y z) : ∃ vs n, h.get? a = some (lst vs n) ∧ h.IsList a vs.toArray ∧ IntsAre vs [x, y, z] := let ⟨_, _, _, n, e⟩ := H; ⟨_, n, e, ⟨_, e, rfl, n, rfl⟩, .cons _ _ (.cons _ _ (.cons _ _ .nil))⟩
theorem IsW.of {h : Heap} {a : Addr} {x y z : Int} {vs : List Value} {n : Nat} (e : h.get? a = some (lst vs n)) (i : IntsAre vs [x, y, z]) : IsW h a x y z := by
 obtain ⟨t0, t1, t2, rfl⟩ := ints3 i
 exact ⟨t0, t1, t2, n, e⟩
section
variable {prog : Program} {w : World} {A : Around} {E : Value -> Shared -> Prop} {s : Shared}
theorem len_lst {l : Addr} {vs : List Value} {Q : Value -> Shared -> Prop} (hl : s.heap.IsList l vs.toArray) (hfit : vs.length ≤ 1000)
   (h : Q (.int (vs.length : Int) (s.toks + 1)) { s with toks := s.toks + 1 + 1 }) : wpAny (model prog w) A (call (.builtin "len") [.ref l]) Q E s :=
 len_list hl (by simp only [List.size_toArray]; lia) (by simpa only [List.size_toArray] using h)
variable {n n2 : Str} {p p2 : Pos} {a : Addr} {l : List Value} {k : Int} {u : Tok} {x : Value} {Q : Value -> Shared -> Prop}
theorem itN (hl : s.heap.IsList a l.toArray) (hx : l[k.toNat]? = some x) (hk : 0 ≤ k ∧ k < 2 ^ 63) (h : Q x s) : wpAny (model prog w) A (subscriptTail (.Name n p) (.Name n2 p2) (.ref a) (.int k u)) Q E s := item_listL hl hk.1 hk.2 hx h
theorem itC {f : Expr} {as : List Expr} {ks : List Keyword} (hl : s.heap.IsList a l.toArray) (hx : l[k.toNat]? = some x) (hk : 0 ≤ k ∧ k < 2 ^ 63) (h : Q x s) : wpAny (model prog w) A (subscriptTail (.Name n p) (.Call f as ks p2) (.ref a) (.int k u)) Q E s := item_listL hl hk.1 hk.2 hx h
theorem itK {c : Const} {j : Nat} (hl : s.heap.IsList a l.toArray) (hx : l[k.toNat]? = some x) (hk : 0 ≤ k ∧ k < 2 ^ 63) (h : Q x s) : wpAny (model prog w) A (subscriptTail (.Name n p) (.Constant c j p2) (.ref a) (.int k u)) Q E s := item_listL hl hk.1 hk.2 hx h
end
theorem ltM {qD qA : Addr} {qo : Obj} {ql : List (Addr × Obj)} (h : AllLt qD ql) (m : (qA, qo) ∈ ql) : @LT.lt Nat _ qA qD := by
 induction ql with
 | nil => cases m
 | cons p l i => cases m with
   | head => exact h.1
   | tail _ m => exact i h.2 m
theorem neM {qD qA : Addr} {qo : Obj} {ql : List (Addr × Obj)} (h : AllLt qD ql) (m : (qA, qo) ∈ ql) : @Ne Nat qA qD := Nat.ne_of_lt (ltM h m)
theorem neM' {qD qA : Addr} {qo : Obj} {ql : List (Addr × Obj)} (h : AllLt qD ql) (m : (qA, qo) ∈ ql) : @Ne Nat qD qA := Nat.ne_of_gt (ltM h m)
end
end Mine
end
noncomputable section
example : True := by w_top off; trivial
open PySem PySem.W PySem.W.X PyProof.Rows PySem.Calls PySem.Spec
namespace Mine
def Has (tl : List (Addr × Obj)) (h : Heap) : Prop := ∀ q ∈ tl, h.get? q.1 = some q.2
def IsSeq (o : Obj) : Prop := ∃ vs n, o = lst vs n ∨ o = tup vs n
def KeepsSeq (muts : List Addr) (h h' : Heap) : Prop := ∀ b o, IsSeq o -> b ∉ muts -> h.get? b = some o -> h'.get? b = some o
def KS (h h' : Heap) : Prop := ∀ b o, IsSeq o -> h.get? b = some o -> h'.get? b = some o
theorem KS.of {h h' : Heap} (k : Keeps h h') : KS h h' := fun b o _ e => k b o e
theorem KS.trans {h h' h'' : Heap} (k : KS h h') (k' : KS h' h'') : KS h h'' := fun b o s e => k' b o s (k b o s e)
theorem KeepsSeq.ks {h h' : Heap} (k : KeepsSeq [] h h') : KS h h' := fun b o s e => k b o s (by simp) e
theorem KeepsSeq.hide {muts : List Addr} {h h' : Heap} (k : KeepsSeq muts h h') : KS (hideAll h muts) (hideAll h' muts) := fun b o s e => by
 have hb : b ∉ muts := fun q => by rw [hideAll_none _ q] at e; cases e
 exact hideAll_get _ (k b o s hb (of_hideAll _ e)) hb
theorem KS.hidden {muts : List Addr} {h : Heap} : KS (hideAll h muts) h := fun _ _ _ e => of_hideAll _ e
theorem isSeq_lst {vs : List Value} {n : Nat} : IsSeq (lst vs n) := ⟨vs, n, .inl rfl⟩
theorem isSeq_tup {vs : List Value} {n : Nat} : IsSeq (tup vs n) := ⟨vs, n, .inr rfl⟩
theorem IsW.ks {h h' : Heap} {a : Addr} {x y z : Int} (H : IsW h a x y z) (k : KS h h') : IsW h' a x y z := let ⟨a, b, c, d, e⟩ := H; ⟨a, b, c, d, k _ _ isSeq_lst e⟩
theorem WdAt.ks {h h' : Heap} {v : Value} {u : Wd} (H : WdAt h v u) (k : KS h h') : WdAt h' v u := let ⟨a, e, H⟩ := H; ⟨a, e, H.ks k⟩
theorem RlAt.ks {h h' : Heap} {v : Value} {u : Rl} (H : RlAt h v u) (k : KS h h') : RlAt h' v u := let ⟨a, b, c, n, e, g, H, H'⟩ := H; ⟨a, b, c, n, e, k _ _ isSeq_tup g, H.ks k, H'.ks k⟩
theorem IsW.hide {h : Heap} {a : Addr} {x y z : Int} {l : List Addr} (H : IsW h a x y z) (n : a ∉ l) : IsW (hideAll h l) a x y z := let ⟨a, b, c, d, e⟩ := H; ⟨a, b, c, d, hideAll_get _ e n⟩
theorem IsW.ne {h : Heap} {a b : Addr} {x y z : Int} (H : IsW h a x y z) (n : h.get? b = none) : a ≠ b := fun q => by
 obtain ⟨_, _, _, _, e⟩ := H
 rw [q, n] at e; cases e
theorem swallow {h₀ h : Heap} {L : Addr} {m : Str -> Option Value} (F : Fr h₀ L h m) (muts : List Addr) :
   ∃ tl, News h₀ L h tl ∧ (∀ q ∈ tl, q.1 ∉ muts) ∧ ∀ h₂, Keeps h₀ h₂ -> Has tl h₂ -> KeepsSeq muts h h₂ := by
 have key : ∀ q ∈ (((List.range h.objs.size).filterMap fun b => (h.get? b).map (Prod.mk b)).filter fun q => decide (h₀.get? q.1 = none ∧ q.1 ≠ L ∧ q.1 ∉ muts) : List (Addr × Obj)), h.get? q.1 = some q.2 ∧ h₀.get? q.1 = none ∧ q.1 ≠ L ∧ q.1 ∉ muts := fun q hq => by
   obtain ⟨m, c⟩ := List.mem_filter.mp hq
   obtain ⟨b, _, e⟩ := List.mem_filterMap.mp m
   obtain ⟨o, e1, rfl⟩ := Option.map_eq_some_iff.mp e
   exact ⟨e1, of_decide_eq_true c⟩
 refine ⟨_, fun q hq => ⟨(key q hq).1, (key q hq).2.2.1, (key q hq).2.1⟩, fun q hq => (key q hq).2.2.2, ?_⟩
 . intro h₂ k0 kt b o s hb e
   cases e0 : h₀.get? b with
   | some o' =>
     have := F.keep _ _ e0
     rw [e] at this
     cases this
     exact k0 _ _ e0
   | none =>
     have hbL : b ≠ L := fun q => by
       obtain ⟨oL, es, ep, hL, hLd, _, _⟩ := F.ns
       rw [q, hL] at e
       cases e
       obtain ⟨vs, n, rfl | rfl⟩ := s <;> cases hLd
     exact kt (b, o) (List.mem_filter.mpr ⟨List.mem_filterMap.mpr ⟨b, List.mem_range.mpr (Heap.lt_size e), by rw [e]; rfl⟩, decide_eq_true ⟨e0, hbL, hb⟩⟩)
theorem KeepsSeq.all {muts : List Addr} {h h' : Heap} (k : KeepsSeq muts h h') (no : ∀ a ∈ muts, ∀ o, h.get? a = some o -> ¬ IsSeq o) : KS h h' := fun b o s e => k b o s (fun hb => no b hb o e s) e
theorem News.app {h₀ h : Heap} {L : Addr} {a b : List (Addr × Obj)} (N : News h₀ L h a) (N' : News h₀ L h b) : News h₀ L h (a ++ b) := fun q hq => (List.mem_append.mp hq).elim (N q) (N' q)
theorem News.sub' {h₀ h : Heap} {L : Addr} {a b : List (Addr × Obj)} (N : News h₀ L h a) (s : ∀ p ∈ b, p ∈ a) : News h₀ L h b := fun p hp => N p (s p hp)
theorem no_cell {o : Obj} {v : Option Value} (d : o.data = .cell v) : ¬ IsSeq o := by
 rintro ⟨vs, n, rfl | rfl⟩ <;> cases d
theorem ne_none {h : Heap} {a b : Addr} {o : Obj} (e : h.get? a = some o) (n : h.get? b = none) : b ≠ a := fun q => by rw [q, e] at n; cases n
section
variable {prog : Program} {w : World} {A₀ A : Around} {s : Shared} {base h₀ : Heap} {outer : List Env} {L : Addr} {m mg mb : Str -> Option Value} {env : Env} {K : Frag} {p : Program} {loose : List Str} {mean : ExcName -> Option Value}
 {R : Result -> Shared -> Prop} {name qual : Str} {params : Arguments} {body : List Stmt} {scope : Scope} {dV kV doc pm cdv ct oc : Value} {an od : Option Addr} {osl : Array (Option Value)} {f : Addr} {args : Args} {binds : List (Str × Value)} {news : List (Addr × Obj)}
theorem enter_plainM (B : Below A₀ base outer h₀) (F : Fr h₀ L s.heap m) (N : News h₀ L s.heap news) (X₀ : K.In h₀) (T : Top p loose mean mg mb h₀) (hA : A.frames = some (env :: outer)) (hf : env.frame = some L) (hke : env.scope.kind = .function)
   (ho : K.lookup f = some ⟨oc, od, .func (fnOf name qual params body scope dV kV doc pm an cdv ct), osl⟩) (hcd : codeIn K cdv qual = true) (hroom : A.depth < recursionLimit)
   (hbind : BindsTo s (fnOf name qual params body scope dV kV doc pm an cdv ct) args binds) (hloc : ∀ y ∈ binds, scope.names.lookup y.1 = some .local)
   (h : ∀ g L' h₁, g = hideAll s.heap (news.map (·.1)) -> Fr g L' h₁ (fun y => binds.reverse.lookup y) -> News g L' h₁ news -> Below A base (env :: outer) g -> K.In g -> Top p loose mean mg mb g ->
     wpAny (model prog w) (A.deeper (envOf qual scope L' f cdv)) (execs body (envOf qual scope L' f cdv))
       (fun fl s' => LeaveK h₀ L m g R (match fl with | .ret v => v | _ => .none) s')
       (fun e s' => wpAny (model prog w) (A.deeper (envOf qual scope L' f cdv)) («leaving» (envOf qual scope L' f cdv) e) (fun _ s'' => R (.error e) s'') (fun e' s'' => R (.error e') s'') s')
       { s with heap := h₁, toks := s.toks + binds.length })
   (hco : scope.isCoroutine = false) (hgen : scope.isGenerator = false) (hk : scope.kind = .function) (hcell : ∀ x ∈ scope.names, x.2 ≠ .cell) : codeAny (model prog w) A (.call (.ref f) args) R s := by
 have G := groundX (R := R) B F N hA hf hke
 obtain ⟨_, BG, st, lv⟩ := G
 refine codeAny_call_def (fd := fnOf name qual params body scope dV kV doc pm an cdv ct) (body := body) (binds := binds) hroom (F.keep _ _ (X₀ _ _ ho)) rfl (T.nolimit.keeps F.keep) (codeRec_of (X₀.keeps F.keep) hcd) rfl hbind hcell hloc (fun h₁ hns hk₁ => ?_) hco hgen hk
 exact wpAny_mono (h _ s.heap.objs.size h₁ rfl ⟨hns, fun b o e => hk₁ b o (of_hideAll _ e), Nat.le_of_eq (hideAll_size _ _)⟩ (fun p hp => ⟨hk₁ _ _ (N p hp).1, Nat.ne_of_lt (Heap.lt_size (N p hp).1), hideAll_none _ (List.mem_map_of_mem hp)⟩) BG (X₀.keeps st) (T.keeps st)) (fun fl s' hl => lv _ _ hl) fun _ _ y => y
end
end Mine
end
noncomputable section
example : True := by w_top off; trivial
open PySem PySem.W PySem.W.X PyProof.Rows PySem.Calls PySem.Spec
namespace Mine
section
variable {prog : Program} {w : World} {A₀ A : Around} {s : Shared} {base h₀ : Heap} {outer : List Env} {L : Addr} {m mg mb : Str -> Option Value} {env : Env} {K : Frag} {p : Program} {loose : List Str} {mean : ExcName -> Option Value}
 {R : Result -> Shared -> Prop} {name qual : Str} {params : Arguments} {body : List Stmt} {scope : Scope} {dV kV doc pm cdv ct oc : Value} {an od : Option Addr} {osl : Array (Option Value)} {f : Addr} {args : Args} {binds : List (Str × Value)} {news : List (Addr × Obj)}
theorem hide_none {h : Heap} {l : List Addr} {b : Addr} (e : h.get? b = none) : (hideAll h l).get? b = none := by
 cases q : (hideAll h l).get? b with
 | none => rfl
 | some o => rw [of_hideAll _ q] at e; cases e
theorem enter_cellsM (B : Below A₀ base outer h₀) (F : Fr h₀ L s.heap m) (N : News h₀ L s.heap news) (X₀ : K.In h₀) (T : Top p loose mean mg mb h₀) (hA : A.frames = some (env :: outer)) (hf : env.frame = some L) (hke : env.scope.kind = .function)
   (ho : K.lookup f = some ⟨oc, od, .func (fnOf name qual params body scope dV kV doc pm an cdv ct), osl⟩) (hcd : codeIn K cdv qual = true) (hroom : A.depth < recursionLimit)
   (hbind : BindsTo s (fnOf name qual params body scope dV kV doc pm an cdv ct) args binds) (hkind : (binds.all fun y => scope.names.lookup y.1 == some .local || scope.names.lookup y.1 == some .cell) = true)
   (hnd : ((cellsFrom 0 scope.names []).map (·.1)).Nodup)
   (h : ∀ g L' h₁ tk cells, g = hideAll s.heap (news.map (·.1)) -> Fr g L' h₁ (bindL (envOfC qual scope L' f cdv).kindOf binds fun _ => none) -> News g L' h₁ (cells ++ news) ->
     CellsAre (bindC (envOfC qual scope L' f cdv).kindOf binds fun _ => none) (cellsFrom (L' + 1) scope.names []) cells -> (∀ q ∈ news, q.1 < L') -> Below A base (env :: outer) g -> K.In g -> Top p loose mean mg mb g ->
     wpAny (model prog w) (A.deeper (envOfC qual scope L' f cdv)) (execs body (envOfC qual scope L' f cdv))
       (fun fl s' => LeaveK h₀ L m g R (match fl with | .ret v => v | _ => .none) s')
       (fun e s' => wpAny (model prog w) (A.deeper (envOfC qual scope L' f cdv)) («leaving» (envOfC qual scope L' f cdv) e) (fun _ s'' => R (.error e) s'') (fun e' s'' => R (.error e') s'') s')
       { s with heap := h₁, toks := tk })
   (hco : scope.isCoroutine = false) (hgen : scope.isGenerator = false) (hk : scope.kind = .function) : codeAny (model prog w) A (.call (.ref f) args) R s := by
 have G := groundX (R := R) B F N hA hf hke
 obtain ⟨_, BG, st, lv⟩ := G
 refine codeAny_call_function hroom (F.keep _ _ (X₀ _ _ ho)) rfl hco hgen rfl (codeRec_of (X₀.keeps F.keep) hcd) (hbind _ _ _ _ ?_)
 refine wpAny_newFunctionEnv_cells hk (kindsX hkind _) fun env' he s' x => ?_
 subst he
 refine ⟨(T.nolimit.keeps F.keep).keeps x.toInCall.keep, codeAny_func ?_⟩
 obtain ⟨h₁, tk, rfl, _⟩ := x.done
 have hk₁ := x.toInCall.keep
 obtain ⟨cells, NC, Y⟩ := Cl.news (h₀ := s.heap) (Nat.le_refl _) fun n c hm => ⟨x.cell n c (lookup_of_mem_nodup (cellsFrom_names scope.names 0 (s.heap.objs.size + 1) [] [] rfl ▸ hnd) hm), x.above n c hm⟩
 refine wpAny_mono (h _ s.heap.objs.size h₁ tk cells rfl ⟨x.toInCall.ns, fun b o e => hk₁ b o (of_hideAll _ e), Nat.le_of_eq (hideAll_size _ _)⟩ (fun q hq => ?_) Y (fun q hq => Heap.lt_size (N q hq).1) BG (X₀.keeps st) (T.keeps st)) (fun fl s' hl => lv _ _ hl) fun _ _ y => y
 rcases List.mem_append.mp hq with hq | hq
 . exact ⟨(NC q hq).1, (NC q hq).2.1, hide_none (NC q hq).2.2⟩
 . exact ⟨hk₁ _ _ (N q hq).1, Nat.ne_of_lt (Heap.lt_size (N q hq).1), hideAll_none _ (List.mem_map_of_mem hq)⟩
end
section
variable {M : Model} {A : Around} {E : Value -> Shared -> Prop} {s : Shared}
theorem newEnv_one {scope : Scope} {globals : Addr} {clos : List (Str × Addr)} {x : Str} {v : Value} {qual : Str} {func : Option Addr} {code : Value} {builtins : Addr} {Q : Env -> Shared -> Prop}
   (hk : scope.kind = .function) (hcells : ∀ n acc, cellsFrom n scope.names acc = (x, n) :: acc) (hpush : ∀ h, pushCells h scope.names = h.push { cls := .type "cell", data := .cell none }) (hl : scope.names.lookup x = some .cell)
   (hQ : ∀ h' tk o, (∀ b o, s.heap.get? b = some o -> h'.get? b = some o) -> h'.Ns s.heap.objs.size (fun _ => none) -> h'.get? (s.heap.objs.size + 1) = some o -> o.data = .cell (some v) ->
     Q (newEnv scope s.heap.objs.size globals ((x, s.heap.objs.size + 1) :: clos) qual func code none builtins) { s with heap := h', toks := tk }) :
   wpAny M A (newFunctionEnv scope globals clos [(x, v)] qual func code none builtins) Q E s := by
 simp only [newFunctionEnv, Option.isSome_none, Bool.false_eq_true, if_false]
 refine wpAny_bind (wpAny_alloc ?_)
 refine wpAny_bind (wpAny_layCells _ (fun name kind cells => by cases hkc : kind == NameKind.cell <;> simp [hkc]) _ _ _ _ ?_)
 rw [show ({ s with heap := s.heap.push { cls := .type "frame", data := .dict #[] } } : Shared).heap.objs.size = s.heap.objs.size + 1 from Heap.size_push .., hcells, hpush]
 generalize hH : s.heap.push { cls := .type "frame", data := .dict #[] } = H
 have eH : H.objs.size = s.heap.objs.size + 1 := by rw [← hH, Heap.size_push]
 rw [List.forIn_cons]
 have hc : (H.push { cls := .type "cell", data := .cell none }).IsCell (s.heap.objs.size + 1) none := ⟨_, by rw [← eH]; exact Heap.get?_push_size _ rfl, rfl⟩
 refine wpAny_bind ?_
 refine wpAny_bind ?_
 refine wpAny_bind ?_
 show wpAny M A (storeName (newEnv scope s.heap.objs.size globals ((x, s.heap.objs.size + 1) :: clos) qual func code none builtins) x v) _ E _
 refine wpAny_storeName_cell (c := s.heap.objs.size + 1) hk hl (by simp [newEnv]) hc fun h' hc' hs' => wpAny_pure ?_
 show wpAny _ _ (forIn [] _ _) _ _ _
 rw [List.forIn_nil]
 refine wpAny_pure (wpAny_pure ?_)
 obtain ⟨o, ho, hd⟩ := hc'
 have old : ∀ b o, s.heap.get? b = some o -> h'.get? b = some o := fun b o e => hs'.extBut b o (Nat.ne_of_lt (Nat.lt_succ_of_lt (Heap.lt_size e))) (Heap.get?_push_of_some _ (hH ▸ Heap.get?_push_of_some _ e))
 exact hQ h' _ o old (((Heap.Ns.new s.heap (.type "frame")).keeps fun b o e => Heap.get?_push_of_some _ (hH ▸ e)).sameBut hs' (Nat.ne_of_lt (Nat.lt_succ_self _))) ho hd
end
section
variable {prog : Program} {w : World} {A A₀ : Around} {s : Shared} {K : Frag} {L : Addr} {h₀ base : Heap} {m mg mb : Str -> Option Value} {news : List (Addr × Obj)} {p : Program} {loose : List Str} {mean : ExcName -> Option Value}
theorem lam_code {env : Env} {outer : List Env} {R : Result -> Shared -> Prop} {name qual x : Str} {v : Value} {params : Arguments} {body : Expr} {scope : Scope} {cl : List (Str × Addr)} {pm ctv : Value} {c' : Addr} {f : Addr} {args : Args}
   (B : Below A₀ base outer h₀) (F : Fr h₀ L s.heap m) (X₀ : K.In h₀) (N : News h₀ L s.heap news) (T : Top p loose mean mg mb h₀) (hA : A.frames = some (env :: outer)) (hf : env.frame = some L) (hke : env.scope.kind = .function)
   (ho : (f, kla_obj name qual params body scope cl pm c' ctv) ∈ news) (hcd : s.heap.CodeRec (.ref c') qual) (hroom : A.depth < recursionLimit)
   (hbind : bindArgs (kla_fn name qual params body scope cl pm (.ref c') ctv) args = pure [(x, v)])
   (hcells : ∀ n acc, cellsFrom n scope.names acc = (x, n) :: acc) (hpush : ∀ h, pushCells h scope.names = h.push { cls := .type "cell", data := .cell none }) (hl : scope.names.lookup x = some .cell)
   (h : ∀ g L' h₁ tk oc, Fr g L' h₁ (fun _ => none) -> oc.data = .cell (some v) -> News g L' h₁ ((L' + 1, oc) :: news) -> (∀ q ∈ news, q.1 < L') -> Below A base (env :: outer) g -> K.In g -> Top p loose mean mg mb g -> g = hideAll s.heap (news.map (·.1)) ->
     wpAny (model prog w) (A.deeper (envX qual scope L' f (.ref c') ((x, L' + 1) :: cl))) (eval body (envX qual scope L' f (.ref c') ((x, L' + 1) :: cl)))
       (fun v s' => LeaveK h₀ L m g R v s')
       (fun e s' => wpAny (model prog w) (A.deeper (envX qual scope L' f (.ref c') ((x, L' + 1) :: cl))) («leaving» (envX qual scope L' f (.ref c') ((x, L' + 1) :: cl)) e) (fun _ s'' => R (.error e) s'') (fun e' s'' => R (.error e') s'') s')
       { s with heap := h₁, toks := tk })
   (hco : scope.isCoroutine = false) (hgen : scope.isGenerator = false) (hk : scope.kind = .function) : codeAny (model prog w) A (.call (.ref f) args) R s := by
 obtain ⟨FG, BG, st, lv⟩ := groundX (R := R) B F N hA hf hke
 refine kla_callFunE hroom (N _ ho).1 rfl hco hgen rfl hcd ?_
 rw [hbind]
 refine wpAny_pure (newEnv_one hk hcells hpush hl fun h₁ tk o hk₁ hns ho' hd => ⟨((T.nolimit).keeps F.keep).keeps hk₁, ?_⟩)
 show codeAny _ _ (.expr body (envX qual scope s.heap.objs.size f (.ref c') ((x, s.heap.objs.size + 1) :: cl))) _ _
 refine kla_codeExpr (wpAny_mono (h _ s.heap.objs.size h₁ tk o ⟨hns, fun b o e => hk₁ b o (of_hideAll _ e), Nat.le_of_eq (hideAll_size _ _)⟩ hd
   (fun q hq => ?_) (fun q hq => Heap.lt_size (N q hq).1) BG (X₀.keeps st) (T.keeps st) rfl) (fun v s' hl => lv _ _ hl) fun _ _ y => y)
 rcases List.mem_cons.mp hq with rfl | hq
 . exact ⟨ho', Nat.ne_of_gt (Nat.lt_succ_self _), hide_none (Heap.get?_none_of_le (Nat.le_succ _))⟩
 . exact ⟨hk₁ _ _ (N q hq).1, Nat.ne_of_lt (Heap.lt_size (N q hq).1), hideAll_none _ (List.mem_map_of_mem hq)⟩
end
end Mine
end
noncomputable section
example : True := by w_top off; trivial
open PySem PySem.W PySem.W.X PyProof.Rows PySem.Calls PySem.Spec
namespace Mine
theorem compTurn_two0 (elt target iter target2 iter2 : Expr) (scope : Scope) (pos : Pos) (it acc : Value) (env : Env) :
   compTurn (.ListComp elt [⟨target, iter, [], 0⟩, ⟨target2, iter2, [], 0⟩] scope pos) 0 it acc env = (standAt iter.pos >>= fun _ => pyNext it >>= fun r => match r with
     | none => pure (.done .next)
     | some v => letOwnedTupleGo target it v >>= fun _ => assign target env v >>= fun _ =>
       eval iter2 env >>= fun x => standAt iter2.pos >>= fun _ => foldedSetIterable iter2 env x >>= fun x => holding [x] (pyIter x) >>= fun it2 =>
         runOwn (.compStart (.ListComp elt [⟨target, iter, [], 0⟩, ⟨target2, iter2, [], 0⟩] scope pos) 1 it2 acc env) env >>= fun _ =>
         again (.compLoop (.ListComp elt [⟨target, iter, [], 0⟩, ⟨target2, iter2, [], 0⟩] scope pos) 0 it acc env)) := by rfl
theorem compTurn_two1 (elt target iter target2 iter2 : Expr) (scope : Scope) (pos : Pos) (it acc : Value) (env : Env) :
   compTurn (.ListComp elt [⟨target, iter, [], 0⟩, ⟨target2, iter2, [], 0⟩] scope pos) 1 it acc env = (standAt iter2.pos >>= fun _ => pyNext it >>= fun r => match r with
     | none => pure (.done .next)
     | some v => letOwnedTupleGo target2 it v >>= fun _ => assign target2 env v >>= fun _ =>
       (eval elt env >>= fun x => call (.builtin "list.append") [acc, x] >>= fun _ => pure ()) >>= fun _ =>
         again (.compLoop (.ListComp elt [⟨target, iter, [], 0⟩, ⟨target2, iter2, [], 0⟩] scope pos) 1 it acc env)) := by rfl
section
variable {prog : Program} {w : World} {A : Around} {E : Value -> Shared -> Prop} {R : Result -> Shared -> Prop} {s : Shared}
noncomputable abbrev LC2 (elt iter iter2 : Expr) (x y : Str) (px py : Pos) (scope : Scope) (pos : Pos) : Expr := .ListComp elt [⟨.Name x px, iter, [], 0⟩, ⟨.Name y py, iter2, [], 0⟩] scope pos
theorem two_start {elt iter iter2 : Expr} {x y : Str} {px py : Pos} {scope : Scope} {pos : Pos} {it acc : Value} {env : Env} {d : Nat}
   (h0 : codeAny (model prog w) A (.compLoop (LC2 elt iter iter2 x y px py scope pos) d it acc env) R s)
   (h : wpAny (model prog w) A (pyIter it) (fun it' s' => codeAny (model prog w) A (.compLoop (LC2 elt iter iter2 x y px py scope pos) d it' acc env) R s')
     (notedBy (model prog w) A env fun x s' => R (.error x) s') s) (hd : d = 0 ∨ d = 1) :
   codeAny (model prog w) A (.compStart (LC2 elt iter iter2 x y px py scope pos) d it acc env) R s := by
 rcases hd with rfl | rfl
 all_goals
   refine codeAny_of_tree ?_
   show wpAny _ _ ((compStart _ _ it acc env).onRaise (fun x => do noteFrame x env; standAt theWindowsPlace)) _ _ s
   refine wpAny_notedAt ?_
   unfold compStart
   show wpAny _ _ (ask >>= _) _ _ s
   refine wpAny_bind (wpAny_askSetting (wpAny_ite ?_))
   split
   . first
       | exact wpAny_bind (wpAny_pure (wpAny_pure (And.intro rfl h0)))
       | exact wpAny_pure (And.intro rfl h0)
   . first
       | exact wpAny_bind (wpAny_rule (wpAny_bind (wpAny_standAt (wpAny_bind (wpAny_mono h (fun it' s' h' => wpAny_pure (And.intro rfl h')) fun _ _ x => x)))))
       | (refine wpAny_bind (wpAny_rule ?_); show wpAny _ _ (standAt _ >>= _) _ _ s; exact wpAny_bind (wpAny_standAt (wpAny_bind (wpAny_mono h (fun it' s' h' => wpAny_pure (And.intro rfl h')) fun _ _ x => x))))
theorem two_inner {elt iter iter2 : Expr} {x y : Str} {px py : Pos} {scope : Scope} {pos : Pos} {it acc : Value} {env : Env} (I : Nat -> Shared -> Prop)
   (turn : ∀ n s, I n s -> wpAny (model prog w) A (pyNext it) (fun r s₁ => match r with
     | none => R (.ok .next) s₁
     | some v => wpAny (model prog w) A (assign (.Name y py) env v) (fun _ s₂ => wpAny (model prog w) A (eval elt env) (fun x s₃ =>
         wpAny (model prog w) A (call (.builtin "list.append") [acc, x]) (fun _ s₄ => ∃ m, m < n ∧ I m s₄) (notedBy (model prog w) A env fun e s' => R (.error e) s') s₃)
         (notedBy (model prog w) A env fun e s' => R (.error e) s') s₂) (notedBy (model prog w) A env fun e s' => R (.error e) s') s₁) (notedBy (model prog w) A env fun e s' => R (.error e) s') s)
   (n : Nat) (h : I n s) : codeAny (model prog w) A (.compLoop (LC2 elt iter iter2 x y px py scope pos) 1 it acc env) R s := by
 refine codeAny_loop rfl I (fun n s hI => ?_) n h
 show wpAny _ _ ((compTurn (LC2 elt iter iter2 x y px py scope pos) 1 it acc env).onRaise (fun x => do noteFrame x env; theTreesLotGoes x)) _ _ s
 refine wpAny_noted ?_
 rw [compTurn_two1]
 refine wpAny_bind (wpAny_standAt (wpAny_bind (wpAny_mono (turn n s hI) (fun r s₁ h₁ => ?_) fun _ _ h' => h')))
 cases r with
 | none => exact wpAny_pure h₁
 | some v =>
   refine wpAny_bind (wpAny_of_eq rfl ?_)
   exact wpAny_bind (wpAny_mono h₁ (fun _ s₂ h₂ => wpAny_bind (wpAny_bind (wpAny_mono h₂ (fun x s₃ h₃ => wpAny_bind (wpAny_mono h₃
     (fun _ s₄ h₄ => wpAny_pure (wpAny_pure ⟨rfl, h₄⟩)) fun _ _ h' => h')) fun _ _ h' => h'))) fun _ _ h' => h')
theorem two_outer {elt iter iter2 : Expr} {x y : Str} {px py : Pos} {scope : Scope} {pos : Pos} {it acc : Value} {env : Env} (I : Nat -> Shared -> Prop)
   (hs : ∀ v, foldedSetIterable iter2 env v = pure v)
   (turn : ∀ n s, I n s -> wpAny (model prog w) A (pyNext it) (fun r s₁ => match r with
     | none => R (.ok .next) s₁
     | some v => wpAny (model prog w) A (assign (.Name x px) env v) (fun _ s₂ => wpAny (model prog w) A (eval iter2 env) (fun xv s₃ =>
         wpAny (model prog w) A (pyIter xv) (fun it2 s₄ => codeAny (model prog w) A (.compStart (LC2 elt iter iter2 x y px py scope pos) 1 it2 acc env) (fun r s₅ => match r with
           | .ok _ => ∃ m, m < n ∧ I m s₅ | .error e => cameBackBy (model prog w) A env (notedBy (model prog w) A env fun e s' => R (.error e) s') e s₅) s₄) (notedBy (model prog w) A env fun e s' => R (.error e) s') s₃)
         (notedBy (model prog w) A env fun e s' => R (.error e) s') s₂) (notedBy (model prog w) A env fun e s' => R (.error e) s') s₁) (notedBy (model prog w) A env fun e s' => R (.error e) s') s)
   (n : Nat) (h : I n s) : codeAny (model prog w) A (.compLoop (LC2 elt iter iter2 x y px py scope pos) 0 it acc env) R s := by
 refine codeAny_loop rfl I (fun n s hI => ?_) n h
 show wpAny _ _ ((compTurn (LC2 elt iter iter2 x y px py scope pos) 0 it acc env).onRaise (fun x => do noteFrame x env; theTreesLotGoes x)) _ _ s
 refine wpAny_noted ?_
 rw [compTurn_two0]
 refine wpAny_bind (wpAny_standAt (wpAny_bind (wpAny_mono (turn n s hI) (fun r s₁ h₁ => ?_) fun _ _ h' => h')))
 cases r with
 | none => exact wpAny_pure h₁
 | some v =>
   refine wpAny_bind (wpAny_of_eq rfl ?_)
   refine wpAny_bind (wpAny_mono h₁ (fun _ s₂ h₂ => wpAny_bind (wpAny_mono h₂ (fun xv s₃ h₃ => wpAny_bind (wpAny_standAt (wpAny_bind (wpAny_of_eq (hs xv) (wpAny_bind (wpAny_holding (wpAny_mono h₃ (fun it2 s₄ h₄ => ?_) fun _ _ h' => h'))))))) fun _ _ h' => h')) fun _ _ h' => h')
   refine wpAny_bind (wpAny_runOwn ?_)
   rw [Around.mark_none]
   refine codeAny_mono h₄ fun r s₅ h₅ => ?_
   cases r with
   | ok f => exact wpAny_pure ⟨rfl, h₅⟩
   | error e => exact h₅
end
end Mine
end
noncomputable section
example : True := by w_top off; trivial
open PySem PySem.W PySem.W.X PyProof.Rows PySem.Calls PySem.Spec
namespace Mine
noncomputable section
open LCg (NsObj lst_snoc ns_obj)
def Off (as : List Addr) (news : List (Addr × Obj)) : Prop := ∀ p ∈ news, p.1 ∉ as
section
variable {prog : Program} {w : World} {A : Around} {E : Value -> Shared -> Prop} {s : Shared} {h₀ : Heap} {L : Addr} {m : Str -> Option Value} {env : Env}
def End2 (h₀ : Heap) (L : Addr) (m : Str -> Option Value) (s₁ : Shared) (own : List (Addr × Obj)) (rest : Value -> List (Addr × Obj) -> Prop) (v : Value) (s₂ : Shared) : Prop :=
 ∃ h' tk news', s₂ = { s₁ with heap := h', toks := tk } ∧ Fr h₀ L h' m ∧ News h₀ L h' (own ++ news') ∧ Off (own.map (·.1)) news' ∧ rest v news'
def Turn2 (prog : Program) (w : World) (A : Around) (h₀ : Heap) (L : Addr) (m : Str -> Option Value) (env : Env) (s : Shared) (elt : Expr) (x y : Str) (scope : Scope) (cl : List (Str × Addr)) (vx : Value) (J2 : Nat -> List Value -> List (Addr × Obj) -> Prop) (n2 : Nat) (a2 c2 : Int) : Prop :=
 ∀ j ys news I2 oI2 I oI C oC D m₂ h tk (E' : Value -> Shared -> Prop), j < n2 -> J2 j ys news -> NsObj oC m₂ -> m₂ x = some vx -> (∃ t, m₂ y = some (.int (a2 + (j : Nat) * c2) t)) -> Fr h₀ L h m ->
   News h₀ L h ([(I2, oI2), (I, oI), (C, oC), (D, LCg.lst ys)] ++ news) -> Off [I2, I, C, D] news -> [I2, I, C, D].Nodup ->
   wpAny (model prog w) A (eval elt (compEnvC scope cl C env)) (End2 h₀ L m { s with heap := h, toks := tk } [(I2, oI2), (I, oI), (C, oC), (D, LCg.lst ys)] (fun v news' => J2 (j + 1) (ys ++ [v]) news')) E' { s with heap := h, toks := tk }
def Src2 (prog : Program) (w : World) (A : Around) (h₀ : Heap) (L : Addr) (m : Str -> Option Value) (env : Env) (s : Shared) (elt : Expr) (x y : Str) (scope : Scope) (cl : List (Str × Addr)) (vx : Value) (J1 : List Value -> List (Addr × Obj) -> Prop) (own : List (Addr × Obj)) (ys : List Value) (xv : Value) (s₁ : Shared) : Prop :=
 ∃ r2 a2 b2 c2 t u v n2 h tk news', xv = .ref r2 ∧ s₁ = { s with heap := h, toks := tk } ∧ Fr h₀ L h m ∧ News h₀ L h (own ++ news') ∧ Off (own.map (·.1)) news' ∧ IsRange h r2 a2 b2 c2 t u v ∧ Builtin.Range.small a2 b2 c2 = true ∧
   Builtin.Range.rangeSize a2 b2 c2 = ((n2 : Nat) : Int) ∧ ∃ J2, J2 0 ys news' ∧ (∀ ys' news'', J2 n2 ys' news'' -> J1 ys' news'') ∧ (∀ j ys' news'', J2 j ys' news'' -> ys'.length ≤ 1000) ∧ Turn2 prog w A h₀ L m env s elt x y scope cl vx J2 n2 a2 c2
def Turn1 (prog : Program) (w : World) (A : Around) (h₀ : Heap) (L : Addr) (m : Str -> Option Value) (env : Env) (s : Shared) (elt iter2 : Expr) (x y : Str) (scope : Scope) (cl : List (Str × Addr)) (J1 : Nat -> List Value -> List (Addr × Obj) -> Prop) (n1 : Nat) (a1 c1 : Int) : Prop :=
 ∀ i ys news I oI C oC D m₂ h tk (E' : Value -> Shared -> Prop), i < n1 -> J1 i ys news -> NsObj oC m₂ -> ∀ t, m₂ x = some (.int (a1 + (i : Nat) * c1) t) -> Fr h₀ L h m ->
   News h₀ L h ([(I, oI), (C, oC), (D, LCg.lst ys)] ++ news) -> Off [I, C, D] news -> [I, C, D].Nodup ->
   wpAny (model prog w) A (eval iter2 (compEnvC scope cl C env)) (Src2 prog w A h₀ L m env s elt x y scope cl (.int (a1 + (i : Nat) * c1) t) (J1 (i + 1)) [(I, oI), (C, oC), (D, LCg.lst ys)] ys) E' { s with heap := h, toks := tk }
end
section
variable (prog : Program) (w : World) (A : Around) (s : Shared) (h₀ : Heap) (L : Addr) (m : Str -> Option Value) (env : Env) (elt iter iter2 : Expr) (x y : Str) (px py : Pos) (scope : Scope) (cl : List (Str × Addr)) (pos : Pos) (vx : Value) (J2 : Nat -> List Value -> List (Addr × Obj) -> Prop) (n2 : Nat) (a2 c2 : Int) (I2 I C D : Addr) (oI oC : Obj) (R : Result -> Shared -> Prop) (h : Heap) (tk : Nat) (ys : List Value) (news : List (Addr × Obj)) (m₂ : Str -> Option Value)
def Qtwo_block : Prop :=
 ∀ (F : Fr h₀ L h m),
 ∀ (N : News h₀ L h ([(I, oI), (C, oC), (D, LCg.lst ys)] ++ news)),
 ∀ (off : Off [I2, I, C, D] news),
 ∀ (nd : [I2, I, C, D].Nodup),
 ∀ (hC : NsObj oC m₂),
 ∀ (hx : m₂ x = some vx),
 ∀ (hI : IsRangeIter h I2 a2 n2 c2),
 ∀ (hI2 : L ≠ I2),
 ∀ (hI0 : h₀.get? I2 = none),
 ∀ (J : J2 0 ys news),
 ∀ (hR : ∀ h' tk' ys' news' oC' m₂', Fr h₀ L h' m -> News h₀ L h' ([(I, oI), (C, oC'), (D, LCg.lst ys')] ++ news') -> Off [I2, I, C, D] news' -> NsObj oC' m₂' -> J2 n2 ys' news' -> R (.ok .next) { s with heap := h', toks := tk' }),
 codeAny (model prog w) A (.compLoop (LC2 elt iter iter2 x y px py scope pos) 1 (.ref I2) (.ref D) (compEnvC scope cl C env)) R { s with heap := h, toks := tk }
def Stwo_block : Prop :=
 ∀ (hh : A.handled = none),
 ∀ (hxy : x ≠ y),
 ∀ (hkind : scope.kind = .function),
 ∀ (hy : scope.names.lookup y = some .local),
 ∀ (T2 : Turn2 prog w A h₀ L m env s elt x y scope cl vx J2 n2 a2 c2),
 ∀ (hJ : ∀ j ys' news'', J2 j ys' news'' -> ys'.length ≤ 1000),
 Qtwo_block prog w A s h₀ L m env elt iter iter2 x y px py scope cl pos vx J2 n2 a2 c2 I2 I C D oI oC R h tk ys news m₂
end
abbrev Ttwo_block : Type := (((((Program × World) × Around) × (Shared × Heap)) × ((Addr × (Str -> Option Value)) × (Env × Expr))) × ((((Expr × Expr) × Str) × (Str × Pos)) × ((Pos × Scope) × ((List (Str × Addr)) × Pos)))) × (((((Value × (Nat -> List Value -> List (Addr × Obj) -> Prop)) × Nat) × (Int × Int)) × ((Addr × Addr) × (Addr × Addr))) × (((Obj × Obj) × ((Result -> Shared -> Prop) × Heap)) × ((Nat × (List Value)) × ((List (Addr × Obj)) × (Str -> Option Value)))))
def Ptwo_block (p : Ttwo_block) : Prop := Stwo_block p.1.1.1.1.1.1 p.1.1.1.1.1.2 p.1.1.1.1.2 p.1.1.1.2.1 p.1.1.1.2.2 p.1.1.2.1.1 p.1.1.2.1.2 p.1.1.2.2.1 p.1.1.2.2.2 p.1.2.1.1.1.1 p.1.2.1.1.1.2 p.1.2.1.1.2 p.1.2.1.2.1 p.1.2.1.2.2 p.1.2.2.1.1 p.1.2.2.1.2 p.1.2.2.2.1 p.1.2.2.2.2 p.2.1.1.1.1.1 p.2.1.1.1.1.2 p.2.1.1.1.2 p.2.1.1.2.1 p.2.1.1.2.2 p.2.1.2.1.1 p.2.1.2.1.2 p.2.1.2.2.1 p.2.1.2.2.2 p.2.2.1.1.1 p.2.2.1.1.2 p.2.2.1.2.1 p.2.2.1.2.2 p.2.2.2.1.1 p.2.2.2.1.2 p.2.2.2.2.1 p.2.2.2.2.2
theorem ntwo_block : Nonempty Ttwo_block := ⟨((((((PW, Classical.choice neW), callerA), ({}, default)), default), default), default)⟩
namespace Ctwo_block
def pt := ep ntwo_block Ptwo_block
@[irreducible] def prog := pt.1.1.1.1.1.1
@[irreducible] def w := pt.1.1.1.1.1.2
@[irreducible] def A := pt.1.1.1.1.2
@[irreducible] def s := pt.1.1.1.2.1
@[irreducible] def h₀ := pt.1.1.1.2.2
@[irreducible] def L := pt.1.1.2.1.1
@[irreducible] def m := pt.1.1.2.1.2
@[irreducible] def env := pt.1.1.2.2.1
@[irreducible] def elt := pt.1.1.2.2.2
@[irreducible] def iter := pt.1.2.1.1.1.1
@[irreducible] def iter2 := pt.1.2.1.1.1.2
@[irreducible] def x := pt.1.2.1.1.2
@[irreducible] def y := pt.1.2.1.2.1
@[irreducible] def px := pt.1.2.1.2.2
@[irreducible] def py := pt.1.2.2.1.1
@[irreducible] def scope := pt.1.2.2.1.2
@[irreducible] def cl := pt.1.2.2.2.1
@[irreducible] def pos := pt.1.2.2.2.2
@[irreducible] def vx := pt.2.1.1.1.1.1
@[irreducible] def J2 := pt.2.1.1.1.1.2
@[irreducible] def n2 := pt.2.1.1.1.2
@[irreducible] def a2 := pt.2.1.1.2.1
@[irreducible] def c2 := pt.2.1.1.2.2
@[irreducible] def I2 := pt.2.1.2.1.1
@[irreducible] def I := pt.2.1.2.1.2
@[irreducible] def C := pt.2.1.2.2.1
@[irreducible] def D := pt.2.1.2.2.2
@[irreducible] def oI := pt.2.2.1.1.1
@[irreducible] def oC := pt.2.2.1.1.2
@[irreducible] def R := pt.2.2.1.2.1
@[irreducible] def h := pt.2.2.1.2.2
@[irreducible] def tk := pt.2.2.2.1.1
@[irreducible] def ys := pt.2.2.2.1.2
@[irreducible] def news := pt.2.2.2.2.1
@[irreducible] def m₂ := pt.2.2.2.2.2
noncomputable def sg0 : (P0 : Prop) ×' (P0 -> Stwo_block prog w A s h₀ L m env elt iter iter2 x y px py scope cl pos vx J2 n2 a2 c2 I2 I C D oI oC R h tk ys news m₂) := by
 apply PSigma.mk
 case snd =>
   intro hP0
   unfold Stwo_block
   intro hh hxy hkind hy T2 hJ F N off nd hC hx hI hI2 hI0 J hR
   have W := Walks.range (prog := prog) (w := w) hh I2 a2 c2 n2
   refine two_inner (fun k s' => ∃ h' tk' j ys' m' oC' news', s' = { s with heap := h', toks := tk' } ∧ j ≤ n2 ∧ k = n2 + 1 - j ∧ IsRangeIter h' I2 (a2 + (j : Nat) * c2) ((n2 : Int) - (j : Nat)) c2 ∧ Fr h₀ L h' m ∧ NsObj oC' m' ∧ m' x = some vx ∧
     News h₀ L h' ([(I, oI), (C, oC'), (D, LCg.lst ys')] ++ news') ∧ Off [I2, I, C, D] news' ∧ J2 j ys' news') ?_ (n2 + 1) ⟨h, tk, 0, ys, m₂, oC, news, rfl, Nat.zero_le _, rfl, by simpa using hI, F, hC, hx, N, off, J⟩
   rintro k s' hJJ
   revert hh hxy hkind hy T2 hJ F N off nd hC hx hI hI2 hI0 J hR W k s' hJJ
   exact hP0
namespace K0_0
noncomputable def sg1 : (P0 : Heap -> Nat -> Nat -> (List Value) -> (Str -> Option Value) -> Obj -> (List (Addr × Obj)) -> Prop) ×' ((∀ x0 x1 x2 x3 x4 x5 x6, P0 x0 x1 x2 x3 x4 x5 x6) -> sg0.1) := by
 apply PSigma.mk
 case snd =>
   intro hP0
   unfold sg0
   dsimp only
   intro hh hxy hkind hy T2 hJ F N off nd hC hx hI hI2 hI0 J hR W k s' hJJ
   obtain ⟨h₁, tk₁, j, ys₁, m₁, oC₁, news₁, rfl, hj, rfl, hst, F₁, hC₁, hx₁, N₁, off₁, J₁⟩ := hJJ
   simp only [List.nodup_cons, List.mem_cons, List.not_mem_nil, or_false, not_or, List.nodup_nil, and_true, not_false_eq_true] at nd
   obtain ⟨⟨n2I, n2C, n2D⟩, ⟨nIC, nID⟩, nCD⟩ := nd
   have offm : ∀ p ∈ [(I, oI), (C, oC₁), (D, LCg.lst ys₁)] ++ news₁, p.1 ≠ I2 := fun p hp => by
     rcases List.mem_append.mp hp with hp | hp
     . simp only [List.mem_cons, List.not_mem_nil, or_false] at hp
       rcases hp with rfl | rfl | rfl
       . exact fun q => n2I q.symm
       . exact fun q => n2C q.symm
       . exact fun q => n2D q.symm
     . exact fun q => off₁ p hp (by simp [q])
   revert hh hxy hkind hy T2 hJ F N off hC hx hI hI2 hI0 J hR W hj hst F₁ hC₁ hx₁ N₁ off₁ J₁ n2I n2C n2D nCD nIC nID offm
   exact hP0 h₁ tk₁ j ys₁ m₁ oC₁ news₁
namespace K1_0
abbrev TT : Type := ((Heap × Nat) × (Nat × (List Value))) × (((Str -> Option Value) × Obj) × (List (Addr × Obj)))
def PP (p : TT) : Prop := sg1.1 p.1.1.1 p.1.1.2 p.1.2.1 p.1.2.2 p.2.1.1 p.2.1.2 p.2.2
def pt := ep ⟨default⟩ PP
@[irreducible] def h₁ := pt.1.1.1
@[irreducible] def tk₁ := pt.1.1.2
@[irreducible] def j := pt.1.2.1
@[irreducible] def ys₁ := pt.1.2.2
@[irreducible] def m₁ := pt.2.1.1
@[irreducible] def oC₁ := pt.2.1.2
@[irreducible] def news₁ := pt.2.2
noncomputable def sg2 : (P0 : Heap -> Nat -> Tok -> Heap -> Obj -> Prop) ×' ((∀ x0 x1 x2 x3 x4, P0 x0 x1 x2 x3 x4) -> sg1.1 h₁ tk₁ j ys₁ m₁ oC₁ news₁) := by
 apply PSigma.mk
 case snd =>
   intro hP0
   unfold sg1
   dsimp only
   intro hh hxy hkind hy T2 hJ F N off hC hx hI hI2 hI0 J hR W hj hst F₁ hC₁ hx₁ N₁ off₁ J₁ n2I n2C n2D nCD nIC nID offm
   by_cases hlt : j < n2
   . refine W.item j _ _ _ hlt hst fun v h₂ tk₂ hPv hst₂ hk₂ => ?_
     obtain ⟨t, rfl⟩ := hPv
     have N₂ : News h₀ L h₂ ([(I, oI), (C, oC₁), (D, LCg.lst ys₁)] ++ news₁) := LCg.news_but N₁ hk₂ offm
     have F₂ : Fr h₀ L h₂ m := LCg.fr_but F₁ hk₂ hI2 hI0
     have zC := N₂ (C, oC₁) (by simp)
     refine wpAny_assign_Name (wpAny_storeName_local (lookup_relabel_local hy) (hC₁.ns zC.1) (fun h₃ hn₃ hs₃ => ?_) (by simp [compEnvC, relabel, hkind]))
     obtain ⟨oC₃, heC, hoC⟩ := ns_obj hn₃
     have hx₃ : (fun z => if z = y then some (Value.int (a2 + (j : Nat) * c2) t) else m₁ z) x = some vx := by
       show (if x = y then _ else m₁ x) = _
       rw [if_neg hxy]; exact hx₁
     have F₃ : Fr h₀ L h₃ m := F₂.change hs₃ zC.2.1 zC.2.2
     have hI₃ : IsRangeIter h₃ I2 (a2 + ((j + 1 : Nat) : Int) * c2) ((n2 : Int) - ((j + 1 : Nat) : Int)) c2 := hs₃.extBut I2 _ n2C hst₂
     have N₃ : News h₀ L h₃ ([(I2, _), (I, oI), (C, oC₃), (D, LCg.lst ys₁)] ++ news₁) := fun p hp => by
       rcases List.mem_append.mp hp with hp | hp
       . simp only [List.mem_cons, List.not_mem_nil, or_false] at hp
         rcases hp with rfl | rfl | rfl | rfl
         . exact ⟨hI₃, Ne.symm hI2, hI0⟩
         . exact ⟨hs₃.extBut _ _ nIC (N₂ (I, oI) (by simp)).1, (N₂ (I, oI) (by simp)).2⟩
         . exact ⟨heC, zC.2⟩
         . exact ⟨hs₃.extBut _ _ (Ne.symm nCD) (N₂ (D, LCg.lst ys₁) (by simp)).1, (N₂ (D, LCg.lst ys₁) (by simp)).2⟩
       . have z := N₂ p (List.mem_append_right _ hp)
         exact ⟨hs₃.extBut _ _ (fun q => off₁ p hp (by have q' : p.1 = C := q; simp [q'])) z.1, z.2⟩
     revert hh hxy hkind hy T2 hJ F N off hC hx hI hI2 hI0 J hR W hj hst F₁ hC₁ hx₁ N₁ off₁ J₁ n2I n2C n2D nCD nIC nID offm hlt hst₂ hk₂ N₂ F₂ zC hn₃ hs₃ heC hoC hx₃ F₃ hI₃ N₃
     exact hP0 h₂ tk₂ t h₃ oC₃
   . have ej : j = n2 := by omega
     rw [ej] at hst J₁
     refine W.done _ _ _ hst fun h₂ tk₂ hk₂ => ?_
     exact hR h₂ tk₂ ys₁ news₁ oC₁ m₁ (LCg.fr_but F₁ hk₂ hI2 hI0) (LCg.news_but N₁ hk₂ offm) off₁ hC₁ J₁
namespace K2_0
abbrev TT : Type := ((Heap × Nat) × Tok) × (Heap × Obj)
def PP (p : TT) : Prop := sg2.1 p.1.1.1 p.1.1.2 p.1.2 p.2.1 p.2.2
def pt := ep ⟨default⟩ PP
@[irreducible] def h₂ := pt.1.1.1
@[irreducible] def tk₂ := pt.1.1.2
@[irreducible] def t := pt.1.2
@[irreducible] def h₃ := pt.2.1
@[irreducible] def oC₃ := pt.2.2
theorem sg3 : sg2.1 h₂ tk₂ t h₃ oC₃ := by
 unfold sg2
 dsimp only
 intro hh hxy hkind hy T2 hJ F N off hC hx hI hI2 hI0 J hR W hj hst F₁ hC₁ hx₁ N₁ off₁ J₁ n2I n2C n2D nCD nIC nID offm hlt hst₂ hk₂ N₂ F₂ zC hn₃ hs₃ heC hoC hx₃ F₃ hI₃ N₃
 refine wpAny_mono (T2 j ys₁ news₁ I2 _ I oI C oC₃ D _ h₃ _ _ hlt J₁ hoC hx₃ ⟨t, by simp⟩ F₃ N₃ off₁ (by simp [n2I, n2C, n2D, nIC, nID, nCD])) (fun v s₄ h₄ => ?_) fun _ _ e => e
 obtain ⟨h₄, tk₄, news₄, rfl, F₄, N₄, off₄, J₄⟩ := h₄
 have zD := N₄ (D, LCg.lst ys₁) (by simp)
 have hlen := hJ _ _ _ J₁
 refine append_at (hsz := by rw [List.size_toArray]; exact Nat.le_trans hlen (Nat.le_of_ble_eq_true rfl)) zD.1 fun h₅ hs₅ hD₅ => ?_
 refine ⟨n2 + 1 - (j + 1), by omega, h₅, tk₄, j + 1, ys₁ ++ [v], _, oC₃, news₄, rfl, hlt, rfl, hs₅.extBut I2 _ n2D (N₄ _ (.head _)).1, F₄.change hs₅ zD.2.1 zD.2.2, hoC, hx₃, fun p hp => ?_, off₄, J₄⟩
 rcases List.mem_append.mp hp with hp | hp
 . simp only [List.mem_cons, List.not_mem_nil, or_false] at hp
   rcases hp with rfl | rfl | rfl
   . exact ⟨hs₅.extBut _ _ nID (N₄ (I, oI) (by simp)).1, (N₄ (I, oI) (by simp)).2⟩
   . exact ⟨hs₅.extBut _ _ nCD (N₄ (C, oC₃) (by simp)).1, (N₄ (C, oC₃) (by simp)).2⟩
   . exact ⟨hD₅.trans (congrArg some (lst_snoc ys₁ v)), zD.2⟩
 . have z := N₄ p (List.mem_append_right _ hp)
   exact ⟨hs₅.extBut _ _ (fun q => off₄ p hp (by simp [q])) z.1, z.2⟩
theorem fin : ∀ x, PP x := drink ⟨default⟩ PP (by with_unfolding_all exact sg3)
end K2_0
theorem fin : ∀ x, PP x := drink ⟨default⟩ PP (by with_unfolding_all exact sg2.2 (by intros; exact K2_0.fin (((_, _), _), (_, _))))
end K1_0
theorem fin : sg0.1 := sg1.2 (by intros; exact K1_0.fin (((_, _), (_, _)), ((_, _), _)))
end K0_0
theorem main : Stwo_block prog w A s h₀ L m env elt iter iter2 x y px py scope cl pos vx J2 n2 a2 c2 I2 I C D oI oC R h tk ys news m₂ := sg0.2 K0_0.fin
end Ctwo_block
theorem two_block : ∀ {prog} {w} {A} {s} {h₀} {L} {m} {env} {elt iter iter2} {x y} {px py} {scope} {cl} {pos} {vx} {J2} {n2} {a2 c2} {I2 I C D} {oI oC} {R} (hh : A.handled = none) (hxy : x ≠ y) (hkind : scope.kind = .function) (hy : scope.names.lookup y = some .local) (T2 : Turn2 prog w A h₀ L m env s elt x y scope cl vx J2 n2 a2 c2) (hJ : ∀ j ys' news'', J2 j ys' news'' -> ys'.length ≤ 1000) {h} {tk} {ys} {news} {m₂}, Qtwo_block prog w A s h₀ L m env elt iter iter2 x y px py scope cl pos vx J2 n2 a2 c2 I2 I C D oI oC R h tk ys news m₂ :=
 fun {prog} {w} {A} {s} {h₀} {L} {m} {env} {elt} {iter} {iter2} {x} {y} {px} {py} {scope} {cl} {pos} {vx} {J2} {n2} {a2} {c2} {I2} {I} {C} {D} {oI} {oC} {R} hh hxy hkind hy T2 hJ {h} {tk} {ys} {news} {m₂} => drink ntwo_block Ptwo_block (by with_unfolding_all exact Ctwo_block.main) ((((((prog, w), A), (s, h₀)), ((L, m), (env, elt))), ((((iter, iter2), x), (y, px)), ((py, scope), (cl, pos)))), (((((vx, J2), n2), (a2, c2)), ((I2, I), (C, D))), (((oI, oC), (R, h)), ((tk, ys), (news, m₂))))) hh hxy hkind hy T2 hJ
end
end Mine
end
noncomputable section
example : True := by w_top off; trivial
open PySem PySem.W PySem.W.X PyProof.Rows PySem.Calls PySem.Spec
namespace Mine
noncomputable section
open LCg (NsObj lst_snoc ns_obj)
section
variable {prog : Program} {w : World} {A : Around} {E : Value -> Shared -> Prop} {s : Shared} {h₀ : Heap} {L : Addr} {m : Str -> Option Value} {env : Env}
def Src1 (prog : Program) (w : World) (A : Around) (h₀ : Heap) (L : Addr) (m : Str -> Option Value) (env : Env) (s : Shared) (elt iter2 : Expr) (x y : Str) (scope : Scope) (cl : List (Str × Addr)) (Dn : Nat -> (Nat -> List Value -> List (Addr × Obj) -> Prop) -> Prop) (xv : Value) (s₁ : Shared) : Prop :=
 ∃ r a b c t u v n h tk news, xv = .ref r ∧ s₁ = { s with heap := h, toks := tk } ∧ Fr h₀ L h m ∧ News h₀ L h news ∧ IsRange h r a b c t u v ∧ Builtin.Range.small a b c = true ∧
   Builtin.Range.rangeSize a b c = ((n : Nat) : Int) ∧ ∃ J1, J1 0 [] news ∧ Dn n J1 ∧ Turn1 prog w A h₀ L m env s elt iter2 x y scope cl J1 n a c
def Done2 (prog : Program) (w : World) (A : Around) (E : Value -> Shared -> Prop) (h₀ : Heap) (L : Addr) (m : Str -> Option Value) (s : Shared) (use : Option (Value -> Sem Unit)) (Q : Value -> Shared -> Prop) (n : Nat) (J1 : Nat -> List Value -> List (Addr × Obj) -> Prop) : Prop :=
 ∀ ys news D C oC m₁ h tk, J1 n ys news -> NsObj oC m₁ -> Fr h₀ L h m -> News h₀ L h ([(C, oC), (D, LCg.lst ys)] ++ news) -> Off [C, D] news -> D ≠ L -> C ≠ L -> C ≠ D -> h₀.get? C = none ->
   compPost (model prog w) A E use Q (.ref D) C (.ok .next) { s with heap := h, toks := tk }
end
section
variable (prog : Program) (w : World) (A : Around) (E : Value -> Shared -> Prop) (s : Shared) (h₀ : Heap) (L : Addr) (m : Str -> Option Value) (env : Env) (cpos : Pos) (elt iter iter2 : Expr) (x y : Str) (px py : Pos) (scope : Scope) (cl : List (Str × Addr)) (pos : Pos) (Q : Value -> Shared -> Prop) (use : Option (Value -> Sem Unit)) (Dn : Nat -> (Nat -> List Value -> List (Addr × Obj) -> Prop) -> Prop)
def Qtwo_comp : Prop :=
 ∀ (hd : ∀ n J1, Dn n J1 -> Done2 prog w A E h₀ L m s use Q n J1),
 ∀ (hh : A.handled = none),
 ∀ (hclos : closureFor scope env = pure cl),
 ∀ (hcell : ∀ y ∈ scope.names, y.2 ≠ .cell),
 ∀ (hkind : scope.kind = .function),
 ∀ (hnames : ∀ y ∈ scope.names, y.2 = .local -> scope.names.lookup y.1 = some .local),
 ∀ (hx : scope.names.lookup x = some .local),
 ∀ (hy : scope.names.lookup y = some .local),
 ∀ (hxy : x ≠ y),
 ∀ (h : wpAny (model prog w) A (eval iter env) (Src1 prog w A h₀ L m env s elt iter2 x y scope cl Dn) E s),
 ∀ (hs : ∀ x, foldedSetIterable iter env x = pure x),
 ∀ (hs2 : ∀ C v, foldedSetIterable iter2 (compEnvC scope cl C env) v = pure v),
 wpAny (model prog w) A (comprehension (LC2 elt iter iter2 x y px py scope pos) scope env cpos (newList []) false (eval iter env) use) Q E s
def Stwo_comp : Prop :=
 Qtwo_comp prog w A E s h₀ L m env cpos elt iter iter2 x y px py scope cl pos Q use Dn
end
abbrev Ttwo_comp : Type := ((((Program × World) × Around) × (((Value -> Shared -> Prop) × Shared) × Heap)) × (((Addr × (Str -> Option Value)) × Env) × ((Pos × Expr) × Expr))) × ((((Expr × Str) × Str) × ((Pos × Pos) × Scope)) × ((((List (Str × Addr)) × Pos) × (Value -> Shared -> Prop)) × ((Option (Value -> Sem Unit)) × (Nat -> (Nat -> List Value -> List (Addr × Obj) -> Prop) -> Prop))))
def Ptwo_comp (p : Ttwo_comp) : Prop := Stwo_comp p.1.1.1.1.1 p.1.1.1.1.2 p.1.1.1.2 p.1.1.2.1.1 p.1.1.2.1.2 p.1.1.2.2 p.1.2.1.1.1 p.1.2.1.1.2 p.1.2.1.2 p.1.2.2.1.1 p.1.2.2.1.2 p.1.2.2.2 p.2.1.1.1.1 p.2.1.1.1.2 p.2.1.1.2 p.2.1.2.1.1 p.2.1.2.1.2 p.2.1.2.2 p.2.2.1.1.1 p.2.2.1.1.2 p.2.2.1.2 p.2.2.2.1 p.2.2.2.2
theorem ntwo_comp : Nonempty Ttwo_comp := ⟨(((((PW, Classical.choice neW), callerA), ((default, {}), default)), default), default)⟩
namespace Ctwo_comp
def pt := ep ntwo_comp Ptwo_comp
@[irreducible] def prog := pt.1.1.1.1.1
@[irreducible] def w := pt.1.1.1.1.2
@[irreducible] def A := pt.1.1.1.2
@[irreducible] def E := pt.1.1.2.1.1
@[irreducible] def s := pt.1.1.2.1.2
@[irreducible] def h₀ := pt.1.1.2.2
@[irreducible] def L := pt.1.2.1.1.1
@[irreducible] def m := pt.1.2.1.1.2
@[irreducible] def env := pt.1.2.1.2
@[irreducible] def cpos := pt.1.2.2.1.1
@[irreducible] def elt := pt.1.2.2.1.2
@[irreducible] def iter := pt.1.2.2.2
@[irreducible] def iter2 := pt.2.1.1.1.1
@[irreducible] def x := pt.2.1.1.1.2
@[irreducible] def y := pt.2.1.1.2
@[irreducible] def px := pt.2.1.2.1.1
@[irreducible] def py := pt.2.1.2.1.2
@[irreducible] def scope := pt.2.1.2.2
@[irreducible] def cl := pt.2.2.1.1.1
@[irreducible] def pos := pt.2.2.1.1.2
@[irreducible] def Q := pt.2.2.1.2
@[irreducible] def use := pt.2.2.2.1
@[irreducible] def Dn := pt.2.2.2.2
noncomputable def sg0 : (P0 : Prop) ×' (P0 -> Stwo_comp prog w A E s h₀ L m env cpos elt iter iter2 x y px py scope cl pos Q use Dn) := by
 apply PSigma.mk
 case snd =>
   intro hP0
   unfold Stwo_comp
   intro hd hh hclos hcell hkind hnames hx hy hxy h hs hs2
   refine wpAny_comprehension_free (use := use) rfl hs hclos hkind hnames (wpAny_mono h (fun xv s₁ h₁ => ?_) fun _ _ e => e)
   clear h hs hclos hnames
   revert hd hh hcell hkind hx hy hxy hs2 xv s₁ h₁
   exact hP0
namespace K0_0
noncomputable def sg1 : (P0 : Addr -> Int -> Int -> Int -> Tok -> Tok -> Tok -> Nat -> Heap -> Nat -> (List (Addr × Obj)) -> (Nat -> List Value -> List (Addr × Obj) -> Prop) -> Prop) ×' ((∀ x0 x1 x2 x3 x4 x5 x6 x7 x8 x9 x10 x11, P0 x0 x1 x2 x3 x4 x5 x6 x7 x8 x9 x10 x11) -> sg0.1) := by
 apply PSigma.mk
 case snd =>
   intro hP0
   unfold sg0
   dsimp only
   intro hd hh hcell hkind hx hy hxy hs2 xv s₁ h₁
   obtain ⟨r, a, b, c, t, u, v, n, h1, tk1, news, rfl, rfl, F, N, hr, hsm, hn, J1, hJ0, hfin, T1⟩ := h₁
   revert hd hh hcell hkind hx hy hxy hs2 F N hr hsm hn hJ0 hfin T1
   exact hP0 r a b c t u v n h1 tk1 news J1
namespace K1_0
abbrev TT : Type := (((Addr × Int) × Int) × ((Int × Tok) × Tok)) × (((Tok × Nat) × Heap) × ((Nat × (List (Addr × Obj))) × (Nat -> List Value -> List (Addr × Obj) -> Prop)))
def PP (p : TT) : Prop := sg1.1 p.1.1.1.1 p.1.1.1.2 p.1.1.2 p.1.2.1.1 p.1.2.1.2 p.1.2.2 p.2.1.1.1 p.2.1.1.2 p.2.1.2 p.2.2.1.1 p.2.2.1.2 p.2.2.2
def pt := ep ⟨default⟩ PP
@[irreducible] def r := pt.1.1.1.1
@[irreducible] def a := pt.1.1.1.2
@[irreducible] def b := pt.1.1.2
@[irreducible] def c := pt.1.2.1.1
@[irreducible] def t := pt.1.2.1.2
@[irreducible] def u := pt.1.2.2
@[irreducible] def v := pt.2.1.1.1
@[irreducible] def n := pt.2.1.1.2
@[irreducible] def h1 := pt.2.1.2
@[irreducible] def tk1 := pt.2.2.1.1
@[irreducible] def news := pt.2.2.1.2
@[irreducible] def J1 := pt.2.2.2
noncomputable def sg2 : (P0 : Heap -> Heap -> Heap -> Nat -> Nat -> Nat -> Prop) ×' ((∀ x0 x1 x2 x3 x4 x5, P0 x0 x1 x2 x3 x4 x5) -> sg1.1 r a b c t u v n h1 tk1 news J1) := by
 apply PSigma.mk
 case snd =>
   intro hP0
   unfold sg1
   dsimp only
   intro hd hh hcell hkind hx hy hxy hs2 F N hr hsm hn hJ0 hfin T1
   refine wpAny_pyIter_range hr hsm ?_
   refine wpAny_newObj_type (wpAny_newFunctionEnv hcell (by intro y hy; simp at hy) (fun h₂ hns hsb => ?_) hkind)
   dsimp only at hns hsb ⊢
   have fresh : ∀ a, h1.objs.size ≤ a -> h1.get? a = none := fun a ha => by
     cases e : h1.get? a with
     | none => rfl
     | some o' => exact absurd (Heap.lt_size e) (Nat.not_lt.mpr ha)
   have fresh0 : ∀ a, h1.objs.size ≤ a -> h₀.get? a = none := fun a ha => by
     cases e : h₀.get? a with
     | none => rfl
     | some o' => have := F.keep a o' e; rw [fresh a ha] at this; cases this
   have hLlt : L < h1.objs.size := F.ns.lt
   generalize hH1 : h1.push { cls := Value.type "range_iterator", data := Data.fields #[rawInt a, rawInt (Builtin.Range.rangeSize a b c), rawInt c] } = H1 at hns hsb ⊢
   have eD : H1.objs.size = h1.objs.size + 1 := by rw [← hH1, Heap.size_push]
   generalize hH2 : H1.push { cls := .type "list", dict := none, data := .seq ([] : List Value).toArray } = H2 at hns hsb ⊢
   have eC : H2.objs.size = h1.objs.size + 1 + 1 := by rw [← hH2, Heap.size_push, eD]
   have old : ∀ b o, h1.get? b = some o -> h₂.get? b = some o := fun b o e => hsb.extBut b o (by rw [eC]; exact Nat.ne_of_lt (Nat.lt_succ_of_lt (Nat.lt_succ_of_lt (Heap.lt_size e)))) (Heap.get?_push_of_some _ (hH2 ▸ Heap.get?_push_of_some _ (hH1 ▸ Heap.get?_push_of_some _ e)))
   have hIat : IsRangeIter h₂ h1.objs.size (a + (0 : Nat) * c) ((n : Int) - (0 : Nat)) c := by
     show h₂.get? _ = some _
     rw [← hn]
     simpa using hsb.extBut h1.objs.size _ (by rw [eC]; exact Nat.ne_of_lt (by omega)) (Heap.get?_push_of_some _ (hH2 ▸ Heap.get?_push_of_some _ (hH1 ▸ Heap.get?_push_size _ rfl)))
   have hDat : h₂.get? H1.objs.size = some (LCg.lst []) := hsb.extBut _ _ (by rw [eC, eD]; exact Nat.ne_of_lt (by omega)) (Heap.get?_push_of_some _ (hH2 ▸ Heap.get?_push_size _ rfl))
   have IL : L ≠ h1.objs.size := Nat.ne_of_lt hLlt
   have hCL : H2.objs.size ≠ L := by rw [eC]; exact Nat.ne_of_gt (Nat.lt_succ_of_lt (Nat.lt_succ_of_lt hLlt))
   have hDL : H1.objs.size ≠ L := by rw [eD]; exact Nat.ne_of_gt (Nat.lt_succ_of_lt hLlt)
   have hIC : h1.objs.size ≠ H2.objs.size := by rw [eC]; exact Nat.ne_of_lt (Nat.lt_succ_of_lt (Nat.lt_succ_self _))
   have hID : h1.objs.size ≠ H1.objs.size := by rw [eD]; exact Nat.ne_of_lt (Nat.lt_succ_self _)
   have hCD : H2.objs.size ≠ H1.objs.size := by rw [eC, eD]; exact Nat.ne_of_gt (Nat.lt_succ_self _)
   have hC₀ : h₀.get? H2.objs.size = none := fresh0 _ (by rw [eC]; exact Nat.le_succ_of_le (Nat.le_succ _))
   have hD₀ : h₀.get? H1.objs.size = none := fresh0 _ (by rw [eD]; exact Nat.le_succ _)
   have hI₀ : h₀.get? h1.objs.size = none := fresh0 _ (Nat.le_refl _)
   have off0 : Off [h1.objs.size, H2.objs.size, H1.objs.size] news := fun p hp q => by
     have hlt := Heap.lt_size (N p hp).1
     simp only [List.mem_cons, List.not_mem_nil, or_false] at q
     rcases q with q | q | q
     . exact absurd q (Nat.ne_of_lt hlt)
     . rw [eC] at q; exact absurd q (Nat.ne_of_lt (Nat.lt_succ_of_lt (Nat.lt_succ_of_lt hlt)))
     . rw [eD] at q; exact absurd q (Nat.ne_of_lt (Nat.lt_succ_of_lt hlt))
   generalize eCC : H2.objs.size = C at *
   generalize eDD : H1.objs.size = D at *
   generalize eII : h1.objs.size = I at *
   clear eC eD hr hsm hsb fresh fresh0 hLlt hcell
   revert hd hh hkind hx hy hxy hs2 F N hn hJ0 hfin T1 hH1 hH2 old eCC hns hCL hC₀ eDD hDat hDL hD₀ hCD eII hIat IL hI₀ hIC hID off0
   exact hP0 h₂ H1 H2 C D I
namespace K2_0
abbrev TT : Type := ((Heap × Heap) × Heap) × ((Nat × Nat) × Nat)
def PP (p : TT) : Prop := sg2.1 p.1.1.1 p.1.1.2 p.1.2 p.2.1.1 p.2.1.2 p.2.2
def pt := ep ⟨default⟩ PP
@[irreducible] def h₂ := pt.1.1.1
@[irreducible] def H1 := pt.1.1.2
@[irreducible] def H2 := pt.1.2
@[irreducible] def C := pt.2.1.1
@[irreducible] def D := pt.2.1.2
@[irreducible] def I := pt.2.2
noncomputable def sg3 : (P0 : Obj -> Prop) ×' ((∀ x0, P0 x0) -> sg2.1 h₂ H1 H2 C D I) := by
 apply PSigma.mk
 case snd =>
   intro hP0
   unfold sg2
   dsimp only
   intro hd hh hkind hx hy hxy hs2 F N hn hJ0 hfin T1 hH1 hH2 old eCC hns hCL hC₀ eDD hDat hDL hD₀ hCD eII hIat IL hI₀ hIC hID off0
   have ndp : [I, C, D].Nodup := by simp [hIC, hID, hCD]
   obtain ⟨oC0, heC0, hoC0⟩ := ns_obj hns
   have W := Walks.range (prog := prog) (w := w) hh I a c n
   have loop : codeAny (model prog w) A (.compLoop (LC2 elt iter iter2 x y px py scope pos) 0 (.ref I) (.ref D) (compEnvC scope cl C env))
       (compPost (model prog w) A E use Q (.ref D) C) { s with heap := h₂, toks := tk1 + ([] : List (Str × Value)).length } := by
     refine two_outer (fun k s' => ∃ h' tk' i ys' m' oC' news', s' = { s with heap := h', toks := tk' } ∧ i ≤ n ∧ k = n + 1 - i ∧ IsRangeIter h' I (a + (i : Nat) * c) ((n : Int) - (i : Nat)) c ∧ Fr h₀ L h' m ∧ NsObj oC' m' ∧
       News h₀ L h' ([(C, oC'), (D, LCg.lst ys')] ++ news') ∧ Off [I, C, D] news' ∧ J1 i ys' news') (hs2 C) ?_ (n + 1) ⟨h₂, _, 0, [], _, oC0, news, rfl, Nat.zero_le _, rfl, hIat, F.keeps old, hoC0, ?_, off0, hJ0⟩
     . rintro k s' hJJ
       revert hd hh hkind hx hy hxy hs2 F N hn hJ0 hfin T1 hH1 hH2 old eCC hns hCL hC₀ eDD hDat hDL hD₀ hCD eII hIat IL hI₀ hIC hID off0 ndp heC0 hoC0 W k s' hJJ
       exact hP0 oC0
     . intro p hp
       rcases List.mem_append.mp hp with hp | hp
       . simp only [List.mem_cons, List.not_mem_nil, or_false] at hp
         rcases hp with rfl | rfl
         . exact ⟨heC0, hCL, hC₀⟩
         . exact ⟨hDat, hDL, hD₀⟩
       . exact ⟨old _ _ (N p hp).1, (N p hp).2⟩
   refine two_start (R := compPost (model prog w) A E use Q (.ref D) C) ?_ ?_ (.inl rfl)
   . exact loop
   . exact W.self 0 _ _ _ hIat loop
namespace K3_0
abbrev TT : Type := Obj
def PP (p : TT) : Prop := sg3.1 p
def pt := ep ⟨default⟩ PP
@[irreducible] def oC0 : Obj := pt
noncomputable def sg4 : (P0 : Heap -> Nat -> Nat -> (List Value) -> (Str -> Option Value) -> Obj -> (List (Addr × Obj)) -> Prop) ×' ((∀ x0 x1 x2 x3 x4 x5 x6, P0 x0 x1 x2 x3 x4 x5 x6) -> sg3.1 oC0) := by
 apply PSigma.mk
 case snd =>
   intro hP0
   unfold sg3
   dsimp only
   intro hd hh hkind hx hy hxy hs2 F N hn hJ0 hfin T1 hH1 hH2 old eCC hns hCL hC₀ eDD hDat hDL hD₀ hCD eII hIat IL hI₀ hIC hID off0 ndp heC0 hoC0 W k s' hJJ
   obtain ⟨h₁, tk₁, i, ys₁, m₁, oC₁, news₁, rfl, hi, rfl, hst, F₁, hC₁, N₁, off₁, J₁⟩ := hJJ
   have offm : ∀ p ∈ [(C, oC₁), (D, LCg.lst ys₁)] ++ news₁, p.1 ≠ I := fun p hp => by
     rcases List.mem_append.mp hp with hp | hp
     . simp only [List.mem_cons, List.not_mem_nil, or_false] at hp
       rcases hp with rfl | rfl
       . exact fun q => hIC q.symm
       . exact fun q => hID q.symm
     . exact fun q => off₁ p hp (by simp [q])
   revert hd hh hkind hx hy hxy hs2 F N hn hJ0 hfin T1 hH1 hH2 old eCC hns hCL hC₀ eDD hDat hDL hD₀ hCD eII hIat IL hI₀ hIC hID off0 ndp heC0 hoC0 W hi hst F₁ hC₁ N₁ off₁ J₁ offm
   exact hP0 h₁ tk₁ i ys₁ m₁ oC₁ news₁
namespace K4_0
abbrev TT : Type := ((Heap × Nat) × (Nat × (List Value))) × (((Str -> Option Value) × Obj) × (List (Addr × Obj)))
def PP (p : TT) : Prop := sg4.1 p.1.1.1 p.1.1.2 p.1.2.1 p.1.2.2 p.2.1.1 p.2.1.2 p.2.2
def pt := ep ⟨default⟩ PP
@[irreducible] def h₁ := pt.1.1.1
@[irreducible] def tk₁ := pt.1.1.2
@[irreducible] def i := pt.1.2.1
@[irreducible] def ys₁ := pt.1.2.2
@[irreducible] def m₁ := pt.2.1.1
@[irreducible] def oC₁ := pt.2.1.2
@[irreducible] def news₁ := pt.2.2
noncomputable def sg5 : (P0 : Heap -> Nat -> Tok -> Heap -> Obj -> Prop) ×' ((∀ x0 x1 x2 x3 x4, P0 x0 x1 x2 x3 x4) -> sg4.1 h₁ tk₁ i ys₁ m₁ oC₁ news₁) := by
 apply PSigma.mk
 case snd =>
   intro hP0
   unfold sg4
   dsimp only
   intro hd hh hkind hx hy hxy hs2 F N hn hJ0 hfin T1 hH1 hH2 old eCC hns hCL hC₀ eDD hDat hDL hD₀ hCD eII hIat IL hI₀ hIC hID off0 ndp heC0 hoC0 W hi hst F₁ hC₁ N₁ off₁ J₁ offm
   by_cases hlt : i < n
   . refine W.item i _ _ _ hlt hst fun v h₂ tk₂ hPv hst₂ hk₂ => ?_
     obtain ⟨t, rfl⟩ := hPv
     have N₂ : News h₀ L h₂ ([(C, oC₁), (D, LCg.lst ys₁)] ++ news₁) := LCg.news_but N₁ hk₂ offm
     have F₂ : Fr h₀ L h₂ m := LCg.fr_but F₁ hk₂ IL hI₀
     have zC := N₂ (C, oC₁) (by simp)
     refine wpAny_assign_Name (wpAny_storeName_local (lookup_relabel_local hx) (hC₁.ns zC.1) (fun h₃ hn₃ hs₃ => ?_) (by simp [compEnvC, relabel, hkind]))
     obtain ⟨oC₃, heC, hoC⟩ := ns_obj hn₃
     have hx₃ : (fun z => if z = x then some (Value.int (a + (i : Nat) * c) t) else m₁ z) x = some (.int (a + (i : Nat) * c) t) := by simp
     have F₃ : Fr h₀ L h₃ m := F₂.change hs₃ zC.2.1 zC.2.2
     have hI₃ : IsRangeIter h₃ I (a + ((i + 1 : Nat) : Int) * c) ((n : Int) - ((i + 1 : Nat) : Int)) c := hs₃.extBut I _ hIC hst₂
     have N₃ : News h₀ L h₃ ([(I, _), (C, oC₃), (D, LCg.lst ys₁)] ++ news₁) := fun p hp => by
       rcases List.mem_append.mp hp with hp | hp
       . simp only [List.mem_cons, List.not_mem_nil, or_false] at hp
         rcases hp with rfl | rfl | rfl
         . exact ⟨hI₃, Ne.symm IL, hI₀⟩
         . exact ⟨heC, zC.2⟩
         . exact ⟨hs₃.extBut _ _ (Ne.symm hCD) (N₂ (D, LCg.lst ys₁) (by simp)).1, (N₂ (D, LCg.lst ys₁) (by simp)).2⟩
       . have z := N₂ p (List.mem_append_right _ hp)
         exact ⟨hs₃.extBut _ _ (fun q => off₁ p hp (by have q' : p.1 = C := q; simp [q'])) z.1, z.2⟩
     refine wpAny_mono (T1 i ys₁ news₁ I _ C oC₃ D _ h₃ _ _ hlt J₁ hoC t hx₃ F₃ N₃ off₁ ndp) (fun xv s₄ h₄ => ?_) fun _ _ e => e
     clear zC F₃ F₂ N₂ N₃ offm
     revert hd hh hkind hx hy hxy hs2 F N hn hJ0 hfin T1 hH1 hH2 old eCC hns hCL hC₀ eDD hDat hDL hD₀ hCD eII hIat IL hI₀ hIC hID off0 ndp heC0 hoC0 W hi hst F₁ hC₁ N₁ off₁ J₁ hlt hst₂ hk₂ hn₃ hs₃ heC hoC hx₃ hI₃ xv s₄ h₄
     exact hP0 h₂ tk₂ t h₃ oC₃
   . have ei : i = n := by omega
     rw [ei] at hst J₁
     refine W.done _ _ _ hst fun h₂ tk₂ hk₂ => ?_
     have N₂ : News h₀ L h₂ ([(C, oC₁), (D, LCg.lst ys₁)] ++ news₁) := LCg.news_but N₁ hk₂ offm
     have F₂ : Fr h₀ L h₂ m := LCg.fr_but F₁ hk₂ IL hI₀
     exact hd n J1 hfin ys₁ news₁ D C oC₁ m₁ h₂ tk₂ J₁ hC₁ F₂ N₂ (fun p hp q => off₁ p hp (List.mem_cons_of_mem _ q)) hDL hCL hCD hC₀
namespace K5_0
abbrev TT : Type := ((Heap × Nat) × Tok) × (Heap × Obj)
def PP (p : TT) : Prop := sg5.1 p.1.1.1 p.1.1.2 p.1.2 p.2.1 p.2.2
def pt := ep ⟨default⟩ PP
@[irreducible] def h₂ := pt.1.1.1
@[irreducible] def tk₂ := pt.1.1.2
@[irreducible] def t := pt.1.2
@[irreducible] def h₃ := pt.2.1
@[irreducible] def oC₃ := pt.2.2
noncomputable def sg6 : (P0 : Addr -> Int -> Int -> Int -> Tok -> Tok -> Tok -> Nat -> Heap -> Nat -> (List (Addr × Obj)) -> (Nat -> List Value -> List (Addr × Obj) -> Prop) -> Prop) ×' ((∀ x0 x1 x2 x3 x4 x5 x6 x7 x8 x9 x10 x11, P0 x0 x1 x2 x3 x4 x5 x6 x7 x8 x9 x10 x11) -> sg5.1 h₂ tk₂ t h₃ oC₃) := by
 apply PSigma.mk
 case snd =>
   intro hP0
   unfold sg5
   dsimp only
   intro hd hh hkind hx hy hxy hs2 F N hn hJ0 hfin T1 hH1 hH2 old eCC hns hCL hC₀ eDD hDat hDL hD₀ hCD eII hIat IL hI₀ hIC hID off0 ndp heC0 hoC0 W hi hst F₁ hC₁ N₁ off₁ J₁ hlt hst₂ hk₂ hn₃ hs₃ heC hoC hx₃ hI₃ xv s₄ h₄
   obtain ⟨r2, a2, b2, c2, t2, u2, v2, n2, h₄, tk₄, news₄, rfl, rfl, F₄, N₄, off₄, hr2, hsm2, hn2, J2, J20, J2e, J2l, T2⟩ := h₄
   revert hd hh hkind hx hy hxy hs2 F N hn hJ0 hfin T1 hH1 hH2 old eCC hns hCL hC₀ eDD hDat hDL hD₀ hCD eII hIat IL hI₀ hIC hID off0 ndp heC0 hoC0 W hi hst F₁ hC₁ N₁ off₁ J₁ hlt hst₂ hk₂ hn₃ hs₃ heC hoC hx₃ hI₃ F₄ N₄ off₄ hr2 hsm2 hn2 J20 J2e J2l T2
   exact hP0 r2 a2 b2 c2 t2 u2 v2 n2 h₄ tk₄ news₄ J2
namespace K6_0
abbrev TT : Type := (((Addr × Int) × Int) × ((Int × Tok) × Tok)) × (((Tok × Nat) × Heap) × ((Nat × (List (Addr × Obj))) × (Nat -> List Value -> List (Addr × Obj) -> Prop)))
def PP (p : TT) : Prop := sg6.1 p.1.1.1.1 p.1.1.1.2 p.1.1.2 p.1.2.1.1 p.1.2.1.2 p.1.2.2 p.2.1.1.1 p.2.1.1.2 p.2.1.2 p.2.2.1.1 p.2.2.1.2 p.2.2.2
def pt := ep ⟨default⟩ PP
@[irreducible] def r2 := pt.1.1.1.1
@[irreducible] def a2 := pt.1.1.1.2
@[irreducible] def b2 := pt.1.1.2
@[irreducible] def c2 := pt.1.2.1.1
@[irreducible] def t2 := pt.1.2.1.2
@[irreducible] def u2 := pt.1.2.2
@[irreducible] def v2 := pt.2.1.1.1
@[irreducible] def n2 := pt.2.1.1.2
@[irreducible] def h₄ := pt.2.1.2
@[irreducible] def tk₄ := pt.2.2.1.1
@[irreducible] def news₄ := pt.2.2.1.2
@[irreducible] def J2 := pt.2.2.2
theorem sg7 : sg6.1 r2 a2 b2 c2 t2 u2 v2 n2 h₄ tk₄ news₄ J2 := by
 unfold sg6
 dsimp only
 intro hd hh hkind hx hy hxy hs2 F N hn hJ0 hfin T1 hH1 hH2 old eCC hns hCL hC₀ eDD hDat hDL hD₀ hCD eII hIat IL hI₀ hIC hID off0 ndp heC0 hoC0 W hi hst F₁ hC₁ N₁ off₁ J₁ hlt hst₂ hk₂ hn₃ hs₃ heC hoC hx₃ hI₃ F₄ N₄ off₄ hr2 hsm2 hn2 J20 J2e J2l T2
 refine wpAny_pyIter_range hr2 hsm2 ?_
 dsimp only
 have eI2 : ∀ b o, h₄.get? b = some o -> b ≠ h₄.objs.size := fun b o e => Nat.ne_of_lt (Heap.lt_size e)
 have n2I : h₄.objs.size ≠ I := Ne.symm (eI2 I _ (N₄ (I, _) (.head _)).1)
 have n2C : h₄.objs.size ≠ C := Ne.symm (eI2 C _ (N₄ (C, _) (.tail _ (.head _))).1)
 have n2D : h₄.objs.size ≠ D := Ne.symm (eI2 D _ (N₄ (D, _) (.tail _ (.tail _ (.head _)))).1)
 have hI20 : h₀.get? h₄.objs.size = none := next_is_new F₄
 have hI2L : L ≠ h₄.objs.size := Nat.ne_of_lt F₄.ns.lt
 have up : ∀ (o' : Obj) b o, h₄.get? b = some o -> (h₄.push o').get? b = some o := fun o' b o e => Heap.get?_push_of_some _ e
 have offI2 : Off [h₄.objs.size, I, C, D] news₄ := fun p hp q => by
   rcases List.mem_cons.mp q with q | q
   . exact eI2 _ _ (N₄ p (List.mem_append_right _ hp)).1 q
   . exact off₄ p hp q
 have W2 := Walks.range (prog := prog) (w := w) hh h₄.objs.size a2 c2 n2
 have hI2at : IsRangeIter (h₄.push { cls := Value.type "range_iterator", data := Data.fields #[rawInt a2, rawInt (Builtin.Range.rangeSize a2 b2 c2), rawInt c2] }) h₄.objs.size (a2 + (0 : Nat) * c2) ((n2 : Int) - (0 : Nat)) c2 := by
   show Heap.get? _ _ = some _
   rw [← hn2]
   simpa using Heap.get?_push_size _ rfl
 have inner : codeAny (model prog w) A (.compLoop (LC2 elt iter iter2 x y px py scope pos) 1 (.ref h₄.objs.size) (.ref D) (compEnvC scope cl C env)) (fun r s₅ => match r with
     | .ok _ => ∃ m', m' < n + 1 - i ∧ ∃ h' tk' i ys' m'' oC' news', s₅ = { s with heap := h', toks := tk' } ∧ i ≤ n ∧ m' = n + 1 - i ∧ IsRangeIter h' I (a + (i : Nat) * c) ((n : Int) - (i : Nat)) c ∧ Fr h₀ L h' m ∧ NsObj oC' m'' ∧
         News h₀ L h' ([(C, oC'), (D, LCg.lst ys')] ++ news') ∧ Off [I, C, D] news' ∧ J1 i ys' news'
     | .error e => cameBackBy (model prog w) A (compEnvC scope cl C env) (notedBy (model prog w) A (compEnvC scope cl C env) fun e s' => compPost (model prog w) A E use Q (.ref D) C (.error e) s') e s₅)
     { s with heap := h₄.push { cls := Value.type "range_iterator", data := Data.fields #[rawInt a2, rawInt (Builtin.Range.rangeSize a2 b2 c2), rawInt c2] }, toks := tk₄ } := by
   refine two_block hh hxy hkind hy T2 J2l (F₄.keeps (up _)) (N₄.grown (up _)) offI2 (by simp [n2I, n2C, n2D, hIC, hID, hCD]) hoC hx₃ (by simpa using hI2at) hI2L hI20 J20 ?_
   intro h' tk' ys' news' oC' m₂' F' N' off' hC' J'
   refine ⟨n + 1 - (i + 1), by omega, h', tk', i + 1, ys', m₂', oC', news', rfl, hlt, rfl, (N' (I, _) (.head _)).1, F', hC', fun p hp => N' p (List.mem_cons_of_mem _ hp), fun p hp q => off' p hp (List.mem_cons_of_mem _ q), J2e _ _ J'⟩
 exact two_start inner (W2.self 0 _ _ _ hI2at inner) (.inr rfl)
theorem fin : ∀ x, PP x := drink ⟨default⟩ PP (by with_unfolding_all exact sg7)
end K6_0
theorem fin : ∀ x, PP x := drink ⟨default⟩ PP (by with_unfolding_all exact sg6.2 (by intros; exact K6_0.fin ((((_, _), _), ((_, _), _)), (((_, _), _), ((_, _), _)))))
end K5_0
theorem fin : ∀ x, PP x := drink ⟨default⟩ PP (by with_unfolding_all exact sg5.2 (by intros; exact K5_0.fin (((_, _), _), (_, _))))
end K4_0
theorem fin : ∀ x, PP x := drink ⟨default⟩ PP (by with_unfolding_all exact sg4.2 (by intros; exact K4_0.fin (((_, _), (_, _)), ((_, _), _))))
end K3_0
theorem fin : ∀ x, PP x := drink ⟨default⟩ PP (by with_unfolding_all exact sg3.2 (by intros; exact K3_0.fin _))
end K2_0
theorem fin : ∀ x, PP x := drink ⟨default⟩ PP (by with_unfolding_all exact sg2.2 (by intros; exact K2_0.fin (((_, _), _), ((_, _), _))))
end K1_0
theorem fin : sg0.1 := sg1.2 (by intros; exact K1_0.fin ((((_, _), _), ((_, _), _)), (((_, _), _), ((_, _), _))))
end K0_0
theorem main : Stwo_comp prog w A E s h₀ L m env cpos elt iter iter2 x y px py scope cl pos Q use Dn := sg0.2 K0_0.fin
end Ctwo_comp
theorem two_comp : ∀ {prog} {w} {A} {E} {s} {h₀} {L} {m} {env} {cpos} {elt iter iter2} {x y} {px py} {scope} {cl} {pos} {Q} {use} {Dn}, Qtwo_comp prog w A E s h₀ L m env cpos elt iter iter2 x y px py scope cl pos Q use Dn :=
 fun {prog} {w} {A} {E} {s} {h₀} {L} {m} {env} {cpos} {elt} {iter} {iter2} {x} {y} {px} {py} {scope} {cl} {pos} {Q} {use} {Dn} => drink ntwo_comp Ptwo_comp (by with_unfolding_all exact Ctwo_comp.main) (((((prog, w), A), ((E, s), h₀)), (((L, m), env), ((cpos, elt), iter))), ((((iter2, x), y), ((px, py), scope)), (((cl, pos), Q), (use, Dn))))
section
variable {prog : Program} {w : World} {A : Around} {E : Value -> Shared -> Prop} {s : Shared} {h₀ : Heap} {L : Addr} {m : Str -> Option Value} {env : Env}
def FinE2 (h₀ : Heap) (L : Addr) (m : Str -> Option Value) (s : Shared) (Q : Value -> Shared -> Prop) (n : Nat) (J1 : Nat -> List Value -> List (Addr × Obj) -> Prop) : Prop :=
 ∀ ys news', J1 n ys news' -> ∀ D h tk, Fr h₀ L h m -> News h₀ L h ((D, LCg.lst ys) :: news') -> Off [D] news' -> Q (.ref D) { s with heap := h, toks := tk }
def FinA2 (h₀ : Heap) (L : Addr) (m : Str -> Option Value) (s : Shared) (z : Str) (Q : Flow -> Shared -> Prop) (n : Nat) (J1 : Nat -> List Value -> List (Addr × Obj) -> Prop) : Prop :=
 ∀ ys news', J1 n ys news' -> ∀ D h tk, Fr h₀ L h (fun k => if k = z then some (.ref D) else m k) -> News h₀ L h ((D, LCg.lst ys) :: news') -> Off [D] news' -> Q .next { s with heap := h, toks := tk }
theorem off_tail {C D : Addr} {news : List (Addr × Obj)} (o : Off [C, D] news) : Off [D] news := fun p hp q => o p hp (List.mem_cons_of_mem _ q)
theorem news_tail {h h'' : Heap} {C D : Addr} {oC oD : Obj} {news : List (Addr × Obj)} (N : News h₀ L h ([(C, oC), (D, oD)] ++ news)) (o : Off [C, D] news) (hCD : C ≠ D) (hs : Heap.SameBut C h h'') : News h₀ L h'' ((D, oD) :: news) := fun p hp => by
 have z := N p (List.mem_cons_of_mem _ hp)
 refine ⟨hs.extBut _ _ ?_ z.1, z.2⟩
 rcases List.mem_cons.mp hp with rfl | hp
 . exact Ne.symm hCD
 . exact fun q => o p hp (by have q' : p.1 = C := q; simp [q'])
theorem ListComp2 {elt iter iter2 : Expr} {x y : Str} {px py : Pos} {scope : Scope} {cl : List (Str × Addr)} {pos : Pos} {Q : Value -> Shared -> Prop}
   (hh : A.handled = none) (hclos : closureFor scope env = pure cl) (hcell : ∀ y ∈ scope.names, y.2 ≠ .cell) (hkind : scope.kind = .function)
   (hnames : ∀ y ∈ scope.names, y.2 = .local -> scope.names.lookup y.1 = some .local) (hx : scope.names.lookup x = some .local) (hy : scope.names.lookup y = some .local) (hxy : x ≠ y)
   (h : wpAny (model prog w) A (eval iter env) (Src1 prog w A h₀ L m env s elt iter2 x y scope cl (FinE2 h₀ L m s Q)) E s)
   (hs : ∀ x, foldedSetIterable iter env x = pure x) (hs2 : ∀ C v, foldedSetIterable iter2 (compEnvC scope cl C env) v = pure v) :
   wpAny (model prog w) A (eval (LC2 elt iter iter2 x y px py scope pos) env) Q E s := by
 rw [eval_ListComp]
 refine two_comp (Dn := FinE2 h₀ L m s Q) (use := none) (Q := Q) (h₀ := h₀) (L := L) (m := m) ?hd hh hclos hcell hkind hnames hx hy hxy h hs hs2
 case hd =>
 exact fun n J1 hf ys news D C oC m₁ h₂ tk₂ J hC F N off hDL hCL hCD hC₀ => ⟨m₁, hC.ns (N (C, oC) (by simp)).1, fun h'' hs'' => hf ys news J D h'' tk₂ (F.change hs'' hCL hC₀) (news_tail N off hCD hs'') (off_tail off)⟩
theorem Assign_ListComp2 {elt iter iter2 : Expr} {x y z : Str} {px py pz : Pos} {scope : Scope} {cl : List (Str × Addr)} {pos spos : Pos} {Q : Flow -> Shared -> Prop} (hLe : env.locals = L)
   (hsw : swapsWith (LC2 elt iter iter2 x y px py scope pos) (some (.Name z pz)) spos.line env = pure true) (hz : env.kindOf z = some .local) (hp : (env.scope.kind == .class || (env.scope.kind == .module && env.locals != env.globals)) = false)
   (hh : A.handled = none) (hclos : closureFor scope env = pure cl) (hcell : ∀ y ∈ scope.names, y.2 ≠ .cell) (hkind : scope.kind = .function)
   (hnames : ∀ y ∈ scope.names, y.2 = .local -> scope.names.lookup y.1 = some .local) (hx : scope.names.lookup x = some .local) (hy : scope.names.lookup y = some .local) (hxy : x ≠ y)
   (h : wpAny (model prog w) A (eval iter env) (Src1 prog w A h₀ L m env s elt iter2 x y scope cl (FinA2 h₀ L m s z Q)) E s)
   (hs : ∀ x, foldedSetIterable iter env x = pure x) (hs2 : ∀ C v, foldedSetIterable iter2 (compEnvC scope cl C env) v = pure v) :
   wpAny (model prog w) A (exec (.Assign [.Name z pz] (LC2 elt iter iter2 x y px py scope pos) spos) env) Q E s := by
 subst hLe
 rw [exec_Assign_Name_used _ _ _ _ hsw]
 refine wpAny_bind (wpAny_standAt (wpAny_bind ?_))
 show wpAny _ A (do let _ ← comprehension (LC2 elt iter iter2 x y px py scope pos) scope env _ (newList []) false (eval iter env) (some (assign (.Name z pz) env))) _ _ s
 refine wpAny_bind (wpAny_mono (two_comp (Dn := FinA2 h₀ env.locals m s z Q) (use := some (assign (.Name z pz) env)) (Q := fun _ s' => Q .next s') ?hd hh hclos hcell hkind hnames hx hy hxy h hs hs2) (fun _ s' hq => wpAny_pure (wpAny_pure hq)) fun _ _ e => e)
 case hd =>
 intro n J1 hf ys news D C oC m₁ h₂ tk₂ J hC F N off hDL hCL hCD hC₀
 show wpAny _ A (assign (.Name z pz) env (.ref D)) _ _ _
 refine wpAny_assign_Name (wpAny_storeName_local hz F.ns (fun h₃ hn₃ hs₃ => ?_) hp)
 have hL₀ : h₀.get? env.locals = none := Heap.get?_none_of_le F.above
 have F₃ : Fr h₀ env.locals h₃ (fun k => if k = z then some (.ref D) else m k) := ⟨hn₃, fun b o e => hs₃.extBut b o (fun q => by rw [q, hL₀] at e; cases e) (F.keep b o e), F.above⟩
 have N₃ : News h₀ env.locals h₃ ([(C, oC), (D, LCg.lst ys)] ++ news) := fun p hp => ⟨hs₃.extBut _ _ (N p hp).2.1 (N p hp).1, (N p hp).2⟩
 exact ⟨m₁, hC.ns (N₃ (C, oC) (by simp)).1, fun h'' hs'' => hf ys news J D h'' _ (F₃.change hs'' hCL hC₀) (news_tail N₃ off hCD hs'') (off_tail off)⟩
end
end
end Mine
end
noncomputable section
example : True := by w_top off; trivial
open PySem PySem.W PySem.W.X PyProof.Rows PySem.Calls PySem.Spec
namespace Mine
open LCg (NsObj CompRest CompEnd Off3 Off3.mem Off3.of)
section
variable {prog : Program} {w : World} {A : Around} {s : Shared} {h₀ : Heap} {L : Addr} {m : Str -> Option Value} {env : Env}
def TurnJ (prog : Program) (w : World) (A : Around) (h₀ : Heap) (L : Addr) (m : Str -> Option Value) (env : Env) (s : Shared) (elt : Expr) (x : Str) (scope : Scope) (cl : List (Str × Addr)) (S : List (Addr × Obj) -> Prop) (P : Nat -> Value -> Prop) (J : Nat -> List Value -> List (Addr × Obj) -> Prop) (n : Nat) : Prop :=
 ∀ i v ys news I oI C oC D m₂ h tk (E' : Value -> Shared -> Prop), i < n -> P i v -> J i ys news -> NsObj oC m₂ -> m₂ x = some v -> Fr h₀ L h m -> News h₀ L h ((I, oI) :: (C, oC) :: (D, LCg.lst ys) :: news) -> Off3 I C D news -> ((@Ne Nat I C) ∧ (@Ne Nat I D) ∧ (@Ne Nat C D)) ->
   wpAny (model prog w) A (eval elt (compEnvC scope cl C env)) (CompEnd h₀ L m { s with heap := h, toks := tk } I oI C oC D (LCg.lst ys) S (fun y news' => J (i + 1) (ys ++ [y]) news')) E' { s with heap := h, toks := tk }
theorem compEnd_imp {h₀ : Heap} {L I C D : Addr} {m : Str -> Option Value} {s₁ s₂ : Shared} {oI oC oD : Obj} {S : List (Addr × Obj) -> Prop} {rest rest' : Value -> List (Addr × Obj) -> Prop} {y : Value} (k : ∀ n, rest y n -> rest' y n)
   (H : CompEnd h₀ L m s₁ I oI C oC D oD S rest y s₂) : CompEnd h₀ L m s₁ I oI C oC D oD S rest' y s₂ :=
 Exists.imp (fun _ => Exists.imp fun _ => Exists.imp fun _ => And.imp_right (And.imp_right (And.imp_right (And.imp_right (And.imp_right (k _)))))) H
theorem compRest_J {elt : Expr} {x : Str} {scope : Scope} {cl : List (Str × Addr)} {S : List (Addr × Obj) -> Prop} {P : Nat -> Value -> Prop} {Fin : List Value -> List (Addr × Obj) -> Prop} {J : Nat -> List Value -> List (Addr × Obj) -> Prop} {n : Nat}
   (turn : TurnJ prog w A h₀ L m env s elt x scope cl S P J n) (fin : ∀ ys news, J n ys news -> Fin ys news) :
   ∀ k i ys news, i + k = n -> J i ys news -> CompRest prog w A h₀ L m env elt x scope cl s S P Fin k i ys news := by
 intro k
 induction k with
 | zero =>
   intro i ys news e j
   have : i = n := by lia
   subst this
   exact fin ys news j
 | succ k ih =>
   intro i ys news e j v I oI C oC D m₂ h tk E' hP hC hx F N off ne
   exact wpAny_mono (turn i v ys news I oI C oC D m₂ h tk E' (by lia) hP j hC hx F N off ne) (fun _ _ => compEnd_imp fun _ j' => ih (i + 1) _ _ (by lia) j') fun _ _ e => e
theorem Off3.cons {I C D x : Addr} {o : Obj} {l : List (Addr × Obj)} (h : Off3 I C D l) (a : I < x) (b : C < x) (c : D < x) : Off3 I C D ((x, o) :: l) := ⟨⟨Nat.ne_of_gt a, Nat.ne_of_gt b, Nat.ne_of_gt c⟩, h⟩
theorem mem_mid {α : Type} {x a b c p : α} (six : List α) {tl tl' : List α} (h : p ∈ a :: b :: c :: (six ++ (tl ++ x :: tl'))) : p ∈ x :: a :: b :: c :: (six ++ (tl ++ tl')) := by
 rw [← List.append_assoc] at h ⊢
 exact (List.perm_middle (l₁ := a :: b :: c :: (six ++ tl))).mem_iff.mp h
theorem off3_mid {I C D x : Addr} {o : Obj} (six : List (Addr × Obj)) {tl tl' : List (Addr × Obj)} (h : Off3 I C D (six ++ (tl ++ tl'))) (a : I < x) (b : C < x) (c : D < x) : Off3 I C D (six ++ (tl ++ (x, o) :: tl')) :=
 Off3.of fun p hp => by
   have m := Off3.mem h
   simp only [List.mem_append, List.mem_cons] at hp
   rcases hp with hp | hp | hp | hp
   . exact m p (by simp [hp])
   . exact m p (by simp [hp])
   . rw [hp]; exact ⟨Nat.ne_of_gt a, Nat.ne_of_gt b, Nat.ne_of_gt c⟩
   . exact m p (by simp [hp])
theorem has_app {tl tl' : List (Addr × Obj)} {h : Heap} (H : Has (tl ++ tl') h) : Has tl h ∧ Has tl' h := ⟨fun q hq => H q (List.mem_append_left _ hq), fun q hq => H q (List.mem_append_right _ hq)⟩
end
section
variable {prog : Program} {w : World} {A₀ A : Around} {s : Shared} {base h₀ : Heap} {outer : List Env} {L : Addr} {m mg mb : Str -> Option Value} {env : Env} {K : Frag} {p : Program} {loose : List Str} {mean : ExcName -> Option Value}
 {R : Result -> Shared -> Prop} {name qual : Str} {params : Arguments} {body : List Stmt} {scope : Scope} {dV kV doc pm cdv ct oc : Value} {an od : Option Addr} {osl : Array (Option Value)} {f : Addr} {args : Args} {binds : List (Str × Value)}
theorem enter_plainT (B : Below A₀ base outer h₀) (F : Fr h₀ L s.heap m) (X₀ : K.In h₀) (T : Top p loose mean mg mb h₀) (hA : A.frames = some (env :: outer)) (hf : env.frame = some L) (hke : env.scope.kind = .function)
   (ho : K.lookup f = some ⟨oc, od, .func (fnOf name qual params body scope dV kV doc pm an cdv ct), osl⟩) (hcd : codeIn K cdv qual = true) (hroom : A.depth < recursionLimit)
   (hbind : BindsTo s (fnOf name qual params body scope dV kV doc pm an cdv ct) args binds) (hloc : ∀ y ∈ binds, scope.names.lookup y.1 = some .local)
   (h : ∀ L' h₁ tk, Fr s.heap L' h₁ (fun y => binds.reverse.lookup y) -> News s.heap L' h₁ [] -> Below A base (env :: outer) s.heap -> K.In s.heap -> Top p loose mean mg mb s.heap ->
     wpAny (model prog w) (A.deeper (envOf qual scope L' f cdv)) (execs body (envOf qual scope L' f cdv))
       (fun fl s' => LeaveK h₀ L m s.heap R (match fl with | .ret v => v | _ => .none) s')
       (fun e s' => wpAny (model prog w) (A.deeper (envOf qual scope L' f cdv)) («leaving» (envOf qual scope L' f cdv) e) (fun _ s'' => R (.error e) s'') (fun e' s'' => R (.error e') s'') s')
       { s with heap := h₁, toks := tk })
   (hco : scope.isCoroutine = false) (hgen : scope.isGenerator = false) (hk : scope.kind = .function) (hcell : ∀ x ∈ scope.names, x.2 ≠ .cell) : codeAny (model prog w) A (.call (.ref f) args) R s :=
 enter_plain B F X₀ T hA hf hke ho hcd hroom hbind hloc (fun L' h₁ => h L' h₁ _) hco hgen hk hcell
end
theorem get0 {a b c : Value} : [a, b, c][Int.toNat 0]? = some a := rfl
theorem get1 {a b c : Value} : [a, b, c][Int.toNat 1]? = some b := rfl
theorem get2 {a b c : Value} : [a, b, c][Int.toNat 2]? = some c := rfl
end Mine
end
noncomputable section
example : True := by w_top off; trivial
open PySem PySem.W PySem.W.X PyProof.Rows PySem.Calls PySem.Spec
namespace Mine
section
variable {prog : Program} {w : World} {A₀ A : Around} {s : Shared} {base h₀ g : Heap} {outer : List Env} {L L' : Addr} {m mg mb : Str -> Option Value} {env : Env} {K : Frag} {p : Program} {loose : List Str} {mean : ExcName -> Option Value} {news : List (Addr × Obj)}
 {R : Result -> Shared -> Prop} {name qual : Str} {params : Arguments} {body : List Stmt} {scope : Scope} {dV kV doc pm cdv ct oc : Value} {an od : Option Addr} {osl : Array (Option Value)} {f : Addr} {args : Args} {binds : List (Str × Value)}
theorem enter_plainMC (B : Below A₀ base outer h₀) (F : Fr h₀ L s.heap m) (N : News h₀ L s.heap news) (X₀ : K.In h₀) (T : Top p loose mean mg mb h₀) (hA : A.frames = some (env :: outer)) (hf : env.frame = some L) (hke : env.scope.kind = .function)
   (ho : K.lookup f = some ⟨oc, od, .func (fnOf name qual params body scope dV kV doc pm an cdv ct), osl⟩) (hcd : codeIn K cdv qual = true) (hroom : A.depth < recursionLimit)
   (hbind : BindsTo s (fnOf name qual params body scope dV kV doc pm an cdv ct) args binds) (hloc : ∀ y ∈ binds, scope.names.lookup y.1 = some .local)
   (h : ∀ h₁, g = hideAll s.heap (news.map (·.1)) -> Fr g L' h₁ (fun y => binds.reverse.lookup y) -> News g L' h₁ news -> Below A base (env :: outer) g -> K.In g -> Top p loose mean mg mb g ->
     wpAny (model prog w) (A.deeper (envOf qual scope L' f cdv)) (execs body (envOf qual scope L' f cdv))
       (fun fl s' => LeaveK h₀ L m g R (match fl with | .ret v => v | _ => .none) s')
       (fun e s' => wpAny (model prog w) (A.deeper (envOf qual scope L' f cdv)) («leaving» (envOf qual scope L' f cdv) e) (fun _ s'' => R (.error e) s'') (fun e' s'' => R (.error e') s'') s')
       { s with heap := h₁, toks := s.toks + binds.length })
   (hco : scope.isCoroutine = false) (hgen : scope.isGenerator = false) (hk : scope.kind = .function) (hcell : ∀ x ∈ scope.names, x.2 ≠ .cell)
   (hg : hideAll s.heap (news.map (·.1)) = g) (hL : s.heap.objs.size = L') : codeAny (model prog w) A (.call (.ref f) args) R s := by
 subst hg hL
 have G := groundX (R := R) B F N hA hf hke
 obtain ⟨_, BG, st, lv⟩ := G
 refine codeAny_call_def (fd := fnOf name qual params body scope dV kV doc pm an cdv ct) (body := body) (binds := binds) hroom (F.keep _ _ (X₀ _ _ ho)) rfl (T.nolimit.keeps F.keep) (codeRec_of (X₀.keeps F.keep) hcd) rfl hbind hcell hloc (fun h₁ hns hk₁ => ?_) hco hgen hk
 exact wpAny_mono (h h₁ rfl ⟨hns, fun b o e => hk₁ b o (of_hideAll _ e), Nat.le_of_eq (hideAll_size _ _)⟩ (fun p hp => ⟨hk₁ _ _ (N p hp).1, Nat.ne_of_lt (Heap.lt_size (N p hp).1), hideAll_none _ (List.mem_map_of_mem hp)⟩) BG (X₀.keeps st) (T.keeps st)) (fun fl s' hl => lv _ _ hl) fun _ _ y => y
theorem enter_cellsC (B : Below A₀ base outer h₀) (F : Fr h₀ L s.heap m) (X₀ : K.In h₀) (T : Top p loose mean mg mb h₀) (hA : A.frames = some (env :: outer)) (hf : env.frame = some L) (hke : env.scope.kind = .function)
   (ho : K.lookup f = some ⟨oc, od, .func (fnOf name qual params body scope dV kV doc pm an cdv ct), osl⟩) (hcd : codeIn K cdv qual = true) (hroom : A.depth < recursionLimit)
   (hbind : BindsTo s (fnOf name qual params body scope dV kV doc pm an cdv ct) args binds) (hkind : (binds.all fun y => scope.names.lookup y.1 == some .local || scope.names.lookup y.1 == some .cell) = true)
   (hnd : ((cellsFrom 0 scope.names []).map (·.1)).Nodup)
   (h : ∀ h₁ tk cells, Fr s.heap L' h₁ (bindL (envOfC qual scope L' f cdv).kindOf binds fun _ => none) -> News s.heap L' h₁ cells ->
     CellsAre (bindC (envOfC qual scope L' f cdv).kindOf binds fun _ => none) (cellsFrom (L' + 1) scope.names []) cells -> Below A base (env :: outer) s.heap -> K.In s.heap -> Top p loose mean mg mb s.heap ->
     wpAny (model prog w) (A.deeper (envOfC qual scope L' f cdv)) (execs body (envOfC qual scope L' f cdv))
       (fun fl s' => LeaveK h₀ L m s.heap R (match fl with | .ret v => v | _ => .none) s')
       (fun e s' => wpAny (model prog w) (A.deeper (envOfC qual scope L' f cdv)) («leaving» (envOfC qual scope L' f cdv) e) (fun _ s'' => R (.error e) s'') (fun e' s'' => R (.error e') s'') s')
       { s with heap := h₁, toks := tk })
   (hco : scope.isCoroutine = false) (hgen : scope.isGenerator = false) (hk : scope.kind = .function) (hL : s.heap.objs.size = L') : codeAny (model prog w) A (.call (.ref f) args) R s := by
 subst hL
 have G := groundX (R := R) B F (News.nil (h₀ := h₀) (h := s.heap) (L := L)) hA hf hke
 obtain ⟨_, BG, st, lv⟩ := G
 refine codeAny_call_function hroom (F.keep _ _ (X₀ _ _ ho)) rfl hco hgen rfl (codeRec_of (X₀.keeps F.keep) hcd) (hbind _ _ _ _ ?_)
 refine wpAny_newFunctionEnv_cells hk (kindsX hkind _) fun env' he s' x => ?_
 subst he
 refine ⟨(T.nolimit.keeps F.keep).keeps x.toInCall.keep, codeAny_func ?_⟩
 obtain ⟨h₁, tk, rfl, _⟩ := x.done
 have hk₁ := x.toInCall.keep
 obtain ⟨cells, NC, Y⟩ := Cl.news (h₀ := s.heap) (Nat.le_refl _) fun n c hm => ⟨x.cell n c (lookup_of_mem_nodup (cellsFrom_names scope.names 0 (s.heap.objs.size + 1) [] [] rfl ▸ hnd) hm), x.above n c hm⟩
 exact wpAny_mono (h h₁ tk cells ⟨x.toInCall.ns, fun b o e => hk₁ b o e, Nat.le_refl _⟩ (fun q hq => ⟨(NC q hq).1, (NC q hq).2.1, (NC q hq).2.2⟩) Y BG (X₀.keeps F.keep) (T.keeps F.keep)) (fun fl s' hl => lv _ _ hl) fun _ _ y => y
theorem enter_plainC (B : Below A₀ base outer h₀) (F : Fr h₀ L s.heap m) (X₀ : K.In h₀) (T : Top p loose mean mg mb h₀) (hA : A.frames = some (env :: outer)) (hf : env.frame = some L) (hke : env.scope.kind = .function)
   (ho : K.lookup f = some ⟨oc, od, .func (fnOf name qual params body scope dV kV doc pm an cdv ct), osl⟩) (hcd : codeIn K cdv qual = true) (hroom : A.depth < recursionLimit)
   (hbind : BindsTo s (fnOf name qual params body scope dV kV doc pm an cdv ct) args binds) (hloc : ∀ y ∈ binds, scope.names.lookup y.1 = some .local)
   (h : ∀ h₁, Fr s.heap L' h₁ (fun y => binds.reverse.lookup y) -> News s.heap L' h₁ [] -> Below A base (env :: outer) s.heap -> K.In s.heap -> Top p loose mean mg mb s.heap ->
     wpAny (model prog w) (A.deeper (envOf qual scope L' f cdv)) (execs body (envOf qual scope L' f cdv))
       (fun fl s' => LeaveK h₀ L m s.heap R (match fl with | .ret v => v | _ => .none) s')
       (fun e s' => wpAny (model prog w) (A.deeper (envOf qual scope L' f cdv)) («leaving» (envOf qual scope L' f cdv) e) (fun _ s'' => R (.error e) s'') (fun e' s'' => R (.error e') s'') s')
       { s with heap := h₁, toks := s.toks + binds.length })
   (hco : scope.isCoroutine = false) (hgen : scope.isGenerator = false) (hk : scope.kind = .function) (hcell : ∀ x ∈ scope.names, x.2 ≠ .cell) (hL : s.heap.objs.size = L') : codeAny (model prog w) A (.call (.ref f) args) R s := by
 subst hL
 have G := groundX (R := R) B F (News.nil (h₀ := h₀) (h := s.heap) (L := L)) hA hf hke
 obtain ⟨_, BG, st, lv⟩ := G
 refine codeAny_call_def (fd := fnOf name qual params body scope dV kV doc pm an cdv ct) (body := body) (binds := binds) hroom (F.keep _ _ (X₀ _ _ ho)) rfl (T.nolimit.keeps F.keep) (codeRec_of (X₀.keeps F.keep) hcd) rfl hbind hcell hloc (fun h₁ hns hk₁ => ?_) hco hgen hk
 exact wpAny_mono (h h₁ ⟨hns, fun b o e => hk₁ b o e, Nat.le_refl _⟩ News.nil BG (X₀.keeps F.keep) (T.keeps F.keep)) (fun fl s' hl => lv _ _ hl) fun _ _ y => y
theorem enter_plainTC (B : Below A₀ base outer h₀) (F : Fr h₀ L s.heap m) (X₀ : K.In h₀) (T : Top p loose mean mg mb h₀) (hA : A.frames = some (env :: outer)) (hf : env.frame = some L) (hke : env.scope.kind = .function)
   (ho : K.lookup f = some ⟨oc, od, .func (fnOf name qual params body scope dV kV doc pm an cdv ct), osl⟩) (hcd : codeIn K cdv qual = true) (hroom : A.depth < recursionLimit)
   (hbind : BindsTo s (fnOf name qual params body scope dV kV doc pm an cdv ct) args binds) (hloc : ∀ y ∈ binds, scope.names.lookup y.1 = some .local)
   (h : ∀ h₁ tk, Fr s.heap L' h₁ (fun y => binds.reverse.lookup y) -> News s.heap L' h₁ [] -> Below A base (env :: outer) s.heap -> K.In s.heap -> Top p loose mean mg mb s.heap ->
     wpAny (model prog w) (A.deeper (envOf qual scope L' f cdv)) (execs body (envOf qual scope L' f cdv))
       (fun fl s' => LeaveK h₀ L m s.heap R (match fl with | .ret v => v | _ => .none) s')
       (fun e s' => wpAny (model prog w) (A.deeper (envOf qual scope L' f cdv)) («leaving» (envOf qual scope L' f cdv) e) (fun _ s'' => R (.error e) s'') (fun e' s'' => R (.error e') s'') s')
       { s with heap := h₁, toks := tk })
   (hco : scope.isCoroutine = false) (hgen : scope.isGenerator = false) (hk : scope.kind = .function) (hcell : ∀ x ∈ scope.names, x.2 ≠ .cell) (hL : s.heap.objs.size = L') : codeAny (model prog w) A (.call (.ref f) args) R s :=
 enter_plainC B F X₀ T hA hf hke ho hcd hroom hbind hloc (fun h₁ => h h₁ _) hco hgen hk hcell hL
theorem enter_cellsMC (B : Below A₀ base outer h₀) (F : Fr h₀ L s.heap m) (N : News h₀ L s.heap news) (X₀ : K.In h₀) (T : Top p loose mean mg mb h₀) (hA : A.frames = some (env :: outer)) (hf : env.frame = some L) (hke : env.scope.kind = .function)
   (ho : K.lookup f = some ⟨oc, od, .func (fnOf name qual params body scope dV kV doc pm an cdv ct), osl⟩) (hcd : codeIn K cdv qual = true) (hroom : A.depth < recursionLimit)
   (hbind : BindsTo s (fnOf name qual params body scope dV kV doc pm an cdv ct) args binds) (hkind : (binds.all fun y => scope.names.lookup y.1 == some .local || scope.names.lookup y.1 == some .cell) = true)
   (hnd : ((cellsFrom 0 scope.names []).map (·.1)).Nodup)
   (h : ∀ h₁ tk cells, g = hideAll s.heap (news.map (·.1)) -> Fr g L' h₁ (bindL (envOfC qual scope L' f cdv).kindOf binds fun _ => none) -> News g L' h₁ (cells ++ news) ->
     CellsAre (bindC (envOfC qual scope L' f cdv).kindOf binds fun _ => none) (cellsFrom (L' + 1) scope.names []) cells -> (∀ q ∈ news, q.1 < L') -> Below A base (env :: outer) g -> K.In g -> Top p loose mean mg mb g ->
     wpAny (model prog w) (A.deeper (envOfC qual scope L' f cdv)) (execs body (envOfC qual scope L' f cdv))
       (fun fl s' => LeaveK h₀ L m g R (match fl with | .ret v => v | _ => .none) s')
       (fun e s' => wpAny (model prog w) (A.deeper (envOfC qual scope L' f cdv)) («leaving» (envOfC qual scope L' f cdv) e) (fun _ s'' => R (.error e) s'') (fun e' s'' => R (.error e') s'') s')
       { s with heap := h₁, toks := tk })
   (hco : scope.isCoroutine = false) (hgen : scope.isGenerator = false) (hk : scope.kind = .function) (hg : hideAll s.heap (news.map (·.1)) = g) (hL : s.heap.objs.size = L') : codeAny (model prog w) A (.call (.ref f) args) R s := by
 subst hg hL
 have G := groundX (R := R) B F N hA hf hke
 obtain ⟨_, BG, st, lv⟩ := G
 refine codeAny_call_function hroom (F.keep _ _ (X₀ _ _ ho)) rfl hco hgen rfl (codeRec_of (X₀.keeps F.keep) hcd) (hbind _ _ _ _ ?_)
 refine wpAny_newFunctionEnv_cells hk (kindsX hkind _) fun env' he s' x => ?_
 subst he
 refine ⟨(T.nolimit.keeps F.keep).keeps x.toInCall.keep, codeAny_func ?_⟩
 obtain ⟨h₁, tk, rfl, _⟩ := x.done
 have hk₁ := x.toInCall.keep
 obtain ⟨cells, NC, Y⟩ := Cl.news (h₀ := s.heap) (Nat.le_refl _) fun n c hm => ⟨x.cell n c (lookup_of_mem_nodup (cellsFrom_names scope.names 0 (s.heap.objs.size + 1) [] [] rfl ▸ hnd) hm), x.above n c hm⟩
 refine wpAny_mono (h h₁ tk cells rfl ⟨x.toInCall.ns, fun b o e => hk₁ b o (of_hideAll _ e), Nat.le_of_eq (hideAll_size _ _)⟩ (fun q hq => ?_) Y (fun q hq => Heap.lt_size (N q hq).1) BG (X₀.keeps st) (T.keeps st)) (fun fl s' hl => lv _ _ hl) fun _ _ y => y
 rcases List.mem_append.mp hq with hq | hq
 . exact ⟨(NC q hq).1, (NC q hq).2.1, hide_none (NC q hq).2.2⟩
 . exact ⟨hk₁ _ _ (N q hq).1, Nat.ne_of_lt (Heap.lt_size (N q hq).1), hideAll_none _ (List.mem_map_of_mem hq)⟩
end
end Mine
end
open PySem PySem.W PySem.W.X PyProof.Rows PySem.Calls PySem.Spec
local macro_rules | `(tactic| k_steps) => `(tactic| repeat' (first | (k_unfold; (try dsimp only)) | (k_end; kc_close) | (walk1; (first | (with_reducible show wpAny _ _ (subscriptTail _ _ (Value.ref _) (Value.ref _)) _ _ _) | (try dsimp only))) | (leave1; walk_say "STEP leave1"; (try dsimp only)) | fail "no step"))
local macro_rules | `(tactic| walk_at "n") => `(tactic| first | ((with_reducible apply Mine.ltM); assumption; k_mem) | ((with_reducible apply Mine.neM); assumption; k_mem) | ((with_reducible apply Mine.neM'); assumption; k_mem))
local macro_rules | `(tactic| k_lt $h:ident) => `(tactic| replace $h := allLt_of $h)
local macro_rules | `(tactic| k_ne) => `(tactic| first | walk_at "n" | (refine neN ?_; (try dsimp only); omega))
local macro_rules | `(tactic| walk_at "o") => `(tactic| first | walk_at "n" | (rename AllLt _ _ => hz; simp only [AllLt, and_true] at hz; omega) | ((fail_if_success (rename AllLt _ _ => hz; simp only [AllLt, and_true] at hz)); lia))
local macro_rules | `(tactic| walk_at "p") => `(tactic| first | walk_at "n" | ((repeat (rename AllLt _ _ => hz; simp only [AllLt, and_true] at hz)); lia))
local macro_rules | `(tactic| walk_at "l") => `(tactic| exact Mine.isl_of (by assumption) (by assumption))
local macro_rules | `(tactic| walk_at "m") => `(tactic| exact News.isList (by k_asm) (by k_mem))
local macro_rules | `(tactic| walk_at "eval Name") => `(tactic| (k_here; k_dflt (refine nameX_L (by k_asm) (by exact @rfl _ (some _)) ?_ (by exact @rfl _ ScopeKind.function) (by exact @rfl _ (some NameKind.local)); k_whole)))
local macro_rules | `(tactic| k_room) => `(tactic| ktr_room)
noncomputable section
example : True := by w_top off; trivial
namespace Mine
noncomputable def wdat (u : Wd) : PyData := .list ([u.1, u.2.1, u.2.2].map .int)
theorem WdAt.reads {h : Heap} {v : Value} {u : Wd} (H : WdAt h v u) : ∃ as, Reads h v (wdat u) as := by
 obtain ⟨a, rfl, t0, t1, t2, n, e⟩ := H
 exact ⟨_, .list e rfl rfl (.cons (.int _ _) (.cons (.int _ _) (.cons (.int _ _) .nil)))⟩
theorem wds_reads {h : Heap} : ∀ {vs : List Value} {us : List Wd}, vs.length = us.length -> (∀ (k : Nat) v u, vs[k]? = some v -> us[k]? = some u -> WdAt h v u) -> ∃ as, ReadsAll h vs (us.map wdat) as := by
 intro vs
 induction vs with
 | nil =>
   intro us hl H
   obtain rfl := List.length_eq_zero_iff.mp hl.symm
   exact ⟨_, .nil⟩
 | cons v vs ih =>
   intro us hl H
   obtain ⟨u, us, rfl⟩ := List.exists_cons_of_length_eq_add_one hl.symm
   obtain ⟨as, r⟩ := (H 0 v u rfl rfl).reads
   obtain ⟨bs, rs⟩ := ih (Nat.succ.inj hl) fun k v' u' a b => H (k + 1) v' u' a b
   exact ⟨_, .cons r rs⟩
theorem AllAt.reads {h : Heap} {vs : List Value} {us : List Wd} (H : AllAt WdAt h vs us) : ∃ as, ReadsAll h vs (us.map wdat) as := wds_reads H.1 H.2
theorem wdat_eqv (u v : Wd) : PyData.eqv (wdat u) (wdat v) = decide (u = v) := by
 obtain ⟨a, b, c⟩ := u
 obtain ⟨a', b', c'⟩ := v
 unfold wdat
 simp only [PyData.eqv, ked_eqvAll]
 simp
theorem wdat_lay (u : Wd) : (wdat u).canLay0 = true := by simp [wdat, PyData.canLay0, PyData.canLayAll0]
theorem wdat_depth (u : Wd) : (wdat u).depth = 1 := by simp [wdat, PyData.depth, PyData.depthAll]
theorem wdats_lay : ∀ us : List Wd, PyData.canLayAll0 (us.map wdat) = true
 | [] => rfl
 | u :: us => by simp [PyData.canLayAll0, wdat_lay, wdats_lay us]
theorem wdats_depth : ∀ us : List Wd, PyData.depthAll (us.map wdat) ≤ 1
 | [] => by simp [PyData.depthAll]
 | u :: us => by
   have := wdats_depth us
   simp [PyData.depthAll, wdat_depth, Nat.max_le, this]
theorem wdats_eqv : ∀ us vs : List Wd, PyData.eqvAll (us.map wdat) (vs.map wdat) = decide (us = vs)
 | [], [] => by simp [PyData.eqvAll]
 | [], _ :: _ => by simp [PyData.eqvAll]
 | _ :: _, [] => by simp [PyData.eqvAll]
 | a :: r, b :: t => by
   simp only [List.map_cons, PyData.eqvAll, wdat_eqv, wdats_eqv r t]
   by_cases h : a = b <;> by_cases h' : r = t <;> simp [h, h']
theorem wdats_any (us : List Wd) (u : Wd) : (us.map wdat).any (fun y => PyData.eqv y (wdat u)) = decide (u ∈ us) := by
 induction us with
 | nil => simp
 | cons a r ih =>
   simp only [List.map_cons, List.any_cons, wdat_eqv, ih, List.mem_cons]
   by_cases h : a = u
   . simp [h]
   . by_cases h' : u ∈ r <;> simp [h, h', Ne.symm h]
theorem idx_lt {us : List Wd} {u : Wd} (h : u ∈ us) : us.idxOf u < us.length := List.idxOf_lt_length_iff.mpr h
theorem idx_ne {u : Wd} : ∀ {us : List Wd} {j : Nat}, j < us.idxOf u -> ∀ (h2 : j < us.length), us[j] ≠ u
 | a :: r, 0, h, _ => fun e => by
   have e' : a = u := e
   rw [List.idxOf_cons, e'] at h
   simp at h
 | a :: r, j + 1, h, h2 => by
   by_cases e : a = u
   . rw [e, List.idxOf_cons] at h
     simp at h
   . rw [List.idxOf_cons] at h
     have hb : (a == u) = false := by simpa using e
     rw [hb] at h
     exact idx_ne (Nat.lt_of_succ_lt_succ h) (Nat.lt_of_succ_lt_succ h2)
section
variable {prog : Program} {w : World} {A : Around} {E : Value -> Shared -> Prop} {s : Shared}
open SeqAt in
theorem index_words {l : Addr} {vs : List Value} {us : List Wd} {x : Value} {u : Wd} {Q : Value -> Shared -> Prop} (hl : s.heap.IsList l vs.toArray) (hall : AllAt WdAt s.heap vs us) (hx : WdAt s.heap x u) (hu : u ∈ us) (hn : vs.length ≤ 1000)
   (hr : A.units + 64 < cLine) (h : Q (.int (us.idxOf u : Nat) s.toks) { s with toks := s.toks + 1 }) : wpAny (model prog w) A (call (.builtin "list.index") [.ref l, x]) Q E s := by
 obtain ⟨⟨cls, dd, data, sl⟩, ho, hc, n, hd⟩ := id hl
 simp only at hc hd
 subst hc hd
 obtain ⟨as, rs⟩ := hall.reads
 obtain ⟨bs, rx⟩ := hx.reads
 have hj := idx_lt hu
 have hlen := hall.1
 have he := items_eqAt (A := A) (vs := vs.toArray) (by simpa using rs) rx (wdats_lay us) (wdat_lay u) (by have := wdats_depth us; lia)
 have at_ : ∀ j (h1 : j < vs.length) (h2 : j < us.length), PyData.eqv (readOf s.heap vs[j]) (wdat u) = decide (us[j] = u) := fun j h1 h2 => by
   obtain ⟨cs, r⟩ := (hall.2 j _ _ (List.getElem?_eq_getElem h1) (List.getElem?_eq_getElem h2)).reads
   rw [readOf_eq (wdat_lay _) r, wdat_eqv]
 refine call_meets PySem.F.slot_list_index ⟨_, ho, rfl⟩ PySem.F.entry_list_index (PySem.F.args_list_index_2 _ _)
   (list_indexAt l vs.toArray n dd sl x (fun y => PyData.eqv (readOf s.heap y) (wdat u)) (us.idxOf u) (by simp; lia) (by lia) ?_ ?_) ⟨ho, he, h⟩
 . have e : us[us.idxOf u] = u := List.getElem_idxOf hj
   simpa [e] using at_ (us.idxOf u) (by lia) hj
 . intro j hjs hlt
   have h1 : j < vs.length := by simpa using hjs
   simpa [idx_ne hlt (by lia)] using at_ j h1 (by lia)
theorem cmp_words {a b : Addr} {vs vs' : List Value} {us us' : List Wd} {n n' : Nat} {Q : Value -> Shared -> Prop} (ha : s.heap.get? a = some (lst vs n)) (hb : s.heap.get? b = some (lst vs' n')) (h1 : AllAt WdAt s.heap vs us) (h2 : AllAt WdAt s.heap vs' us')
   (hr : A.units + 64 < cLine) (h : Q (.bool (decide (us = us'))) s) : wpAny (model prog w) A (compareOp .Eq (.ref a) (.ref b)) Q E s := by
 obtain ⟨as, r1⟩ := h1.reads
 obtain ⟨bs, r2⟩ := h2.reads
 have sh : ∀ us : List Wd, SeqAt.shaped (.list (us.map wdat)) = true := fun us => by
   have := wdats_depth us
   simp [SeqAt.shaped, PyData.canLay0, PyData.depth, wdats_lay]
   lia
 refine eq_dataH (reads_list_at ha rfl rfl (by simpa using r1)) (reads_list_at hb rfl rfl (by simpa using r2)) (sh us) (sh us') hr ?_
 simpa only [PyData.eqv, wdats_eqv] using h
theorem ne_words {a b : Addr} {vs vs' : List Value} {us us' : List Wd} {n n' : Nat} {Q : Value -> Shared -> Prop} (ha : s.heap.get? a = some (lst vs n)) (hb : s.heap.get? b = some (lst vs' n')) (h1 : AllAt WdAt s.heap vs us) (h2 : AllAt WdAt s.heap vs' us')
   (hr : A.units + 64 < cLine) (h : Q (.bool (!decide (us = us'))) s) : wpAny (model prog w) A (compareOp .NotEq (.ref a) (.ref b)) Q E s := by
 obtain ⟨as, r1⟩ := h1.reads
 obtain ⟨bs, r2⟩ := h2.reads
 have sh : ∀ us : List Wd, SeqAt.shaped (.list (us.map wdat)) = true := fun us => by
   have := wdats_depth us
   simp [SeqAt.shaped, PyData.canLay0, PyData.depth, wdats_lay]
   omega
 refine ne_dataH (reads_list_at ha rfl rfl (by simpa using r1)) (reads_list_at hb rfl rfl (by simpa using r2)) (sh us) (sh us') hr ?_
 simpa only [PyData.eqv, wdats_eqv] using h
theorem notin_words {l : Addr} {x : Value} {vs : List Value} {us : List Wd} {u : Wd} {n : Nat} {Q : Value -> Shared -> Prop} (hl : s.heap.get? l = some (lst vs n)) (hall : AllAt WdAt s.heap vs us) (hx : WdAt s.heap x u)
   (hr : A.units + 64 < cLine) (h : Q (.bool (!decide (u ∈ us))) s) : wpAny (model prog w) A (compareOp .NotIn x (.ref l)) Q E s := by
 obtain ⟨as, rs⟩ := hall.reads
 obtain ⟨bs, rx⟩ := hx.reads
 refine SeqAt.notIn_list_reads (reads_list_at hl rfl rfl (by simpa using rs)) rx (wdats_lay us) (wdat_lay u) (by have := wdats_depth us; lia) ?_
 rw [wdats_any]; exact h
end
end Mine
end
noncomputable section
example : True := by w_top off; trivial
example : Mine.Fill PySem.Challenge.rw_wn0129_03 Mine.KR := by k_fill; trivial
namespace Mine
noncomputable section
local macro_rules | `(tactic| omega) => `(tactic| walk_at "p")
def rowP (n i j : Nat) : List Wd := (List.range j).map fun k : Nat => ((n : Int) - (i : Int), (i : Int) - (k : Int), (k : Int))
def rowsP (n i : Nat) : List Wd := (List.range i).flatMap fun k => rowP n k (k + 1)
theorem rowP_succ (n i j : Nat) : rowP n i (j + 1) = rowP n i j ++ [((n : Int) - (i : Int), (i : Int) - (j : Int), (j : Int))] := by simp [rowP, List.range_succ]
theorem rowsP_succ (n i : Nat) : rowsP n (i + 1) = rowsP n i ++ rowP n i (i + 1) := by simp [rowsP, List.range_succ]
theorem size_down (i : Nat) : Builtin.Range.rangeSize (i : Int) (-1) (-1) = ((i + 1 : Nat) : Int) := by
 unfold Builtin.Range.rangeSize
 rw [if_neg (by omega), if_pos (by omega)]
 simp
theorem perm_in {α : Type} {x a b c d e : α} {tl : List α} {p : α} (h : p ∈ [a, b, c, d] ++ e :: x :: tl) : p ∈ x :: a :: b :: c :: d :: e :: tl :=
 (List.perm_middle (l₁ := [a, b, c, d, e])).mem_iff.mp h
theorem off_in {a b c d x : Addr} {o : Obj} {e : Addr × Obj} {tl : List (Addr × Obj)} (h : Off [a, b, c, d] (e :: tl)) (ha : a < x) (hb : b < x) (hc : c < x) (hd : d < x) : Off [a, b, c, d] (e :: (x, o) :: tl) := by
 intro p hp
 rcases List.mem_cons.mp hp with rfl | hp
 . exact h _ (.head _)
 . rcases List.mem_cons.mp hp with rfl | hp
   . intro q
     simp only [List.mem_cons, List.not_mem_nil, or_false] at q
     rcases q with q | q | q | q
     . exact absurd q (Nat.ne_of_gt ha)
     . exact absurd q (Nat.ne_of_gt hb)
     . exact absurd q (Nat.ne_of_gt hc)
     . exact absurd q (Nat.ne_of_gt hd)
   . exact h _ (.tail _ hp)
local macro_rules | `(tactic| walk_at "eval ListComp") => `(tactic| refine Halt.go ?_)
def Swords_spec (w : World) (loose : List Str) (mean : ExcName -> Option Value) (mg : Str -> Option Value) (mb : Str -> Option Value) (dp : Nat) (un : Nat) (gd : Option (List Code)) (cn : Str) (cs : Scope) (a : Addr) (ccd : Value) (cl : List (Str × Addr)) (outer : List Env) (A₀ : Around) (base : Heap) (h₀ : Heap) (L : Addr) (m : Str -> Option Value) (s : Shared) (Q : Value -> Shared -> Prop) (E : Value -> Shared -> Prop) (tk0 : Tok) : Prop :=
 ∀ (B : Below A₀ base outer h₀),
 ∀ (F : Fr h₀ L s.heap m),
 ∀ (X : (Mine.KR w.params).In h₀),
 ∀ (T : Top topProg loose mean mg mb h₀),
 ∀ (hk : cs.kind = .function),
 ∀ (n : Nat),
 ∀ (hn : n ≤ 3),
 ∀ (hdp : dp < 490),
 ∀ (hun : un < 480),
 ∀ (ret : ∀ D h' tk' vs nl, Fr h₀ L h' m -> Keeps s.heap h' -> s.heap.get? D = none -> h'.get? D = some (lst vs nl) -> AllAt WdAt h' vs (rowsP n (n + 1)) -> Q (.ref D) { s with heap := h', toks := tk' }),
 wpAny (model PW w) (ktrTop dp un gd cn cs L a ccd cl outer) (call (.ref 286) [.int n tk0]) Q E s
abbrev Twords_spec : Type := ((((World × (List Str)) × (ExcName -> Option Value)) × (((Str -> Option Value) × (Str -> Option Value)) × Nat)) × (((Nat × (Option (List Code))) × Str) × ((Scope × Addr) × Value))) × (((((List (Str × Addr)) × (List Env)) × Around) × ((Heap × Heap) × Addr)) × ((((Str -> Option Value) × Shared) × (Value -> Shared -> Prop)) × ((Value -> Shared -> Prop) × Tok)))
def Pwords_spec (p : Twords_spec) : Prop := Swords_spec p.1.1.1.1.1 p.1.1.1.1.2 p.1.1.1.2 p.1.1.2.1.1 p.1.1.2.1.2 p.1.1.2.2 p.1.2.1.1.1 p.1.2.1.1.2 p.1.2.1.2 p.1.2.2.1.1 p.1.2.2.1.2 p.1.2.2.2 p.2.1.1.1.1 p.2.1.1.1.2 p.2.1.1.2 p.2.1.2.1.1 p.2.1.2.1.2 p.2.1.2.2 p.2.2.1.1.1 p.2.2.1.1.2 p.2.2.1.2 p.2.2.2.1 p.2.2.2.2
theorem nwords_spec : Nonempty Twords_spec := ⟨(((((Classical.choice neW, default), default), default), default), (((default, callerA), default), (((default, {}), default), default)))⟩
namespace Cwords_spec
def pt := ep nwords_spec Pwords_spec
@[irreducible] def w := pt.1.1.1.1.1
@[irreducible] def loose := pt.1.1.1.1.2
@[irreducible] def mean := pt.1.1.1.2
@[irreducible] def mg := pt.1.1.2.1.1
@[irreducible] def mb := pt.1.1.2.1.2
@[irreducible] def dp := pt.1.1.2.2
@[irreducible] def un := pt.1.2.1.1.1
@[irreducible] def gd := pt.1.2.1.1.2
@[irreducible] def cn := pt.1.2.1.2
@[irreducible] def cs := pt.1.2.2.1.1
@[irreducible] def a := pt.1.2.2.1.2
@[irreducible] def ccd := pt.1.2.2.2
@[irreducible] def cl := pt.2.1.1.1.1
@[irreducible] def outer := pt.2.1.1.1.2
@[irreducible] def A₀ := pt.2.1.1.2
@[irreducible] def base := pt.2.1.2.1.1
@[irreducible] def h₀ := pt.2.1.2.1.2
@[irreducible] def L := pt.2.1.2.2
@[irreducible] def m := pt.2.2.1.1.1
@[irreducible] def s := pt.2.2.1.1.2
@[irreducible] def Q := pt.2.2.1.2
@[irreducible] def E := pt.2.2.2.1
@[irreducible] def tk0 := pt.2.2.2.2
@[irreducible] def L' : Addr := s.heap.objs.size
theorem hLc : s.heap.objs.size = L' := by delta L'; rfl
theorem main : Swords_spec w loose mean mg mb dp un gd cn cs a ccd cl outer A₀ base h₀ L m s Q E tk0 := by
 unfold Swords_spec
 intro B F X T hk n hn hdp hun ret
 refine wpAny_call ?_
 k_dflt (refine' enter_cellsC (L' := L') (hL := ?hL) ?k1 ?k2 ?k3 ?k5 ?kA ?kF ?kK ?k6 ?k7 ?k8 ?k9 ?kB ?kD ?_ ?c2 ?c3 ?c4; (case kA | kF => exact rfl); (case kK => assumption); (case k1 | k2 => k_asm); (case hL => exact hLc); (case k3 | k5 => k_asm); (case k6 | k7 => k_is); (case k8 => ktr_room); (case k9 => exact BindsTo.of_eq rfl); (case kB => exact rfl); (case kD => decide +kernel); (case c2 | c3 | c4 => exact rfl); intro h' tk' cells' F' N' Y' B' X' T'; k_cells Y'; (try dsimp only); (try k_fold))
 rename_i o1 d1
 rename Fr s.heap L' _ _ => F1
 replace d1 : o1.data = .cell (some (.int n tk0)) := by with_unfolding_all exact d1
 replace F1 : Fr s.heap L' h' (fun y => none) := by with_unfolding_all exact F1
 k_steps
 refine ListComp2 (h₀ := s.heap) (L := L') (m := fun _ => none) (by rfl) (by with_unfolding_all rfl) (by decide) (by rfl) (by decide) (by rfl) (by rfl) (by decide) ?_ (by intro _; rfl) (by intro _ _; rfl)
 k_steps
 rename_i hKs
 rename IsRange _ _ _ _ _ _ _ _ => hR
 refine ⟨_, n, -1, -1, _, _, _, n + 1, _, _, _, rfl, rfl, by assumption, by assumption, hR, by (obtain rfl | rfl | rfl | rfl : n = 0 ∨ n = 1 ∨ n = 2 ∨ n = 3 := by omega) <;> decide, size_down n,
   fun i ys news => ∃ tl, news = (L' + 1, o1) :: tl ∧ ys.length ≤ 10 * i ∧ ∀ h, Has tl h -> AllAt WdAt h ys (rowsP n i), ⟨[], rfl, Nat.zero_le _, fun h _ => AllAt.nil⟩, ?_, ?_⟩
 . rintro ys news ⟨tl, rfl, hlen, hall⟩ D h tk F2 N2 off
   try dsimp only
   k_steps
   rename Fr h₀ L _ m => kF9
   exact ret D _ _ ys _ kF9 (fun b o e => F2.keep b o e) (N2 _ (.head _)).2.2 (N2 _ (.head _)).1 (hall h fun q hq => (N2 q (.tail _ (.tail _ hq))).1)
 . rintro i ys news I oI C oC D m₂ h tk E' hi ⟨tl, rfl, hlen, hall⟩ hC t hx F2 N2 off nd
   simp only [List.nodup_cons, List.mem_cons, List.not_mem_nil, or_false, not_or, List.nodup_nil, and_true, not_false_eq_true] at nd
   simp only [List.cons_append, List.nil_append] at N2
   k_steps
   rename IsRange _ _ _ _ _ _ _ _ => hR2
   have e2 : ((n : Int) - ((n : Int) + (i : Nat) * -1)) = ((i : Nat) : Int) := by omega
   rw [e2] at hR2
   refine ⟨_, i, -1, -1, _, _, _, i + 1, _, _, (L' + 1, o1) :: tl, rfl, rfl, by assumption, by assumption, off, hR2, ?_, size_down i,
     fun j ys news => j ≤ i + 1 ∧ ∃ tl, news = (L' + 1, o1) :: tl ∧ ys.length ≤ 10 * i + j ∧ ∀ h, Has tl h -> AllAt WdAt h ys (rowsP n i ++ rowP n i j), ⟨Nat.zero_le _, tl, rfl, hlen, fun h ht => by simpa [rowP] using hall h ht⟩, ?_, ?_, ?_⟩
   . have hi3 : i ≤ 3 := by omega
     (obtain q | q | q | q : i = 0 ∨ i = 1 ∨ i = 2 ∨ i = 3 := by omega) <;> (rw [q]; decide)
   . rintro ys' news'' ⟨-, tl', rfl, hlen', hall'⟩
     exact ⟨tl', rfl, by omega, fun h ht => by rw [rowsP_succ]; exact hall' h ht⟩
   . rintro j ys' news'' ⟨hj, tl', rfl, hlen', hall'⟩
     omega
   . rintro j ys' news'' I2 oI2 I oI C oC D m₃ h tk E'' hj ⟨hj', tl', rfl, hlen', hall'⟩ hC' hx' ⟨t2, hy'⟩ F3 N3 off3 nd3
     simp only [List.nodup_cons, List.mem_cons, List.not_mem_nil, or_false, not_or, List.nodup_nil, and_true, not_false_eq_true] at nd3
     simp only [List.cons_append, List.nil_append] at N3
     k_steps
     rename_i l3 h3 F4 N4 l1
     refine ⟨_, _, (L' + 1, o1) :: (l3, _) :: tl', rfl, F4, fun p hp => N4 p (perm_in hp), off_in off3 l1.1 l1.2.1 l1.2.2.1 l1.2.2.2.1, by omega, _, rfl, by simp only [List.length_append, List.length_singleton]; omega, fun h ht => ?_⟩
     rw [rowP_succ, ← List.append_assoc]
     refine (hall' h fun q hq => ht q (.tail _ hq)).push ⟨l3, rfl, ?_⟩
     have z := ht _ (.head _)
     rw [show (n : Int) - ((n : Int) + (i : Nat) * -1) - ((i : Int) + (j : Nat) * -1) = j by omega, show (n : Int) + (i : Nat) * -1 = (n : Int) - i by omega, show (i : Int) + (j : Nat) * -1 = (i : Int) - j by omega] at z
     exact ⟨_, _, _, _, z⟩
end Cwords_spec
theorem words_spec (w : World) (loose : List Str) (mean : ExcName -> Option Value) (mg mb : Str -> Option Value) (dp un : Nat) (gd : Option (List Code)) (cn : Str) (cs : Scope) (a : Addr) (ccd : Value) (cl : List (Str × Addr)) (outer : List Env) (A₀ : Around) (base h₀ : Heap) (L : Addr) (m : Str -> Option Value) (s : Shared) (Q E : Value -> Shared -> Prop) (B : Below A₀ base outer h₀) (F : Fr h₀ L s.heap m) (X : (Mine.KR w.params).In h₀) (T : Top topProg loose mean mg mb h₀) (hk : cs.kind = .function) (tk0 : Tok) (n : Nat) (hn : n ≤ 3) (hdp : dp < 490) (hun : un < 480) (ret : ∀ D h' tk' vs nl, Fr h₀ L h' m -> Keeps s.heap h' -> s.heap.get? D = none -> h'.get? D = some (lst vs nl) -> AllAt WdAt h' vs (rowsP n (n + 1)) -> Q (.ref D) { s with heap := h', toks := tk' }) :
 wpAny (model PW w) (ktrTop dp un gd cn cs L a ccd cl outer) (call (.ref 286) [.int n tk0]) Q E s :=
 drink nwords_spec Pwords_spec (by with_unfolding_all exact Cwords_spec.main) (((((w, loose), mean), ((mg, mb), dp)), (((un, gd), cn), ((cs, a), ccd))), ((((cl, outer), A₀), ((base, h₀), L)), (((m, s), Q), (E, tk0)))) B F X T hk n hn hdp hun ret
end
end Mine
end
noncomputable section
example : True := by w_top off; trivial
namespace Mine
noncomputable section
local macro_rules | `(tactic| omega) => `(tactic| walk_at "p")
def TieAt (h : Heap) (v : Value) (r : Rl) : Prop := ∃ p va vb n, v = .ref p ∧ h.get? p = some (lst [va, vb] n) ∧ WdAt h va r.1 ∧ WdAt h vb r.2
theorem TieAt.ks {h h' : Heap} {v : Value} {r : Rl} (H : TieAt h v r) (k : KS h h') : TieAt h' v r := Exists.imp (fun _ => Exists.imp fun _ => Exists.imp fun _ => Exists.imp fun _ => And.imp_right (And.imp (k _ _ isSeq_lst) (And.imp (·.ks k) (·.ks k)))) H
theorem int_of {vs : List Value} {ns : List Int} (h : IntsAre vs ns) : ∀ v ∈ vs, ∃ i t, v = .int i t := by
 induction h with
 | nil => intro v hv; cases hv
 | cons i t _ ih =>
   intro v hv
   rcases List.mem_cons.mp hv with rfl | hv
   . exact ⟨i, t, rfl⟩
   . exact ih v hv
theorem ints_sub {vs : List Value} {ns : List Int} (h : IntsAre vs ns) : ∀ zs : List Value, (∀ v ∈ zs, v ∈ vs) -> ∃ ms, IntsAre zs ms
 | [], _ => ⟨[], .nil⟩
 | z :: zs, hs => by
   obtain ⟨i, t, rfl⟩ := int_of h z (hs z (.head _))
   obtain ⟨ms, hm⟩ := ints_sub h zs fun v hv => hs v (.tail _ hv)
   exact ⟨i :: ms, .cons i t hm⟩
theorem int_at {vs : List Value} {ns : List Int} (h : IntsAre vs ns) {i : Nat} {v : Value} (e : vs[i]? = some v) : ∃ k t, v = .int k t ∧ k ∈ ns := by
 have hlt : i < ns.length := by
   rcases Nat.lt_or_ge i ns.length with h' | h'
   . exact h'
   . rw [List.getElem?_eq_none (by rw [h.length]; exact h')] at e; cases e
 obtain ⟨t, ht⟩ := h.get i _ (List.getElem?_eq_getElem hlt)
 rw [e] at ht
 exact ⟨_, t, Option.some.inj ht, List.getElem_mem hlt⟩
theorem slice_ints {vs : List Value} {ns : List Int} (h : IntsAre vs ns) (lo hi st : Option Int) : ∃ ms, IntsAre (slicePick vs.toArray lo hi st).toList ms := by
 refine ints_sub h _ fun v hv => ?_
 unfold slicePick at hv
 obtain ⟨b, _, hb⟩ := List.mem_filterMap.mp hv
 simp only [List.getElem?_toArray] at hb
 exact List.mem_of_getElem? hb
section
variable {prog : Program} {w : World} {A : Around} {E : Value -> Shared -> Prop} {s : Shared} {h₀ : Heap} {L l : Addr} {m : Str -> Option Value} {news : List (Addr × Obj)} {value slice : PySem.Expr} {Q : Value -> Shared -> Prop}
theorem slice_any {vs : List Value} {ns : List Int} {vl vu vk : Value} {lo hi st : Option Int} {ops : List Value} (F : Fr h₀ L s.heap m) (N : News h₀ L s.heap news) (hl : s.heap.IsList l vs.toArray) (hi' : IntsAre vs ns) (pl : IsPart vl lo) (pu : IsPart vu hi) (pk : IsPart vk st) (h0 : st ≠ some 0)
   (h : ∀ D h' zs ms, IntsAre zs ms -> Fr h₀ L h' m -> News h₀ L h' ((D, PySem.W.listOf zs.toArray 0) :: news) -> (∀ p ∈ news, p.1 < D) -> Q (.ref D) { s with heap := h' })
   (hs : subscripted slice false (.ref l) (.ref s.heap.objs.size) = operate ops (getItem (.ref l) (.ref s.heap.objs.size))) (ht : ∀ r, letTemporaryGo value (.ref l) r = pure ()) (hz : vs.toArray.size ≤ sizeLine) :
   wpAny (model prog w) A (subscriptTail value slice (.ref l) (.ref s.heap.objs.size)) Q E { s with heap := s.heap.push { cls := .type "slice", data := .fields #[vl, vu, vk] } } := by
 obtain ⟨ms, hm⟩ := slice_ints hi' lo hi st
 exact kmk_slice3_lit F N hl pl pu pk h0 rfl (fun D h' => h D h' _ ms hm) hs ht hz
theorem slice_anyN {hp : Heap} {gs : Array GenState} {dr : Drawn} {tk : Nat} {os : OsState} {vs : List Value} {ns : List Int} {vl vu vk : Value} {lo hi st : Option Int} {ops : List Value} (F : Fr h₀ L hp m) (N : News h₀ L hp news) (hl : hp.IsList l vs.toArray) (hi' : IntsAre vs ns) (pl : IsPart vl lo) (pu : IsPart vu hi) (pk : IsPart vk st) (h0 : st ≠ some 0)
   (h : ∀ D h' zs ms, IntsAre zs ms -> Fr h₀ L h' m -> News h₀ L h' ((D, PySem.W.listOf zs.toArray 0) :: news) -> (∀ p ∈ news, p.1 < D) -> Q (.ref D) ⟨h', gs, dr, tk, os⟩)
   (hs : subscripted slice false (.ref l) (.ref hp.objs.size) = operate ops (getItem (.ref l) (.ref hp.objs.size))) (ht : ∀ r, letTemporaryGo value (.ref l) r = pure ()) (hz : vs.toArray.size ≤ sizeLine) :
   wpAny (model prog w) A (subscriptTail value slice (.ref l) (.ref hp.objs.size)) Q E ⟨hp.push { cls := .type "slice", data := .fields #[vl, vu, vk] }, gs, dr, tk, os⟩ :=
 slice_any (s := ⟨hp, gs, dr, tk, os⟩) F N hl hi' pl pu pk h0 h hs ht hz
theorem item_all {vs : List Value} {xs : List Wd} {H : Heap} {i : Int} {t : Tok} (hl : s.heap.IsList l vs.toArray) (hall : AllAt WdAt H vs xs) (h0 : 0 ≤ i) (h1 : i < vs.length) (hfit : vs.length ≤ 1000)
   (h : ∀ a u, u ∈ xs -> xs[i.toNat]? = some u -> IsW H a u.1 u.2.1 u.2.2 -> Q (.ref a) s)
   (hs : subscripted slice false (.ref l) (.int i t) = operate [.ref l, .int i t] (getItem (.ref l) (.int i t))) (hg : ∀ r, letTemporaryGo value (.ref l) r = pure ()) :
   wpAny (model prog w) A (subscriptTail value slice (.ref l) (.int i t)) Q E s := by
 obtain ⟨v, u, hv, hu, a, rfl, hW⟩ := hall.get (k := i.toNat) (by omega)
 exact item_listL hl h0 (by omega) hv (h a u (List.mem_of_getElem? hu) hu hW) hs hg
end
theorem isl_up {h₀ h : Heap} {L a : Addr} {m : Str -> Option Value} {xs : Array Value} (F : Fr h₀ L h m) (hl : h₀.IsList a xs) : h.IsList a xs := let ⟨_, e, r⟩ := hl; ⟨_, F.keep _ _ e, r⟩
local macro_rules | `(tactic| walk_at "subscriptTail Name Slice ref ref") => `(tactic| (k_dflt (refine slice_anyN (by k_asm) (by k_asm) (by exact isl_up (by assumption) (by assumption)) (by assumption) (by kmk_part) (by kmk_part) (by kmk_part) (by decide) ?_ (by with_unfolding_all rfl) (by kmk_pure) (by (simp only [List.size_toArray]; exact Nat.le_trans (by assumption) (by decide)))); intro D' h' zs' ms' hz' F' N' l1; (try k_lt l1); (try k_sweep)))
local macro_rules | `(tactic| walk_at "subscriptTail Name BinOp ref int") => `(tactic| (k_dflt (refine item_all (by walk_at "m") (by assumption) (by omega) (by omega) (by omega) ?_ (by with_unfolding_all rfl) (by kmk_pure)); intro a' u' hu' hx' hW'))
local macro_rules | `(tactic| walk_at $k) => if ["storeName", "eval ListComp", "exec Assign cons ListComp", "CompSrc", "CompEnd", "call ref"].contains k.getString then `(tactic| refine Halt.go ?_) else Lean.Macro.throwUnsupported
section
variable (w : World) (loose : List Str) (mean : ExcName -> Option Value) (mg mb : Str -> Option Value) (dp un : Nat) (gd : Option (List Code)) (cn : Str) (cs : Scope) (a : Addr) (ccd : Value) (cl : List (Str × Addr)) (outer : List Env) (A₀ : Around) (base h₀ : Heap) (L : Addr) (m : Str -> Option Value) (s : Shared) (Q E : Value -> Shared -> Prop) (al : Addr) (us : List Value) (ys : List Int)
def Qties_spec : Prop :=
 ∀ (hl : s.heap.IsList al us.toArray),
 ∀ (hli : IntsAre us ys),
 ∀ (hfit : us.length ≤ 63),
 ∀ (hdp : dp < 480),
 ∀ (hun : un < 470),
 ∀ (ret : ∀ D h' tk' vs nl rs, Fr h₀ L h' m -> Keeps s.heap h' -> s.heap.get? D = none -> h'.get? D = some (lst vs nl) -> AllAt TieAt h' vs rs -> vs.length = 3 -> (∀ r ∈ rs, r.1 ∈ rowsP 2 3 ∧ r.2 ∈ rowsP 2 3) -> Q (.ref D) { s with heap := h', toks := tk' }),
 wpAny (model PW w) (ktrTop dp un gd cn cs L a ccd cl outer) (call (.ref 291) [.ref al]) Q E s
def Sties_spec : Prop :=
 ∀ (B : Below A₀ base outer h₀),
 ∀ (F : Fr h₀ L s.heap m),
 ∀ (X : (Mine.KR w.params).In h₀),
 ∀ (T : Top topProg loose mean mg mb h₀),
 ∀ (hk : cs.kind = .function),
 Qties_spec w dp un gd cn cs a ccd cl outer h₀ L m s Q E al us ys
end
abbrev Tties_spec : Type := ((((World × (List Str)) × ((ExcName -> Option Value) × (Str -> Option Value))) × (((Str -> Option Value) × Nat) × Nat)) × ((((Option (List Code)) × Str) × Scope) × ((Addr × Value) × (List (Str × Addr))))) × (((((List Env) × Around) × Heap) × ((Heap × Addr) × (Str -> Option Value))) × (((Shared × (Value -> Shared -> Prop)) × (Value -> Shared -> Prop)) × ((Addr × (List Value)) × (List Int))))
def Pties_spec (p : Tties_spec) : Prop := Sties_spec p.1.1.1.1.1 p.1.1.1.1.2 p.1.1.1.2.1 p.1.1.1.2.2 p.1.1.2.1.1 p.1.1.2.1.2 p.1.1.2.2 p.1.2.1.1.1 p.1.2.1.1.2 p.1.2.1.2 p.1.2.2.1.1 p.1.2.2.1.2 p.1.2.2.2 p.2.1.1.1.1 p.2.1.1.1.2 p.2.1.1.2 p.2.1.2.1.1 p.2.1.2.1.2 p.2.1.2.2 p.2.2.1.1.1 p.2.2.1.1.2 p.2.2.1.2 p.2.2.2.1.1 p.2.2.2.1.2 p.2.2.2.2
theorem nties_spec : Nonempty Tties_spec := ⟨(((((Classical.choice neW, default), default), default), default), ((((default, callerA), default), default), ((({}, default), default), default)))⟩
namespace Cties_spec
def pt := ep nties_spec Pties_spec
@[irreducible] def w := pt.1.1.1.1.1
@[irreducible] def loose := pt.1.1.1.1.2
@[irreducible] def mean := pt.1.1.1.2.1
@[irreducible] def mg := pt.1.1.1.2.2
@[irreducible] def mb := pt.1.1.2.1.1
@[irreducible] def dp := pt.1.1.2.1.2
@[irreducible] def un := pt.1.1.2.2
@[irreducible] def gd := pt.1.2.1.1.1
@[irreducible] def cn := pt.1.2.1.1.2
@[irreducible] def cs := pt.1.2.1.2
@[irreducible] def a := pt.1.2.2.1.1
@[irreducible] def ccd := pt.1.2.2.1.2
@[irreducible] def cl := pt.1.2.2.2
@[irreducible] def outer := pt.2.1.1.1.1
@[irreducible] def A₀ := pt.2.1.1.1.2
@[irreducible] def base := pt.2.1.1.2
@[irreducible] def h₀ := pt.2.1.2.1.1
@[irreducible] def L := pt.2.1.2.1.2
@[irreducible] def m := pt.2.1.2.2
@[irreducible] def s := pt.2.2.1.1.1
@[irreducible] def Q := pt.2.2.1.1.2
@[irreducible] def E := pt.2.2.1.2
@[irreducible] def al := pt.2.2.2.1.1
@[irreducible] def us := pt.2.2.2.1.2
@[irreducible] def ys := pt.2.2.2.2
@[irreducible] def L' : Addr := s.heap.objs.size
theorem hLc : s.heap.objs.size = L' := by delta L'; rfl
theorem main : Sties_spec w loose mean mg mb dp un gd cn cs a ccd cl outer A₀ base h₀ L m s Q E al us ys := by
 unfold Sties_spec Qties_spec
 intro B F X T hk hl hli hfit hdp hun ret
 refine wpAny_call ?_
 k_dflt (refine' enter_cellsC (L' := L') (hL := ?hL) ?k1 ?k2 ?k3 ?k5 ?kA ?kF ?kK ?k6 ?k7 ?k8 ?k9 ?kB ?kD ?_ ?c2 ?c3 ?c4; (case kA | kF => exact rfl); (case kK => assumption); (case k1 | k2 => k_asm); (case hL => exact hLc); (case k3 | k5 => k_asm); (case k6 | k7 => k_is); (case k8 => ktr_room); (case k9 => exact BindsTo.of_eq rfl); (case kB => exact rfl); (case kD => decide +kernel); (case c2 | c3 | c4 => exact rfl); intro h' tk' cells' F' N' Y' B' X' T'; k_cells Y'; (try dsimp only); (try k_fold))
 rename_i o1 o2 o3 d1 d2 d3
 rename Fr s.heap L' _ _ => F1
 replace d1 : o1.data = .cell none := by with_unfolding_all exact d1
 replace d2 : o2.data = .cell none := by with_unfolding_all exact d2
 replace d3 : o3.data = .cell (some (.ref al)) := by with_unfolding_all exact d3
 replace F1 : Fr s.heap L' h' (fun y => none) := by with_unfolding_all exact F1
 k_steps
 refine inCellsS ?_
 rename Fr _ _ _ _ => F'
 rename News _ _ _ _ => N'
 with_unfolding_all refine stCNk (own := [_, _]) (rest := [_]) F' N' rfl (by assumption) (by cells_apart) (by cells_apart) ?_
 intro _ _ _ _ _
 k_steps
 rename Fr s.heap L' _ _ => F9
 rename News s.heap L' _ _ => N9
 refine words_spec w loose mean mg mb _ _ _ _ _ _ _ _ _ _ _ _ _ _ _ _ _ B' F9 X' T' rfl _ 2 (by decide) (by show dp + 1 < 490; omega) (by show un + 3 < 480; omega) ?_
 intro aw h1 tk1 ws nw G1 K1 hw0 hw hws
 obtain ⟨tl, NT1, off0, kp0⟩ := swallow G1 [L' + 1 + 1 + 1]
 have c1 := N9 _ (.tail _ (.head _))
 have kp1 : ∀ h₂, Keeps s.heap h₂ -> Has tl h₂ -> KS h1 h₂ := fun h₂ k t => (kp0 h₂ k t).all fun b hb o e => by
   rw [List.mem_singleton.mp hb, K1 _ _ c1.1] at e
   cases e
   exact no_cell d1
 have q1 : aw ≠ L' + 1 + 1 + 1 := ne_none c1.1 hw0
 rename AllLt _ ((L' + 1 + 1 + 1, _) :: _) => lb; simp only [AllLt, and_true] at lb
 have q2 := Nat.ne_of_gt lb.1
 have NN := News.app (News.after F9 N9 K1 hw0 hw) NT1
 simp only [List.cons_append, List.nil_append] at NN
 have off1 : ∀ p ∈ tl, p.1 ≠ L' + 1 + 1 + 1 := fun p hp q => off0 p hp (by simp [q])
 clear N9 F9 NT1 K1 hw0 c1 off0 kp0
 try dsimp only
 k_steps
 rename Fr s.heap L' _ _ => F9
 refine inCellsS ?_
 with_unfolding_all refine stCN (own := [_, _]) (rest := _ :: _ :: tl) F9 NN rfl d1 ?_ ?_ ?_
 . intro p hp
   rcases List.mem_cons.mp hp with rfl | hp
   . exact q1
   . rw [List.mem_singleton.mp hp]; exact q2
 . intro p hp
   rcases List.mem_cons.mp hp with rfl | hp
   . exact Nat.ne_of_lt (Nat.lt_succ_self _)
   . rcases List.mem_cons.mp hp with rfl | hp
     . exact Nat.ne_of_lt (Nat.lt_succ_of_lt (Nat.lt_succ_self _))
     . exact off1 p hp
 intro h2 o2 F2 N2 d2
 simp only [List.cons_append, List.nil_append] at N2
 try dsimp only
 k_steps
 k_dflt (refine LCg.Assign_ListComp_U (F₀ := by k_asm) (by rfl) (by with_unfolding_all rfl) (by with_unfolding_all rfl) (by decide) (by rfl) (by decide) (by rfl) (by rfl) (by rfl) ?_)
 k_dflt lcg_toSrc
 rename IsRange _ _ _ _ _ _ _ _ => hR
 rename Fr s.heap L' _ _ => F3
 rename News s.heap L' _ _ => N3
 refine LCg.CompSrc.range (by rfl) F3 N3 hR (by decide) (by rfl) (by decide) fun g => compRest_J (J := fun i ys news => (∃ ns, IntsAre ys ns ∧ ∀ n ∈ ns, 0 ≤ n ∧ n < 36) ∧ ys.length = i ∧ news = _) ?_ ?_ 3 0 [] _ rfl ⟨⟨[], .nil, by simp⟩, rfl, rfl⟩
 . rintro i v ys news I oI C oC D m₂ h tk E' hi ⟨t, rfl⟩ ⟨⟨ns, hys, hns⟩, hlen, rfl⟩ hC hx F4 N4 off ne
   have hi0 : (0 : Int) + (i : Nat) < 3 := by omega
   k_steps
   rename Fr s.heap L' _ _ => F5
   rename News s.heap L' _ _ => N5
   refine LCg.CompEnd.intro F5 N5 _ (fun p hp => by first | exact .tail _ hp | exact hp) off ?_ ?_
   . exact trivial
   . refine ⟨⟨ns ++ [_], hys.append (.cons _ _ .nil), fun n hn => ?_⟩, by simp [hlen], rfl⟩
     rcases List.mem_append.mp hn with hn | hn
     . exact hns n hn
     . rw [List.mem_singleton.mp hn]
       exact ⟨Int.fmod_nonneg_of_pos _ (by decide), Int.fmod_lt_of_pos _ (by decide)⟩
 . rintro ys news ⟨⟨ns, hys, hns⟩, hlen, rfl⟩
   k_steps
   k_dflt (refine LCg.ListComp_U (F₀ := by k_asm) (by with_unfolding_all rfl) (by decide) (by rfl) (by decide) (by rfl) ?_)
   k_dflt lcg_toSrc
   rename Fr s.heap L' _ _ => F4
   rename News s.heap L' _ _ => N4
   refine LCg.CompSrc.ledger (by rfl) F4 N4 (.head _) (by rw [List.size_toArray, hlen]; decide) fun g => compRest_J (J := fun i zs news => ∃ tl', news = _ :: _ :: _ :: _ :: _ :: _ :: (tl ++ tl') ∧ zs.length = i ∧ ∃ rs : List Rl, rs.length = i ∧ (∀ r ∈ rs, r.1 ∈ rowsP 2 3 ∧ r.2 ∈ rowsP 2 3) ∧ ∀ h, Keeps s.heap h -> Has (tl ++ tl') h -> AllAt TieAt h zs rs) ?_ ?_ _ 0 [] _ (Nat.zero_add _) ⟨[], by rw [List.append_nil], rfl, [], rfl, by simp, fun _ _ _ => AllAt.nil⟩
   . rintro i v zs news I oI C oC D m₂ h tk E' hi hv ⟨tl', rfl, hzs, rs, hrl, hrs, hall⟩ hC hx F5 N5 off ne
     obtain ⟨k, t, rfl, hk⟩ := int_at hys (by simpa using hv)
     obtain ⟨hk0, hk36⟩ := hns k hk
     have hwl : ws.length = 6 := hws.1
     have hfd : 0 ≤ k.fdiv 6 ∧ k.fdiv 6 < 6 := by rw [Int.fdiv_eq_ediv_of_nonneg _ (by decide)]; omega
     have hfm : 0 ≤ k.fmod 6 ∧ k.fmod 6 < 6 := ⟨Int.fmod_nonneg_of_pos _ (by decide), Int.fmod_lt_of_pos _ (by decide)⟩
     k_steps
     rename Fr s.heap L' _ _ => F6
     rename News s.heap L' _ _ => N6
     rename AllLt _ ((I, _) :: _) => l6; simp only [AllLt, and_true] at l6
     rename_i a1 u1 hu1 _ hW1 a2 u2 hu2 _ hW2 _ _
     refine Halt.mk ?_
     refine LCg.CompEnd.intro F6 N6 (_ :: _ :: _ :: _ :: _ :: _ :: (tl ++ _ :: tl')) (fun p hp => mem_mid [_, _, _, _, _, _] hp) (off3_mid [_, _, _, _, _, _] off l6.1 l6.2.1 l6.2.2.1) ?_ ?_
     . exact Or.inr ⟨_, .head _, rfl, _, rfl⟩
     refine ⟨_ :: tl', rfl, by simp [hzs], rs ++ [(u1, u2)], by simp [hrl], fun r hr => ?_, fun h2 hk2 ht2 => ?_⟩
     . rcases List.mem_append.mp hr with hr | hr
       . exact hrs r hr
       . rw [List.mem_singleton.mp hr]; exact ⟨hu1, hu2⟩
     . obtain ⟨t1, t2⟩ := has_app ht2
       have kk := kp1 h2 hk2 t1
       exact (hall h2 hk2 fun q hq => (List.mem_append.mp hq).elim (t1 q) fun hq => t2 q (.tail _ hq)).push ⟨_, _, _, _, rfl, t2 _ (.head _), ⟨_, rfl, hW1.ks kk⟩, ⟨_, rfl, hW2.ks kk⟩⟩
   . rintro zs news ⟨tl', rfl, hzs, rs, hrl, hrs, hall⟩
     k_steps
     rename Fr h₀ L _ m => kF9
     rename Fr s.heap L' _ _ => F5
     rename News s.heap L' _ _ => N5
     have hD := N5 _ (.head _)
     exact ret _ _ _ zs _ rs kF9 (fun b o e => F5.keep b o e) hD.2.2 hD.1 (hall _ F5.keep fun q hq => (N5 q (.tail _ (.tail _ (.tail _ (.tail _ (.tail _ (.tail _ (.tail _ hq))))))) ).1) (by rw [hzs, List.size_toArray, hlen]) hrs
end Cties_spec
theorem ties_spec : ∀ w loose mean mg mb dp un gd cn cs a ccd cl outer A₀ base h₀ L m s Q E (B : Below A₀ base outer h₀) (F : Fr h₀ L s.heap m) (X : (Mine.KR w.params).In h₀) (T : Top topProg loose mean mg mb h₀) (hk : cs.kind = .function) al us ys, Qties_spec w dp un gd cn cs a ccd cl outer h₀ L m s Q E al us ys :=
 fun w loose mean mg mb dp un gd cn cs a ccd cl outer A₀ base h₀ L m s Q E B F X T hk al us ys => drink nties_spec Pties_spec (by with_unfolding_all exact Cties_spec.main) (((((w, loose), (mean, mg)), ((mb, dp), un)), (((gd, cn), cs), ((a, ccd), cl))), ((((outer, A₀), base), ((h₀, L), m)), (((s, Q), E), ((al, us), ys)))) B F X T hk
end
end Mine
end
noncomputable section
example : True := by w_top off; trivial
namespace Mine
noncomputable section
local macro_rules | `(tactic| omega) => `(tactic| walk_at "p")
local macro_rules | `(tactic| walk_at "exec Assign cons ListComp") => `(tactic| refine Halt.go ?_)
local macro_rules | `(tactic| walk_at "CompSrc") => `(tactic| refine Halt.go ?_)
local macro_rules | `(tactic| walk_at "subscriptTail Name Slice ref ref") => `(tactic| (k_dflt (refine slice_anyN (by k_asm) (by k_asm) (by exact isl_up (by assumption) (by assumption)) (by assumption) (by kmk_part) (by kmk_part) (by kmk_part) (by decide) ?_ (by with_unfolding_all rfl) (by kmk_pure) (by (simp only [List.size_toArray]; exact Nat.le_trans (by assumption) (by decide)))); intro D' h' zs' ms' hz' F' N' l1; (try k_lt l1); (try k_sweep)))
local macro_rules | `(tactic| walk_at "call builtin:list.pop") => `(tactic| ((with_reducible show wpAny _ _ (call (Value.builtin _) [Value.ref _, Value.int (Int.fmod _ _) _]) _ _ _); refine Halt.go ?_))
section
variable {prog : Program} {w : World} {A : Around} {E : Value -> Shared -> Prop} {s : Shared} {h₀ : Heap} {L D : Addr} {m : Str -> Option Value} {rest : List (Addr × Obj)} {n : Nat} {u : Tok} {Q : Value -> Shared -> Prop}
theorem upd_head {its its' : Obj} (off : ∀ p ∈ rest, p.1 ≠ D) : Upd D its its' ((D, its) :: rest) ((D, its') :: rest) := .head off
theorem way_ok (x : Int) : 1 - 2 * x.fmod 2 = 1 ∨ 1 - 2 * x.fmod 2 = -1 := by
 have := Int.fmod_nonneg_of_pos x (b := 2) (by decide)
 have := Int.fmod_lt_of_pos x (b := 2) (by decide)
 omega
theorem pop3 {t0 t1 t2 : Tok} {i : Int} (F : Fr h₀ L s.heap m) (N : News h₀ L s.heap ((D, PySem.W.listOf #[.int 0 t0, .int 1 t1, .int 2 t2] n) :: rest)) (off : ∀ p ∈ rest, p.1 ≠ D) (hi : 0 ≤ i ∧ i < 3)
   (h : ∀ h' r0 u0 v0 t0 t1 t2, 0 ≤ r0 ∧ r0 < 3 -> 0 ≤ u0 ∧ u0 < 3 -> 0 ≤ v0 ∧ v0 < 3 -> r0 ≠ u0 -> r0 ≠ v0 -> Fr h₀ L h' m -> News h₀ L h' ((D, PySem.W.listOf #[.int u0 t1, .int v0 t2] (n + 1)) :: rest) -> Q (.int r0 t0) { s with heap := h' }) :
   wpAny (model prog w) A (call (.builtin "list.pop") [.ref D, .int i u]) Q E s := by
 obtain rfl | rfl | rfl : i = 0 ∨ i = 1 ∨ i = 2 := by omega
 . exact kl_popAt F N rfl rfl rfl (upd_head off) (Nat.le_of_ble_eq_true rfl) fun h' F' N' => h h' 0 1 2 _ _ _ (by decide) (by decide) (by decide) (by decide) (by decide) F' N'
 . exact kl_popAt F N rfl rfl rfl (upd_head off) (Nat.le_of_ble_eq_true rfl) fun h' F' N' => h h' 1 0 2 _ _ _ (by decide) (by decide) (by decide) (by decide) (by decide) F' N'
 . exact kl_popAt F N rfl rfl rfl (upd_head off) (Nat.le_of_ble_eq_true rfl) fun h' F' N' => h h' 2 0 1 _ _ _ (by decide) (by decide) (by decide) (by decide) (by decide) F' N'
theorem pop2 {a b : Int} {t0 t1 : Tok} {i : Int} (F : Fr h₀ L s.heap m) (N : News h₀ L s.heap ((D, PySem.W.listOf #[.int a t0, .int b t1] n) :: rest)) (off : ∀ p ∈ rest, p.1 ≠ D) (hi : 0 ≤ i ∧ i < 2)
   (h : ∀ h' r0 u0 t0 t1, r0 = a ∨ r0 = b -> Fr h₀ L h' m -> News h₀ L h' ((D, PySem.W.listOf #[.int u0 t1] (n + 1)) :: rest) -> Q (.int r0 t0) { s with heap := h' }) :
   wpAny (model prog w) A (call (.builtin "list.pop") [.ref D, .int i u]) Q E s := by
 obtain rfl | rfl : i = 0 ∨ i = 1 := by omega
 . exact kl_popAt F N rfl rfl rfl (upd_head off) (Nat.le_of_ble_eq_true rfl) fun h' F' N' => h h' _ _ _ _ (.inl rfl) F' N'
 . exact kl_popAt F N rfl rfl rfl (upd_head off) (Nat.le_of_ble_eq_true rfl) fun h' F' N' => h h' _ _ _ _ (.inr rfl) F' N'
end
section
variable (w : World) (loose : List Str) (mean : ExcName -> Option Value) (mg mb : Str -> Option Value) (dp un : Nat) (gd : Option (List Code)) (cn : Str) (cs : Scope) (a : Addr) (ccd : Value) (cl : List (Str × Addr)) (outer : List Env) (A₀ : Around) (base h₀ : Heap) (L : Addr) (m : Str -> Option Value) (s : Shared) (Q E : Value -> Shared -> Prop) (al : Addr) (us : List Value) (ys : List Int)
def Qkeys_spec : Prop :=
 ∀ (hl : s.heap.IsList al us.toArray),
 ∀ (hli : IntsAre us ys),
 ∀ (hfit : us.length ≤ 63),
 ∀ (hdp : dp < 480),
 ∀ (hun : un < 470),
 ∀ (ret : ∀ D h' tk' p0 p1 nl n0 n1 i0 d0 i1 d1 t0 t1 t2 t3, Fr h₀ L h' m -> Keeps s.heap h' -> s.heap.get? D = none -> h'.get? D = some (lst [.ref p0, .ref p1] nl) -> h'.get? p0 = some (tup [.int i0 t0, .int d0 t1] n0) -> h'.get? p1 = some (tup [.int i1 t2, .int d1 t3] n1) -> s.heap.get? p0 = none -> s.heap.get? p1 = none ->
   (0 ≤ i0 ∧ i0 < 3) -> (0 ≤ i1 ∧ i1 < 3) -> i0 ≠ i1 -> (d0 = 1 ∨ d0 = -1) -> (d1 = 1 ∨ d1 = -1) -> Q (.ref D) { s with heap := h', toks := tk' }),
 wpAny (model PW w) (ktrTop dp un gd cn cs L a ccd cl outer) (call (.ref 296) [.ref al]) Q E s
def Skeys_spec : Prop :=
 ∀ (B : Below A₀ base outer h₀),
 ∀ (F : Fr h₀ L s.heap m),
 ∀ (X : (Mine.KR w.params).In h₀),
 ∀ (T : Top topProg loose mean mg mb h₀),
 ∀ (hk : cs.kind = .function),
 Qkeys_spec w dp un gd cn cs a ccd cl outer h₀ L m s Q E al us ys
end
abbrev Tkeys_spec : Type := ((((World × (List Str)) × ((ExcName -> Option Value) × (Str -> Option Value))) × (((Str -> Option Value) × Nat) × Nat)) × ((((Option (List Code)) × Str) × Scope) × ((Addr × Value) × (List (Str × Addr))))) × (((((List Env) × Around) × Heap) × ((Heap × Addr) × (Str -> Option Value))) × (((Shared × (Value -> Shared -> Prop)) × (Value -> Shared -> Prop)) × ((Addr × (List Value)) × (List Int))))
def Pkeys_spec (p : Tkeys_spec) : Prop := Skeys_spec p.1.1.1.1.1 p.1.1.1.1.2 p.1.1.1.2.1 p.1.1.1.2.2 p.1.1.2.1.1 p.1.1.2.1.2 p.1.1.2.2 p.1.2.1.1.1 p.1.2.1.1.2 p.1.2.1.2 p.1.2.2.1.1 p.1.2.2.1.2 p.1.2.2.2 p.2.1.1.1.1 p.2.1.1.1.2 p.2.1.1.2 p.2.1.2.1.1 p.2.1.2.1.2 p.2.1.2.2 p.2.2.1.1.1 p.2.2.1.1.2 p.2.2.1.2 p.2.2.2.1.1 p.2.2.2.1.2 p.2.2.2.2
theorem nkeys_spec : Nonempty Tkeys_spec := ⟨(((((Classical.choice neW, default), default), default), default), ((((default, callerA), default), default), ((({}, default), default), default)))⟩
namespace Ckeys_spec
def pt := ep nkeys_spec Pkeys_spec
@[irreducible] def w := pt.1.1.1.1.1
@[irreducible] def loose := pt.1.1.1.1.2
@[irreducible] def mean := pt.1.1.1.2.1
@[irreducible] def mg := pt.1.1.1.2.2
@[irreducible] def mb := pt.1.1.2.1.1
@[irreducible] def dp := pt.1.1.2.1.2
@[irreducible] def un := pt.1.1.2.2
@[irreducible] def gd := pt.1.2.1.1.1
@[irreducible] def cn := pt.1.2.1.1.2
@[irreducible] def cs := pt.1.2.1.2
@[irreducible] def a := pt.1.2.2.1.1
@[irreducible] def ccd := pt.1.2.2.1.2
@[irreducible] def cl := pt.1.2.2.2
@[irreducible] def outer := pt.2.1.1.1.1
@[irreducible] def A₀ := pt.2.1.1.1.2
@[irreducible] def base := pt.2.1.1.2
@[irreducible] def h₀ := pt.2.1.2.1.1
@[irreducible] def L := pt.2.1.2.1.2
@[irreducible] def m := pt.2.1.2.2
@[irreducible] def s := pt.2.2.1.1.1
@[irreducible] def Q := pt.2.2.1.1.2
@[irreducible] def E := pt.2.2.1.2
@[irreducible] def al := pt.2.2.2.1.1
@[irreducible] def us := pt.2.2.2.1.2
@[irreducible] def ys := pt.2.2.2.2
@[irreducible] def L' : Addr := s.heap.objs.size
theorem hLc : s.heap.objs.size = L' := by delta L'; rfl
theorem main : Skeys_spec w loose mean mg mb dp un gd cn cs a ccd cl outer A₀ base h₀ L m s Q E al us ys := by
 unfold Skeys_spec Qkeys_spec
 intro B F X T hk hl hli hfit hdp hun ret
 refine wpAny_call ?_
 k_dflt (refine' enter_cellsC (L' := L') (hL := ?hL) ?k1 ?k2 ?k3 ?k5 ?kA ?kF ?kK ?k6 ?k7 ?k8 ?k9 ?kB ?kD ?_ ?c2 ?c3 ?c4; (case kA | kF => exact rfl); (case kK => assumption); (case k1 | k2 => k_asm); (case hL => exact hLc); (case k3 | k5 => k_asm); (case k6 | k7 => k_is); (case k8 => ktr_room); (case k9 => exact BindsTo.of_eq rfl); (case kB => exact rfl); (case kD => decide +kernel); (case c2 | c3 | c4 => exact rfl); intro h' tk' cells' F' N' Y' B' X' T'; k_cells Y'; (try dsimp only); (try k_fold))
 rename_i o1 d1
 rename Fr s.heap L' _ _ => F1
 replace d1 : o1.data = .cell none := by with_unfolding_all exact d1
 replace F1 : Fr s.heap L' h' (fun y => if y = oS "script" then some (.ref al) else none) := by with_unfolding_all exact F1
 k_steps
 rename IntsAre _ _ => hz
 rename List Int => ms
 generalize ms.sum = S at *
 clear hz
 rename Fr s.heap L' _ _ => F2
 rename News s.heap L' _ _ => N2
 rename AllLt _ [_, _] => l2
 refine pop3 F2 N2 (by intro p hp; rcases List.mem_cons.mp hp with rfl | hp; · exact Nat.ne_of_lt l2.1
                       . rw [List.mem_singleton.mp hp]; exact Nat.ne_of_lt l2.2.1) ⟨Int.fmod_nonneg_of_pos S (by decide), Int.fmod_lt_of_pos S (by decide)⟩ ?_
 intro h3 r0 u0 v0 t0 t1 t2 hr hu hv nu nv F3 N3
 clear F2 N2
 try dsimp only
 k_steps
 rename Fr s.heap L' _ _ => F4
 rename News s.heap L' _ _ => N4
 refine pop2 F4 N4 (by intro p hp; rcases List.mem_cons.mp hp with rfl | hp; · exact Nat.ne_of_lt l2.1
                       . rw [List.mem_singleton.mp hp]; exact Nat.ne_of_lt l2.2.1) ⟨Int.fmod_nonneg_of_pos _ (by decide), Int.fmod_lt_of_pos _ (by decide)⟩ ?_
 intro h5 r1 u1 t3 t4 hr1 F5 N5
 clear F4 N4
 try dsimp only
 k_steps
 refine Halt.mk ?_
 k_dflt (refine LCg.Assign_ListComp_U (F₀ := by k_asm) (by rfl) (by with_unfolding_all rfl) (by with_unfolding_all rfl) (by decide) (by rfl) (by decide) (by rfl) (by rfl) (by rfl) ?_)
 k_dflt lcg_toSrc
 rename IsRange _ _ _ _ _ _ _ _ => hR
 rename Fr s.heap L' _ _ => F3
 rename News s.heap L' _ _ => N3
 refine LCg.CompSrc.range (by rfl) F3 N3 hR (by decide) (by rfl) (by decide) ?_
 clear F3 N3
 intro g'
 lcg_lit
 k_steps
 rename Fr h₀ L _ m => kF9
 rename Fr s.heap L' _ _ => F6
 rename News s.heap L' _ _ => N6
 have c1 := N6 _ (.head _)
 have c2 := N6 _ (.tail _ (.head _))
 have c3 := N6 _ (.tail _ (.tail _ (.head _)))
 refine ret _ _ _ _ _ _ _ _ _ _ _ _ _ _ _ _ kF9 (fun b o e => F6.keep b o e) c1.2.2 c1.1 c3.1 c2.1 c3.2.2 c2.2.2 hr ?_ ?_ (way_ok _) (way_ok _)
 . rcases hr1 with rfl | rfl <;> assumption
 . rcases hr1 with rfl | rfl <;> assumption
end Ckeys_spec
theorem keys_spec : ∀ w loose mean mg mb dp un gd cn cs a ccd cl outer A₀ base h₀ L m s Q E (B : Below A₀ base outer h₀) (F : Fr h₀ L s.heap m) (X : (Mine.KR w.params).In h₀) (T : Top topProg loose mean mg mb h₀) (hk : cs.kind = .function) al us ys, Qkeys_spec w dp un gd cn cs a ccd cl outer h₀ L m s Q E al us ys :=
 fun w loose mean mg mb dp un gd cn cs a ccd cl outer A₀ base h₀ L m s Q E B F X T hk al us ys => drink nkeys_spec Pkeys_spec (by with_unfolding_all exact Ckeys_spec.main) (((((w, loose), (mean, mg)), ((mb, dp), un)), (((gd, cn), cs), ((a, ccd), cl))), ((((outer, A₀), base), ((h₀, L), m)), (((s, Q), E), ((al, us), ys)))) B F X T hk
end
end Mine
end
noncomputable section
example : True := by w_top off; trivial
namespace Mine
noncomputable def bm (id : String) (d : Addr) : Obj := { cls := .type "builtin_function_or_method", data := .fields #[.builtin id, .ref d] }
theorem slot_md_get : Slot "method_descriptor" "__get__" "method_descriptor.__get__" :=
 .of (owner := "method_descriptor") (n := "__get__") (by rw [typeLookup_type, builtinLookup_eq_fast]; kernel_rfl) (by decide +kernel) (by decide +kernel) (by decide +kernel)
   (by first | exact .inl (by decide +kernel) | exact .inr (by decide +kernel)) (by rw [isSubtype_type]; kernel_rfl)
theorem entry_md_get : entryFor table "method_descriptor.__get__" = some Builtin.«method_descriptor.__get__» := entryFor_of_tree (by kernel_rfl)
theorem args_md_get (a b c : Value) : argsOk "method_descriptor.__get__" ⟨[a, b, c], []⟩ := by unfold argsOk; kernel_rfl
theorem owner_dict_get : (kfb_private% "ownerAndName") "dict.get" = ("dict", "get") := by first | decide +kernel | kernel_rfl
theorem owner_set_contains : (kfb_private% "ownerAndName") "set.__contains__" = ("set", "__contains__") := by first | decide +kernel | kernel_rfl
theorem sub_dict_dict : isSubtype (.type "dict") (.type "dict") = pure true := by rw [isSubtype_type]; kernel_rfl
theorem sub_set_set : isSubtype (.type "set") (.type "set") = pure true := by rw [isSubtype_type]; kernel_rfl
theorem md_set_none : typeLookup (.type "method_descriptor") "__set__" = pure none := by rw [typeLookup_type, builtinLookup_eq_fast]; kernel_rfl
theorem md_delete_none : typeLookup (.type "method_descriptor") "__delete__" = pure none := by rw [typeLookup_type, builtinLookup_eq_fast]; kernel_rfl
section
variable {prog : Program} {w : World} {M : Model} {A : Around} {E : Value -> Shared -> Prop} {s : Shared} {h₀ : Heap} {L a : Addr} {m : Str -> Option Value} {news : List (Addr × Obj)}
theorem run_md {T id nm : String} {P : Fin -> Shared -> Prop} (hT : s.TypeIs (.ref a) T) (hne : Manifest.toldItsClass.contains id = false) (ho : (kfb_private% "ownerAndName") id = (T, nm)) (hsub : isSubtype (.type T) (.type T) = pure true)
   (h : P (.done (.ret (.ref s.heap.objs.size))) { s with heap := s.heap.push (bm id a) }) :
   wpAny M A (Builtin.«method_descriptor.__get__» ⟨[.builtin id, .ref a, .type T], []⟩) P E s := by
 unfold Builtin.«method_descriptor.__get__»
 refine wpAny_bind (wpAny_of_eq (a := (.builtin id, some (.ref a), some (.type T))) (by first | rfl | kernel_rfl) ?_)
 simp only [hne]
 refine KFB.if_not rfl ?_
 show wpAny _ _ ((kfb_private% "checkInstance") (.builtin id) (.ref a) >>= fun _ => newFields "builtin_function_or_method" [.builtin id, .ref a] >>= fun r => ret r) _ _ _
 refine wpAny_bind ?_
 show wpAny _ _ ((kfb_private% "nameAndClass") (.builtin id) >>= fun p => isInstance (.ref a) p.2 >>= fun b => _) _ _ _
 have e : (kfb_private% "nameAndClass") (.builtin id) = pure ((nm : Str), .type T) := by
   show (match (kfb_private% "ownerAndName") id with | (o, n) => (pure ((n : Str), Value.type o) : Sem (Str × Value))) = _
   rw [ho]
 refine wpAny_bind (wpAny_of_eq e ?_)
 refine wpAny_bind (wpAny_isInstance hT hsub ?_)
 refine KFB.if_not rfl ?_
 refine wpAny_pure ?_
 exact wpAny_bind (wpAny_newObj_type (wpAny_pure h))
theorem wpAny_notcls {α : Type} {B : Around} {dat : Data} {f : ClassData -> Sem α} {g : Sem α} {P : α -> Shared -> Prop} {E : Value -> Shared -> Prop} {s : Shared} (hd : ∀ c, dat ≠ .cls c) (h : wpAny M B g P E s) :
   wpAny M B (match dat with | .cls c => f c | _ => g) P E s := by
 cases dat <;> first | exact h | exact absurd rfl (hd _)
theorem getAttr_bm {T ga nm id : String} {o : Obj} {Q : Value -> Shared -> Prop} (hx : s.heap.get? a = some o) (hc : o.cls = .type T) (hd : o.dict = none) (hq : ∀ c, o.data ≠ .cls c)
   (G1 : PySem.Slot T "__getattribute__" ga) (G2 : entryFor table ga = some Builtin.«object.__getattribute__») (G3 : ∀ a b, argsOk ga ⟨[a, b], []⟩) (G4 : PySem.Slot T nm id) (f6 : typeOf (.builtin id) = pure (.type "method_descriptor"))
   (hnm : (["__module__", "__name__", "__qualname__", "__doc__", "__annotations__"] : List Str).contains nm = false)
   (hne : Manifest.toldItsClass.contains id = false) (ho : (kfb_private% "ownerAndName") id = (T, nm)) (hsub : isSubtype (.type T) (.type T) = pure true)
   (h : ∀ tk, Q (.ref s.heap.objs.size) { s with heap := s.heap.push (bm id a), toks := tk }) : wpAny (model prog w) A (getAttr (.ref a) nm true) Q E s := by
 obtain ⟨c, dct, dat, sl⟩ := o
 simp only at hc hd hq
 subst hc hd
 obtain ⟨hp, g, d, tk, os⟩ := s
 have hT : ∀ tk', (⟨hp, g, d, tk', os⟩ : Shared).TypeIs (.ref a) T := fun _ => ⟨_, hx, rfl⟩
 have f3 := G1.lookup
 have f4 := G1.bind (.ref a)
 have f5 := G4.lookup
 have f7 := slot_md_get.lookup
 have f8 := md_set_none
 have f9 := md_delete_none
 unfold getAttr getAttrBy
 repeat (any_goals (first | assumption | exact hT _ | wp_step))
 refine codeAny_call_builtin G1.plain G2 (G1.check _ _ _ _ _ _ _ _ (hT _) (G3 _ _) ?_)
 unfold Builtin.«object.__getattribute__»
 repeat (any_goals (first | assumption | exact hT _ | wp_step))
 refine wpAny_notcls hq ?_
 repeat (any_goals (first | assumption | exact hT _ | wp_step))
 refine KFB.if_not hnm ?_
 repeat (any_goals (first | assumption | exact hT _ | wp_step))
 refine codeAny_call_builtin slot_md_get.plain entry_md_get (slot_md_get.check _ _ _ _ _ _ _ _ (show (⟨hp, g, d, _, os⟩ : Shared).TypeIs (.builtin id) "method_descriptor" from f6) (args_md_get _ _ _) ?_)
 refine run_md (hT _) hne ho hsub ?_
 exact wpAny_pure (handed_on rfl (h _))
theorem getAttr_dict_get {o : Obj} {es : Array DictEntry} {k : Nat} {Q : Value -> Shared -> Prop} (hx : s.heap.get? a = some o) (hc : o.cls = .type "dict") (hdat : o.data = .dict es k) (hd : o.dict = none)
   (h : ∀ tk, Q (.ref s.heap.objs.size) { s with heap := s.heap.push (bm "dict.get" a), toks := tk }) : wpAny (model prog w) A (getAttr (.ref a) "get" true) Q E s :=
 getAttr_bm hx hc hd (by rw [hdat]; intro _ h; cases h) F.slot_dict_getattribute F.entry_dict_ga F.args_dict_getattribute_2 PySem.F.slot_dict_get PySem.F.type_dict_get (by decide +kernel) (by decide +kernel) owner_dict_get sub_dict_dict h
theorem getAttr_set_contains {o : Obj} {vs : Array Value} {k : Nat} {tb : SetTable} {Q : Value -> Shared -> Prop} (hx : s.heap.get? a = some o) (hc : o.cls = .type "set") (hdat : ∃ x y z, o.data = .set x y z) (hd : o.dict = none)
   (h : ∀ tk, Q (.ref s.heap.objs.size) { s with heap := s.heap.push (bm "set.__contains__" a), toks := tk }) : wpAny (model prog w) A (getAttr (.ref a) "__contains__" true) Q E s :=
 getAttr_bm hx hc hd (by obtain ⟨_, _, _, hdat⟩ := hdat; rw [hdat]; intro _ h; cases h) F.slot_set_getattribute F.entry_set_ga F.args_set_getattribute_2 PySem.F.slot_set_contains PySem.F.type_set_contains (by decide +kernel) (by decide +kernel) owner_set_contains sub_set_set h
def StandsBm (id : String) (d x : Addr) (h : Heap) : Prop := h.get? x = some (bm id d)
theorem bm_at {h : Heap} {id : String} {d x : Addr} (N : News h₀ L h news) (hm : (x, bm id d) ∈ news) : StandsBm id d x h := N.get hm
theorem keeps_bm {id : String} {d q : Addr} (h : Heap) (X : StandsBm id d q h) : ∃ k, (k = Keeper.frame ∨ k = Keeper.machine ∨ k = Keeper.boundFrame) ∧ Looks M h (keeperOf (.ref q)) k :=
 ⟨.machine, .inr (.inl rfl), (Looks.ld (part := none) X).andThen .now⟩
theorem callWith_bm {id : String} {d : Addr} {pos : Pos} {q : Addr} {first : List Value} {env : Env} {e : Expr} {rest : List Expr} {Q : Value -> Shared -> Prop} (_N : News h₀ L s.heap news) (_q : (q, bm id d) ∈ news)
   (h : wpAny M A (spliced (backTo pos (starEach (e :: rest) env))) (fun vs s₁ => StandsBm id d q s₁.heap ∧ wpAny M A (call (.ref q) (first ++ vs)) Q E s₁) E s)
   (he : starEach (e :: rest) env = (false, eval e env) :: starEach rest env := by rfl) (hplain : (backTo pos (starEach rest env)).any (·.1) = false := by rfl) :
   wpAny M A (callWith pos (.ref q) first (backTo pos (starEach (e :: rest) env)) []) Q E s := by
 rw [he] at h ⊢
 exact callWith_of (by show ((false || (backTo pos (starEach rest env)).any (·.1)) || false) = false; rw [hplain]; rfl) keeps_bm (evalArgs_plain h)
theorem call_bm {id : String} {d q : Addr} {pos : List Value} {B : PySem.Builtin} {Q : Value -> Shared -> Prop} (ho : StandsBm id d q s.heap) (hp : plainId id = true) (hent : entryFor table id = some B)
   (hck : ∀ P : Unit -> Shared -> Prop, P () s -> wpAny (model prog w) A.in1 (checkBoundCall id ⟨.ref d :: pos, []⟩) P (fun e s' => E e s') s)
   (h : wpAny (model prog w) A.in1 (B ⟨.ref d :: pos, []⟩) (fun fin s' => match fin with | .done f => wants Q E (.ok f) s' | .again c' => c'.quiet = true ∧ codeAny (model prog w) A c' (wants Q E) s') (fun e s' => wants Q E (.error e) s') s) :
   wpAny (model prog w) A (call (.ref q) pos) Q E s := by
 refine wpAny_call (codeAny_of_tree ?_)
 show wpAny _ A.in1 (callAny (.ref q) ⟨pos, []⟩) _ _ s
 simp only [callAny]
 refine wpAny_bind (wpAny_load ho ?_)
 simp only [bm, show (Value.type "builtin_function_or_method" == Value.type "method" || Value.type "builtin_function_or_method" == Value.type "builtin_function_or_method" || Value.type "builtin_function_or_method" == Value.type "method-wrapper") = true by decide, if_true]
 refine KFB.if_so (by decide) ?_
 refine wpAny_bind (hck _ ?_)
 refine wpAny_bind (wpAny_pure (wpAny_pure ?_))
 refine ⟨plainId_quiet hp _, codeAny_builtin hent ?_⟩
 rw [Around.under_plainId hp]
 exact h
theorem sub_dict_module : isSubtype (.type "dict") (.type "module") = pure false := by rw [isSubtype_type]; kernel_rfl
theorem sub_set_module : isSubtype (.type "set") (.type "module") = pure false := by rw [isSubtype_type]; kernel_rfl
theorem sub_dict_type : isSubtype (.type "dict") (.type "type") = pure false := by rw [isSubtype_type]; kernel_rfl
theorem sub_set_type : isSubtype (.type "set") (.type "type") = pure false := by rw [isSubtype_type]; kernel_rfl
theorem check_bm {id T : String} {d : Addr} {o : Obj} {rest : List Value} {sig : Manifest.Signature} {P : Unit -> Shared -> Prop} (hs : Manifest.signature? id = some sig) (hc : Bind.checkArgs id { sig with full := s!"{Bind.lastOf T}.{Bind.lastOf id}" } ⟨.ref d :: rest, []⟩ = pure ())
   (hk : builtinKind id = some .method) (hv : Manifest.varargsMethods.contains id = false) (hx : s.heap.get? d = some o) (hcls : o.cls = .type T) (hnc : ∀ c, o.data ≠ .cls c) (hm : isSubtype (.type T) (.type "module") = pure false)
   (h : P () s) : wpAny (model prog w) A (checkBoundCall id ⟨.ref d :: rest, []⟩) P E s := by
 have hT : s.TypeIs (.ref d) T := ⟨o, hx, hcls⟩
 unfold checkBoundCall
 rw [hs, hk]
 dsimp only
 refine KFB.if_not (by decide) ?_
 refine wpAny_bind (wpAny_isInstance hT hm ?_)
 refine KFB.if_not (by rw [hv]; rfl) ?_
 refine wpAny_bind (m := isType (.ref d)) ?_
 show wpAny _ _ (loadHead d >>= fun o => pure _) _ _ _
 refine wpAny_bind (wpAny_load hx (wpAny_pure ?_))
 refine KFB.if_not ?_ ?_
 . split
   . rename_i c e; exact absurd e (hnc c)
   . rfl
 refine wpAny_bind (wpAny_typeOf hT ?_)
 exact wpAny_of_eq hc h
theorem sig_dict_get : ∃ sig, Manifest.signature? "dict.get" = some sig ∧ ∀ (a b c : Value), Bind.checkArgs "dict.get" { sig with full := s!"{Bind.lastOf "dict"}.{Bind.lastOf "dict.get"}" } ⟨[a, b, c], []⟩ = pure () := by
 rw [signature?_of (id := "dict.get") (n := ['t', 'e', 'g']) (o := ['t', 'c', 'i', 'd']) (by kernel_rfl) PySem.F.owner_dict]
 exact ⟨(List.lookup (String.ofList ['t', 'e', 'g'].reverse) Manifest.sig_dict).get (by kernel_rfl), (Option.some_get _).symm, fun a b c => by kernel_rfl⟩
theorem sig_set_contains : ∃ sig, Manifest.signature? "set.__contains__" = some sig ∧ ∀ (a b : Value), Bind.checkArgs "set.__contains__" { sig with full := s!"{Bind.lastOf "set"}.{Bind.lastOf "set.__contains__"}" } ⟨[a, b], []⟩ = pure () := by
 rw [signature?_of (id := "set.__contains__") (n := ['_', '_', 's', 'n', 'i', 'a', 't', 'n', 'o', 'c', '_', '_']) (o := ['t', 'e', 's']) (by kernel_rfl) PySem.F.owner_set]
 exact ⟨(List.lookup (String.ofList ['_', '_', 's', 'n', 'i', 'a', 't', 'n', 'o', 'c', '_', '_'].reverse) Manifest.sig_set).get (by kernel_rfl), (Option.some_get _).symm, fun a b => by kernel_rfl⟩
section
variable {K : Type} [DecidableEq K] {knd : KeyKind prog w K}
theorem call_dget {d q : Addr} {kvs : List (K × Value)} {k : K} {key dflt : Value} {Q : Value -> Shared -> Prop} (ho : StandsBm "dict.get" d q s.heap) (hD : s.heap.DictOf knd d kvs) (lo : (d == sysModules) = false) (hkey : knd.is k key = true)
   (x : Option Value) (hl : valueAt kvs k = x) (h : Q (x.getD dflt) { s with toks := s.toks + 1 }) : wpAny (model prog w) A (call (.ref q) [key, dflt]) Q E s := by
 obtain ⟨sig, hs, hc⟩ := sig_dict_get
 refine call_bm ho (by decide +kernel) PySem.F.entry_dict_get (fun P hP => ?_) (meets_dict_get_default knd d hkey lo dflt _ _ _ ⟨_, hD.mapOf, by rw [hl]; exact h⟩)
 obtain ⟨o, es, ep, hx, hcl, hd, _⟩ := id hD
 exact check_bm (T := "dict") (id := "dict.get") (sig := sig) hs (hc _ _ _) (by decide +kernel) (by decide +kernel) hx hcl.1 (fun c e => by rw [hd] at e; cases e) sub_dict_module hP
end
theorem call_scontains {d q : Addr} {led : Bool} {i : Int} {t : Tok} {Q : Value -> Shared -> Prop} (ho : StandsBm "set.__contains__" d q s.heap) (hx : s.heap.get? d = some { cls := .type "set", data := .set #[] 0 (SetTable.fresh 0 0 led) })
   (h : Q (.bool false) { s with toks := s.toks + 1 }) : wpAny (model prog w) A (call (.ref q) [.int i t]) Q E s := by
 obtain ⟨sig, hs, hc⟩ := sig_set_contains
 refine call_bm ho (by decide +kernel) entry_set_contains (fun P hP => ?_) ?_
 . exact check_bm (T := "set") (id := "set.__contains__") (sig := sig) hs (hc _ _) (by decide +kernel) (by decide +kernel) hx rfl (fun c e => by cases e) sub_set_module hP
 . have hS : s.heap.SetOf (intKind prog w) d (fun _ => false) 0 := ⟨_, #[], 0, SetTable.fresh 0 0 led, hx, ⟨rfl, rfl, rfl⟩, rfl, by intro e he; simp at he, by intro k; simp, by decide, rfl, rfl⟩
   unfold Builtin.«frozenset.__contains__» Builtin.Frozenset.oneOther
   simp only [List.isEmpty_nil, bind_assoc]
   unfold Builtin.Frozenset.addrOf Builtin.Frozenset.withSetAsKey setContains
   refine wpAny_bind (wpAny_pure ?_)
   try dsimp only
   refine wpAny_bind (wpAny_pure ?_)
   try dsimp only
   refine wpAny_bind (wpAny_tryCatch ?_)
   refine wpAny_holding ?_
   refine wpAny_bind ((intKind prog w).pyHash (intKind_is _ _ i t) ?_)
   refine wpAny_bind (wpAny_setFind_of (s := { s with toks := s.toks + 1 }) (intKind_is _ _ i t) rfl hS fun r hr => ?_)
   refine wpAny_pure ?_
   show wpAny _ _ (ret (Value.bool r.isSome)) _ _ _
   rw [hr]
   refine wpAny_pure ?_
   show Q (.bool false) _
   exact h
end
end Mine
end
noncomputable section
example : True := by w_top off; trivial
open PySem PySem.W PySem.W.X PyProof.Rows PySem.Calls PySem.Spec Builtin
namespace Mine
noncomputable section
structure MatchCls (M : Model) (h : Heap) : Prop where
 obj : ∃ oc od cd sl, h.get? 135 = some ⟨oc, od, .cls cd, sl⟩ ∧ cd.abstract = false ∧ cd.hasDel = false ∧ cd.mro = [.ref 135, .type "tuple", .type "object"] ∧ cd.bases = [.type "tuple"] ∧ sl[4]? = some (some .none)
 self : Looks M h (isSubtype (.ref 135) (.ref 135)) true
 tup : Looks M h (isSubtype (.ref 135) (.type "tuple")) true
 call : Looks M h (specialOf (.ref 135) "__call__") (some (.builtin "type.__call__"))
 typ : Looks M h (isInstance (.ref 135) (.type "type")) true
 init : Looks M h (typeLookup (.ref 135) "__init__") (some (.builtin "object.__init__"))
theorem matchCls {M : Model} {P : Params} {h : Heap} (X : (KR P).In h) : MatchCls M h := by
 exact ⟨⟨_, _, _, _, X (nat_lit 135) _ rfl, rfl, rfl, rfl, rfl, rfl⟩, looks_mroIn X (by rfl), looks_mroIn X (by rfl), looks_specialIn X (by rfl), looks_instIn X (by rfl), looks_findIn X (by rfl)⟩
theorem made_none {M : Model} {h : Heap} (Y : MatchCls M h) : Looks M h (Bind.madeBy (.ref 135)) none := by
 obtain ⟨oc, od, cd, sl, hC, e1, e2, e4, e5, e6⟩ := Y.obj
 have hm : Looks M h (mroOf (.ref 135)) cd.mro := ((Looks.ld (part := none) hC).andThen .now).andThen .now
 intro A Q E s k q
 unfold Bind.madeBy
 refine wpAny_bind (hm A _ E s k ?_)
 rw [e4, List.forIn_cons]
 refine wpAny_bind (wpAny_bind (wpAny_bind (wpAny_bind (wpAny_loadPart (k _ _ hC) (wpAny_pure ?_)))))
 dsimp only
 rw [e6]
 exact wpAny_pure (wpAny_pure (wpAny_pure q))
theorem static_tuple {M : Model} {h : Heap} (Y : MatchCls M h) : Looks M h (Bind.staticBase (.ref 135)) (.type "tuple") := by
 have made := made_none Y
 obtain ⟨oc, od, cd, sl, hC, e1, e2, e4, e5, e6⟩ := Y.obj
 have hm : Looks M h (mroOf (.ref 135)) cd.mro := ((Looks.ld (part := none) hC).andThen .now).andThen .now
 have madeT : Looks M h (Bind.madeBy (.type "tuple")) (some "tuple.__new__") := Looks.of_pure PySem.F.called_tuple.made
 have best : Looks M h (Slots.bestBase [.type "tuple"]) (.type "tuple") := Looks.of_pure (by first | rfl | kernel_rfl)
 intro A Q E s k q
 unfold Bind.staticBase
 refine wpAny_bind (hm A _ E s k ?_)
 rw [e4, List.forIn_cons]
 refine wpAny_bind (wpAny_bind (wpAny_bind (made A _ E s k ?_)))
 simp only [Option.isSome_none, Bool.false_eq_true, if_false]
 have cdL : Looks M h (classData 135) cd := (Looks.ld (part := none) hC).andThen .now
 refine wpAny_bind (cdL A _ E s k ?_)
 rw [e5]
 refine wpAny_bind (best A _ E s k (wpAny_pure ?_))
 dsimp only
 rw [List.forIn_cons]
 refine wpAny_bind (wpAny_bind (madeT A _ E s k ?_))
 simp only [Option.isSome_some, if_true]
 exact wpAny_pure (wpAny_pure (wpAny_pure q))
section
variable (prog : Program) (w : World) (A : Around) (R : Result -> Shared -> Prop) (h : Heap) (g : Array GenState) (d : Drawn) (t : Nat) (os : OsState) (T : Addr) (xs : Array Value) (n : Nat)
def Qtnew : Prop :=
 ∀ (Y : MatchCls (model prog w) h),
 ∀ (hT : h.get? T = some { cls := .type "tuple", data := .seq xs n }),
 ∀ (hsz : xs.size ≤ sizeLine),
 ∀ (hq : ∀ h1 : Heap, (∀ b o, h.get? b = some o -> h1.get? b = some o) -> R (.ok (.ret (.ref (h1.objs.size + 1)))) ⟨(h1.push emptyDict).push { cls := .ref 135, dict := some h1.objs.size, data := .seq xs }, g, d, t, os⟩),
 codeAny (model prog w) A (.call (.builtin "tuple.__new__") ⟨[.ref 135, .ref T], []⟩) R ⟨h, g, d, t, os⟩
def Stnew : Prop :=
 Qtnew prog w A R h g d t os T xs n
end
abbrev Ttnew : Type := (((Program × World) × Around) × (((Result -> Shared -> Prop) × Heap) × (Array GenState))) × (((Drawn × Nat) × OsState) × ((Addr × (Array Value)) × Nat))
def Ptnew (p : Ttnew) : Prop := Stnew p.1.1.1.1 p.1.1.1.2 p.1.1.2 p.1.2.1.1 p.1.2.1.2 p.1.2.2 p.2.1.1.1 p.2.1.1.2 p.2.1.2 p.2.2.1.1 p.2.2.1.2 p.2.2.2
theorem ntnew : Nonempty Ttnew := ⟨((((PW, Classical.choice neW), callerA), default), (((({} : Shared).drawn, default), ({} : Shared).os), default))⟩
namespace Ctnew
def pt := ep ntnew Ptnew
@[irreducible] def prog := pt.1.1.1.1
@[irreducible] def w := pt.1.1.1.2
@[irreducible] def A := pt.1.1.2
@[irreducible] def R := pt.1.2.1.1
@[irreducible] def h := pt.1.2.1.2
@[irreducible] def g := pt.1.2.2
@[irreducible] def d := pt.2.1.1.1
@[irreducible] def t := pt.2.1.1.2
@[irreducible] def os := pt.2.1.2
@[irreducible] def T := pt.2.2.1.1
@[irreducible] def xs := pt.2.2.1.2
@[irreducible] def n := pt.2.2.2
theorem main : Stnew prog w A R h g d t os T xs n := by
 unfold Stnew Qtnew
 intro Y hT hsz hq
 have st := static_tuple Y
 have madeT : Looks (model prog w) h (Bind.madeBy (.type "tuple")) (some "tuple.__new__") := Looks.of_pure PySem.F.called_tuple.made
 have isT : Looks (model prog w) h (isType (.ref 135)) true := by
   obtain ⟨oc, od, cd, sl, hC, e1, e2, e4, e5, e6⟩ := Y.obj
   exact (Looks.ld (part := none) hC).andThen .now
 have tup := Y.tup
 have ini := Y.init
 have kind : builtinKind "tuple.__new__" = some .builtinFn := by decide +kernel
 have split : splitId "tuple.__new__" = some ("tuple", "__new__") := by decide +kernel
 refine codeAny_call_builtin_code (Code.quiet_builtin _ (by decide +kernel)) ?_
 simp only [checkBuiltinCall, kind, split]
 have args : Bind.checkArgs "tuple.__new__" ((Manifest.signature? "tuple.__new__").get (by kernel_rfl)) ⟨[.ref 135, .ref T], []⟩ = pure () := by kernel_rfl
 repeat (first | dsimp only [bne_self_eq_false, Bool.not_true, dreduceIte] | lk)
 have here : Looks (model prog w) h (Bind.madeHere "tuple.__new__" (.ref 135)) () := st.andThen (madeT.andThen (Looks.of_pure (by simp only [Option.map_some, bne_self_eq_false, Bool.false_eq_true, if_false])))
 refine codeAny_builtin PySem.F.entry_tuple_new ?_
 unfold Builtin.«tuple.__new__»
 obtain ⟨oc, od, cd, sl, hC, e1, e2, e4, e5, e6⟩ := Y.obj
 have fin : ∀ A' (h1 : Heap), (∀ b o, h.get? b = some o -> h1.get? b = some o) -> wpAny (model prog w) A' (do
     let xs ← pure xs.toList.toArray
     ret (← newObj (.ref 135) (.seq xs) (some (← alloc { cls := .type "dict", data := .dict #[] })))) (fun fin s' => match fin with | .done f => R (.ok f) s' | .again c' => c'.quiet = true ∧ codeAny (model prog w) A c' R s') (fun e s' => R (.error e) s') ⟨h1, g, d, t, os⟩ := by
   intro A' h1 k1
   refine wpAny_bind (wpAny_pure (wpAny_bind (wpAny_alloc (wpAny_bind ?_))))
   rw [Array.toArray_toList]
   unfold newObj
   dsimp only
   rw [if_neg (Nat.not_lt.mpr hsz)]
   show wpAny _ _ (newObjAsIs _ _ _) _ _ _
   unfold newObjAsIs classHasDel
   refine wpAny_bind (wpAny_alloc (wpAny_bind (wpAny_bind (wpAny_load (Heap.get?_push_of_some _ (Heap.get?_push_of_some _ (k1 _ _ hC))) (wpAny_pure ?_)))))
   rw [e2]
   refine wpAny_pure (wpAny_pure ?_)
   show R _ _
   rw [Heap.size_push]
   exact hq h1 k1
 repeat (first | (with_reducible refine wpAny_bind (wpAny_collect_seq T (.inr rfl) hT rfl rfl (fun h1 k1 => fin _ h1 k1) hsz)) | dsimp only [bne_self_eq_false, Bool.not_true, dreduceIte] | lk)
end Ctnew
theorem tnew : ∀ {prog} {w} {A} {R} {h} {g} {d} {t} {os} {T} {xs} {n}, Qtnew prog w A R h g d t os T xs n :=
 fun {prog} {w} {A} {R} {h} {g} {d} {t} {os} {T} {xs} {n} => drink ntnew Ptnew (by with_unfolding_all exact Ctnew.main) ((((prog, w), A), ((R, h), g)), (((d, t), os), ((T, xs), n)))
def NewBack (P : Params) (R : Result -> Shared -> Prop) (r : Result) (s' : Shared) : Prop := match r with
 | .ok (.ret v) => ∃ D dd vs n, v = .ref D ∧ s'.heap.get? D = some { cls := .ref 135, dict := some dd, data := .seq vs n } ∧ (KR P).In s'.heap ∧ R (.ok (.ret (.ref D))) s'
 | .ok _ => False
 | .error e => R (.error e) s'
theorem oi_args4 (a b c e : Value) : argsOk "object.__init__" ⟨[a, b, c, e], []⟩ := by unfold argsOk; kernel_rfl
section
variable (prog : Program) (w : World) (A : Around) (R : Result -> Shared -> Prop) (h : Heap) (g : Array GenState) (d : Drawn) (t : Nat) (os : OsState) (x y z : Value)
def Qcall_matchC : Prop :=
 ∀ (X : (KR w.params).In h),
 ∀ (hq : codeAny (model prog w) (A.under (.builtin "type.__call__" ⟨[.ref 135, x, y, z], []⟩)) (.call (.ref 82) ⟨[.ref 135, x, y, z], []⟩) (NewBack w.params R) ⟨h, g, d, t + 1, os⟩),
 codeAny (model prog w) A (.call (.ref 135) ⟨[x, y, z], []⟩) R ⟨h, g, d, t, os⟩
def Scall_matchC : Prop :=
 Qcall_matchC prog w A R h g d t os x y z
end
abbrev Tcall_matchC : Type := (((Program × World) × Around) × (((Result -> Shared -> Prop) × Heap) × (Array GenState))) × (((Drawn × Nat) × OsState) × ((Value × Value) × Value))
def Pcall_matchC (p : Tcall_matchC) : Prop := Scall_matchC p.1.1.1.1 p.1.1.1.2 p.1.1.2 p.1.2.1.1 p.1.2.1.2 p.1.2.2 p.2.1.1.1 p.2.1.1.2 p.2.1.2 p.2.2.1.1 p.2.2.1.2 p.2.2.2
theorem ncall_matchC : Nonempty Tcall_matchC := ⟨((((PW, Classical.choice neW), callerA), default), (((({} : Shared).drawn, default), ({} : Shared).os), default))⟩
namespace Ccall_matchC
def pt := ep ncall_matchC Pcall_matchC
@[irreducible] def prog := pt.1.1.1.1
@[irreducible] def w := pt.1.1.1.2
@[irreducible] def A := pt.1.1.2
@[irreducible] def R := pt.1.2.1.1
@[irreducible] def h := pt.1.2.1.2
@[irreducible] def g := pt.1.2.2
@[irreducible] def d := pt.2.1.1.1
@[irreducible] def t := pt.2.1.1.2
@[irreducible] def os := pt.2.1.2
@[irreducible] def x := pt.2.2.1.1
@[irreducible] def y := pt.2.2.1.2
@[irreducible] def z := pt.2.2.2
theorem main : Scall_matchC prog w A R h g d t os x y z := by
 unfold Scall_matchC Qcall_matchC
 intro X hq
 have Y := matchCls (M := model prog w) X
 have made := made_none Y
 obtain ⟨⟨oc, od, cd, sl, hC, e1, e2, e4, e5, e6⟩, self, tup, call, typ, ini⟩ := Y
 refine codeAny_of_tree ?_
 show wpAny _ _ (callAny (.ref 135) _) _ _ _
 refine nd_load hC ?_
 show wpAny _ _ (callAny.viaDunder (.ref 135) _) _ _ _
 unfold callAny.viaDunder
 refine wpAny_bind (call.at ?_)
 dsimp only
 rw [tc_bind]
 refine wpAny_bind (wpAny_pure (wpAny_bind (wpAny_pure ?_)))
 refine wpAny_pure (a := Fin.again (.call (.builtin "type.__call__") ⟨.ref 135 :: [x, y, z], []⟩)) (And.intro rfl ?_)
 refine codeAny_call_builtin_at (Code.quiet_builtin _ (by decide +kernel)) entry_typeCall (check_slot tc_kind tc_split typ (tc_args _ _ _) ?_)
 unfold Builtin.«type.__call__»
 have hm : Looks (model prog w) h (mroOf (.ref 135)) cd.mro := ((Looks.ld (part := none) hC).andThen .now).andThen .now
 have e4' : cd.mro.isEmpty = false := by rw [e4]; rfl
 have ga : ∀ {A : Around} {Q E : Value -> Shared -> Prop}, Q (.ref 82) ⟨h, g, d, t + 1, os⟩ -> wpAny (model prog w) A (getAttr (.ref 135) "__new__") Q E ⟨h, g, d, t, os⟩ := fun q =>
   cls_bind (mc := .type "type") (g := .builtin "staticmethod.__get__") (a := .ref 136) (obj := .none) (tp := .ref 135) X (by rfl) (by rfl) (wpAny_call (sm_get (f := .ref 82) (rest := []) X (by rfl) (handed_on (by rfl) q)))
 repeat (first | simp only [e4', Bool.false_eq_true, if_false] | (refine wpAny_bind (ga ?_)) | with_reducible refine wpAny_call ?_ | lk)
 refine codeAny_mono hq fun r s' zz => ?_
 rcases r with e | (v | _ | _ | _) <;> first | exact zz | exact zz.elim | skip
 obtain ⟨D, dd, vs, n, rfl, hD, X', zz⟩ := zz
 clear hq self tup call typ ini made hC hm X
 obtain ⟨h', g', d', tk, os'⟩ := s'
 have Y := matchCls (M := model prog w) X'
 have made := made_none Y
 obtain ⟨-, self, tup, call, typ, ini⟩ := Y
 have t1 : Looks (model prog w) h' (typeOf (.ref D)) (.ref 135) := (Looks.ld hD).andThen .now
 have b1 : Looks (model prog w) h' (bindSpecial (.builtin "object.__init__") (.ref D)) (.builtin "object.__init__", [.ref D]) := Looks.of_pure (oi_bind _)
 unfold isInstance callSpecial? specialOf
 repeat (first | dsimp only [bne_self_eq_false, Bool.not_true, dreduceIte] | with_reducible refine wpAny_call ?_ | lk)
 have t2 : Looks (model prog w) h' (isInstance (.ref D) (.type "object")) true := t1.andThen (looks_mroIn X' (by rfl))
 refine codeAny_call_builtin oi_plain entry_oi (@check_slot (model prog w) _ _ _ "object.__init__" "object" "__init__" (.ref D) [x, y, z] [] _ oi_kind oi_split t2 (oi_args4 _ _ _ _) ?_)
 unfold Builtin.«object.__init__»
 repeat (first | dsimp only [bne_self_eq_false, Bool.not_true, dreduceIte] | with_reducible refine wpAny_call ?_ | lk)
 exact zz
end Ccall_matchC
theorem call_matchC : ∀ {prog} {w} {A} {R} {h} {g} {d} {t} {os} {x y z}, Qcall_matchC prog w A R h g d t os x y z :=
 fun {prog} {w} {A} {R} {h} {g} {d} {t} {os} {x} {y} {z} => drink ncall_matchC Pcall_matchC (by with_unfolding_all exact Ccall_matchC.main) ((((prog, w), A), ((R, h), g)), (((d, t), os), ((x, y), z)))
theorem call_match {prog : Program} {w : World} {A : Around} {R : Result -> Shared -> Prop} {x y z : Value} {s : Shared} (X : (KR w.params).In s.heap)
   (hq : codeAny (model prog w) (A.under (.builtin "type.__call__" ⟨[.ref 135, x, y, z], []⟩)) (.call (.ref 82) ⟨[.ref 135, x, y, z], []⟩) (NewBack w.params R) { s with toks := s.toks + 1 }) :
   codeAny (model prog w) A (.call (.ref 135) ⟨[x, y, z], []⟩) R s := by
 obtain ⟨h, g, d, t, os⟩ := s
 exact call_matchC X hq
end
end Mine
end
noncomputable section
example : True := by w_top off; trivial
namespace Mine
section
variable {prog : Program} {w : World} {A : Around} {E : Value -> Shared -> Prop} {s : Shared} {env : Env} {h₀ : Heap} {target : Expr} {body : List Stmt} {Q : Flow -> Shared -> Prop} {L : Addr} {m : Str -> Option Value} {news : List (Addr × Obj)}
def ForJ (prog : Program) (w : World) (A : Around) (E : Value -> Shared -> Prop) (h₀ : Heap) (env : Env) (target : Expr) (body : List Stmt) (Q : Flow -> Shared -> Prop) (s : Shared) (ws : List (Addr × String)) (keep : List (Addr × Obj)) (its : List Itm) (J : Nat -> (Str -> Option Value) -> List (Addr × Obj) -> Prop) : Prop :=
 ∀ i a v m news h tk, its[i]? = some a -> a.Is v h -> J i m news -> Fr h₀ env.locals h m -> AllObj ws (fun own => News h₀ env.locals h (own ++ news) ->
   wpAny (model prog w) A (assign target env v) (fun _ s₂ => wpAny (model prog w) A (execs body env) (UnrPostW h₀ env.locals { s with heap := h, toks := tk } own (fun m' n' => SubL keep n' ∧ J (i + 1) m' n') Q) E s₂) E { s with heap := h, toks := tk })
theorem AllObj.mono : ∀ {ws : List (Addr × String)} {k k' : List (Addr × Obj) -> Prop}, (∀ l, k l -> k' l) -> AllObj ws k -> AllObj ws k'
 | [], _, _, f, h => f _ h
 | _ :: _, _, _, f, h => fun o ho => AllObj.mono (fun l => f _) (h o ho)
theorem items_J {ws : List (Addr × String)} {keep : List (Addr × Obj)} {its : List Itm} {J : Nat -> (Str -> Option Value) -> List (Addr × Obj) -> Prop} (turn : ForJ prog w A E h₀ env target body Q s ws keep its J)
   (fin : ∀ m news h tk, J its.length m news -> Fr h₀ env.locals h m -> News h₀ env.locals h news -> Q .next { s with heap := h, toks := tk }) :
   ∀ k i m news, i + k = its.length -> J i m news -> ItemsRest prog w A E h₀ env target body Q s ws keep (its.drop i) m news := by
 intro k
 induction k with
 | zero =>
   intro i m news e j
   have : its.drop i = [] := List.drop_eq_nil_of_le (by lia)
   rw [this]
   have e' : i = its.length := by lia
   subst e'
   exact fun h tk F N => fin m news h tk j F N
 | succ k ih =>
   intro i m news e j
   have hlt : i < its.length := by lia
   rw [List.drop_eq_getElem_cons hlt]
   intro v h tk hv F
   refine AllObj.mono (fun own H N => ?_) (turn i _ v m news h tk (List.getElem?_eq_getElem hlt) hv j F)
   refine wpAny_mono (H N) (fun _ s₂ h₂ => wpAny_mono h₂ (fun f s₃ p => ?_) fun _ _ e => e) fun _ _ e => e
   have fin' : ∀ s₃, UnrEndW h₀ env.locals { s with heap := h, toks := tk } own (fun m' n' => SubL keep n' ∧ J (i + 1) m' n') s₃ -> UnrEndW h₀ env.locals { s with heap := h, toks := tk } own (fun m' n' => SubL keep n' ∧ ItemsRest prog w A E h₀ env target body Q s ws keep (its.drop (i + 1)) m' n') s₃ := fun s₃ =>
     Exists.imp fun _ => Exists.imp fun _ => Exists.imp fun _ => Exists.imp fun _ => And.imp_right (And.imp_right (And.imp_right (And.imp_right (And.imp_right (ih (i + 1) _ _ (by lia))))))
   cases f with
   | ret v => exact p
   | brk => exact p
   | next => exact fin' _ p
   | cont => exact fin' _ p
noncomputable def rangeItems (a : Int) (n : Nat) : List Itm := (List.range n).map fun i : Nat => .tok fun t => .int (a + (i : Int)) t
theorem rangeItems_get {a : Int} {n i : Nat} (h : i < n) : (rangeItems a n)[i]? = some (.tok fun t => .int (a + (i : Int)) t) := by
 simp [rangeItems, List.getElem?_range h]
theorem iter_rangeTurns {x : Str} {px : Pos} {r : Addr} {a b : Int} {t u v : Tok} {n : Nat} {m₀ : Str -> Option Value} (hh : A.handled = none) (F : Fr h₀ env.locals s.heap m₀) (N : News h₀ env.locals s.heap news) (hr : IsRange s.heap r a b 1 t u v) (hsm : Builtin.Range.small a b 1 = true)
   (hn : Builtin.Range.rangeSize a b 1 = ((n : Nat) : Int))
   (rest₀ : ∀ I : Addr, (∀ p ∈ news, p.1 < I) -> ItemsRest prog w A E h₀ env (.Name x px) body Q s [(I, "range_iterator")] [] (rangeItems a n) m₀ news) :
   wpAny (model prog w) A (pyIter (.ref r)) (fun it s₂ => TurnsAt prog w A h₀ env (.Name x px) body Q E it s₂) E s := by
 refine wpAny_pyIter_range hr hsm ?_
 refine ktu_core (tk0 := s.toks) (keep := []) (n := n) (ws := [(s.heap.objs.size, "range_iterator")]) (KTurns.ofWalks (LCg.range_walks (I := s.heap.objs.size) hh a n).bound fun i v s Q E st q => wpAny_of_eq rfl q) (by simp [rangeItems]) (fun i v h hp => ?_) (fun i h st => ?_) (fun b hb => ?_) (fun b hb => by simpa using hb) (fun b hb => ?_) ?_ (fun p hp hI => ?_) ?_ (F.push _) (fun p hp => ⟨Heap.get?_push_of_some _ (N p hp).1, (N p hp).2⟩) trivial (rest₀ _ fun p hp => Heap.lt_size (N p hp).1)
 . obtain ⟨hlt, t', rfl⟩ := hp
   exact ⟨_, rangeItems_get hlt, t', rfl⟩
 . exact ⟨[(s.heap.objs.size, _)], ⟨⟨rfl, rfl⟩, trivial⟩, fun p hp => by rw [List.mem_singleton.mp hp]; exact st⟩
 . have hb' : b = s.heap.objs.size := by simpa using hb
   rw [hb']
   exact ⟨List.mem_cons_self .., next_is_new F⟩
 . exact .inl (by simpa using hb)
 . intro hI
   exact absurd F.ns.lt (List.mem_singleton.mp hI ▸ Nat.lt_irrefl _)
 . exact absurd (Heap.lt_size (N p hp).1) ((List.mem_singleton.mp hI) ▸ Nat.lt_irrefl _)
 . show IsRangeIter _ _ _ _ _
   rw [hn]
   simpa using Heap.get?_push_size _ rfl
theorem bm_getset {d : Addr} {led : Bool} {Q : Value -> Shared -> Prop} (F : Fr h₀ L s.heap m) (N : News h₀ L s.heap news) (hx : h₀.get? d = some { cls := .type "set", data := .set #[] 0 (SetTable.fresh 0 0 led) })
   (h : ∀ q h' tk, Fr h₀ L h' m -> News h₀ L h' ((q, bm "set.__contains__" d) :: news) -> (∀ p ∈ news, p.1 < q) -> Q (.ref q) { s with heap := h', toks := tk }) : wpAny (model prog w) A (getAttr (.ref d) "__contains__" true) Q E s :=
 getAttr_set_contains (vs := #[]) (k := 0) (tb := SetTable.fresh 0 0 led) (F.keep _ _ hx) rfl ⟨_, _, _, rfl⟩ rfl fun tk => h _ _ tk (F.push _) (N.push F _) fun p hp => Heap.lt_size (N p hp).1
section
variable {K : Type} [DecidableEq K] {knd : KeyKind prog w K}
theorem bm_getdict {d : Addr} {o : Obj} {kvs : List (K × Value)} {Q : Value -> Shared -> Prop} (F : Fr h₀ L s.heap m) (N : News h₀ L s.heap news) (hp : (d, o) ∈ news) (hd : o.IsDictOf knd kvs)
   (h : ∀ q h' tk, Fr h₀ L h' m -> News h₀ L h' ((q, bm "dict.get" d) :: news) -> (∀ p ∈ news, p.1 < q) -> Q (.ref q) { s with heap := h', toks := tk }) : wpAny (model prog w) A (getAttr (.ref d) "get" true) Q E s := by
 obtain ⟨es, ep, hc, hdat, _⟩ := id hd
 exact getAttr_dict_get (N _ hp).1 hc.1 hdat hc.2.1 fun tk => h _ _ tk (F.push _) (N.push F _) fun p hp => Heap.lt_size (N p hp).1
theorem bm_dget {d q : Addr} {o : Obj} {kvs : List (K × Value)} {k : K} {key dflt : Value} {Q : Value -> Shared -> Prop} (N : News h₀ L s.heap news) (hq : (q, bm "dict.get" d) ∈ news) (hp : (d, o) ∈ news) (hd : o.IsDictOf knd kvs) (lo : (d == sysModules) = false) (hkey : knd.is k key = true)
   (x : Option Value) (hl : valueAt kvs k = x) (h : Q (x.getD dflt) { s with toks := s.toks + 1 }) : wpAny (model prog w) A (call (.ref q) [key, dflt]) Q E s :=
 call_dget (N.get hq) (kda_dict N hp hd) lo hkey x hl h
theorem get_base {d : Addr} {o : Obj} {kvs : List (K × Value)} {k : K} {key dflt : Value} {Q : Value -> Shared -> Prop} (F : Fr h₀ L s.heap m) (hx : h₀.get? d = some o) (hd : o.IsDictOf knd kvs) (lo : (d == sysModules) = false) (hkey : knd.is k key = true)
   (x : Option Value) (hl : valueAt kvs k = x) (h : Q (x.getD dflt) { s with toks := s.toks + 1 }) : wpAny (model prog w) A (call (.builtin "dict.get") [.ref d, key, dflt]) Q E s :=
 have hD : s.heap.DictOf knd d kvs := Heap.dictOf_iff.mpr ⟨o, F.keep _ _ hx, hd⟩
 call_meetsIn PySem.F.slot_dict_get hD.typeIs PySem.F.entry_dict_get (PySem.F.args_dict_get_3 _ _ _) (meets_dict_get_default knd d hkey lo dflt) ⟨_, hD.mapOf, by rw [hl]; exact h⟩
theorem getm_base {d : Addr} {o : Obj} {kvs : List (K × Value)} {pl : Sem Bool} {Q : Value × List Value -> Shared -> Prop} (F : Fr h₀ L s.heap m) (hx : h₀.get? d = some o) (hd : o.IsDictOf knd kvs) (h : Q (.builtin "dict.get", [.ref d]) s) : wpAny (model prog w) A (getMethod (.ref d) "get" pl) Q E s :=
 have hD : s.heap.DictOf knd d kvs := Heap.dictOf_iff.mpr ⟨o, F.keep _ _ hx, hd⟩
 getMethod_builtin hD.typeIs PySem.F.plainAttrs_dict PySem.F.slot_dict_get PySem.F.type_dict_get hD.mapOf.noDict h
end
theorem bm_scontains {d q : Addr} {led : Bool} {i : Int} {t : Tok} {Q : Value -> Shared -> Prop} (F : Fr h₀ L s.heap m) (N : News h₀ L s.heap news) (hq : (q, bm "set.__contains__" d) ∈ news) (hx : h₀.get? d = some { cls := .type "set", data := .set #[] 0 (SetTable.fresh 0 0 led) })
   (h : Q (.bool false) { s with toks := s.toks + 1 }) : wpAny (model prog w) A (call (.ref q) [.int i t]) Q E s :=
 call_scontains (N.get hq) (F.keep _ _ hx) h
end
end Mine
end
noncomputable section
example : True := by w_top off; trivial
namespace Mine
local macro_rules | `(tactic| omega) => `(tactic| walk_at "o")
noncomputable abbrev matchO (vs : List Value) (dd : Addr) : Obj := { cls := .ref 135, dict := some dd, data := .seq vs.toArray }
local macro_rules | `(tactic| walk_at "call builtin:tuple.__new__") => `(tactic| refine Halt.go ?_)
theorem noneOf {α : Type} {x : Option α} (h : ∀ o, x ≠ some o) : x = none := by cases x with | none => rfl | some o => exact absurd rfl (h o)
theorem tnew_w {prog : Program} {w : World} {A : Around} {Q E : Value -> Shared -> Prop} {s : Shared} {P : Params} {T : Addr} {x y z : Value} (X : (KR P).In s.heap) (hT : s.heap.get? T = some { cls := .type "tuple", data := .seq #[x, y, z] })
   (q : ∀ D dd h', Keeps s.heap h' -> s.heap.get? D = none -> h'.get? D = some (matchO [x, y, z] dd) -> Q (.ref D) { s with heap := h' }) :
   wpAny (model prog w) A (call (.builtin "tuple.__new__") [.ref 135, .ref T]) Q E s := by
 obtain ⟨h, g, d, t, os⟩ := s
 refine wpAny_call (tnew (matchCls X) hT (by show 3 ≤ _; decide) fun h1 k1 => ?_)
 refine q _ h1.objs.size _ (fun b o e => Heap.get?_push_of_some _ (Heap.get?_push_of_some _ (k1 b o e))) (noneOf fun o e => ?_) (by heap_get)
 exact absurd (show h1.objs.size + 1 < h1.objs.size from Heap.lt_size (k1 _ o e)) (Nat.not_lt.mpr (Nat.le_succ _))
theorem stub_tuple : Manifest.isStub "tuple" = false := by decide +kernel
theorem meta_tuple : typeOf (.type "tuple") = pure (.type "type") := by kernel_rfl
theorem match_spec {w : World} {loose : List Str} {mean : ExcName -> Option Value} {mg mb : Str -> Option Value}
 {un : Nat} {gd : Option (List Code)} {cn : Str} {cs : Scope} {a : Addr} {ccd : Value} {cl : List (Str × Addr)} {outer : List Env} {A₀ : Around} {base h₀ : Heap} {L : Addr} {m : Str -> Option Value} {s : Shared} {Q E : Value -> Shared -> Prop}
 (B : Below A₀ base outer h₀) (F : Fr h₀ L s.heap m) (X : (Mine.KR w.params).In h₀) (T : Top topProg loose mean mg mb h₀) (hk : cs.kind = .function)
 (hun : un < 600) (x y z : Value)
 (ret : ∀ D dd h' tk', Keeps s.heap h' -> s.heap.get? D = none -> h'.get? D = some (matchO [x, y, z] dd) -> Q (.ref D) { s with heap := h', toks := tk' }) :
 wpAny (model PW w) (ktrTop 307 un gd cn cs L a ccd cl outer) (call (.ref 135) [x, y, z]) Q E s := by
 refine wpAny_call ?_
 refine call_match (X.keeps F.keep) ?_
 k_dflt (refine' enter_plainT ?k1 ?k2 ?k3 ?k5 ?kA ?kF ?kK ?k6 ?k7 ?k8 ?k9 ?kB ?_ ?c2 ?c3 ?c4 ?c5; (case kA | kF => exact rfl); (case kK => assumption); (case k1 | k2 | k3 | k5 => k_asm); (case k6 | k7 => k_is); (case k8 => ktr_room); (case k9 => exact BindsTo.of_eq rfl); (case kB => exact locs rfl); (case c2 | c3 | c4 => exact rfl); (case c5 => decide); intro L' h' tk' F' N' B' X' T'; (try dsimp only); (try k_fold))
 replace F' : Fr s.heap L' h' (fun u => List.lookup u [(oS "size", z), (oS "b", y), (oS "a", x), (oS "_cls", .ref 135)]) := by with_unfolding_all exact F'
 replace N' : News s.heap L' h' [] := N'
 replace X' : (KR w.params).In s.heap := X'
 replace T' : Top topProg loose mean mg mb s.heap := T'
 k_steps
 with_reducible refine' method_type ?F ?X ?m stub_tuple ?e ?h ?_
 case F => k_asm
 case X => k_asm
 case m => exact meta_tuple
 case e => k_dflt k_is
 case h => k_handed
 k_steps
 rename Fr s.heap _ _ _ => F9
 rename News s.heap _ _ _ => N9
 refine Halt.mk (tnew_w (X'.keeps F9.keep) (N9 (_, _) (.head _)).1 fun D dd h1 k1 D0 hD => ?_)
 have F10 := F9.keeps k1
 have N10 := News.after F9 N9 k1 D0 hD
 have D1 : s.heap.get? D = none := (N10 _ (.head _)).2.2
 clear F9 N9
 dsimp only
 k_steps
 rename Fr h₀ L _ _ => kF
 rename News h₀ L _ _ => kN
 exact ⟨_, _, _, 0, rfl, (kN _ (.head _)).1, X.keeps kF.keep, ret _ _ _ _ (fun b o e => F10.keep _ _ e) D1 (kN _ (.head _)).1⟩
end Mine
end
noncomputable section
example : True := by w_top off; trivial
open PySem PySem.W PySem.W.X PyProof.Rows PySem.Calls PySem.Spec Builtin
namespace Mine
local macro_rules | `(tactic| omega) => `(tactic| walk_at "o")
theorem kind_tuple_len : builtinKind "tuple.__len__" = some .slot := by decide +kernel
theorem split_tuple_len : splitId "tuple.__len__" = some ("tuple", "__len__") := by decide +kernel
theorem args_tuple_len (a : Value) : argsOk "tuple.__len__" ⟨[a], []⟩ := by unfold argsOk; kernel_rfl
theorem len_match {prog : Program} {w : World} {A : Around} {E Q : Value -> Shared -> Prop} {s : Shared} {P : Params} {D dd : Addr} {x y z : Value} (X : (KR P).In s.heap) (hD : s.heap.get? D = some (matchO [x, y, z] dd))
   (q : Q (.int 3 (s.toks + 1)) { s with toks := s.toks + 1 + 1 }) : wpAny (model prog w) A (call (.builtin "len") [.ref D]) Q E s := by
 obtain ⟨h, g, d, t, os⟩ := s
 dsimp only at X hD q
 have t1 : Looks (model prog w) h (typeOf (.ref D)) (.ref 135) := (Looks.ld hD).andThen .now
 have b1 : Looks (model prog w) h (typeLookup (.ref 135) "__len__") (some (.builtin "tuple.__len__")) := looks_findIn X (by rfl)
 have c1 : Looks (model prog w) h (bindSpecial (.builtin "tuple.__len__") (.ref D)) (.builtin "tuple.__len__", [.ref D]) := Looks.of_pure (F.slot_tuple_len.bind _)
 have i1 : Looks (model prog w) h (isInstance (.ref D) (.type "tuple")) true := t1.andThen (looks_subIn X (by rfl))
 refine call_function_entry kind_len plain_len entry_len (args_len1 _) ?_
 unfold Builtin.«len» callSpecial? specialOf
 repeat (first | with_reducible refine wpAny_call ?_ | lk)
 refine codeAny_call_builtin F.slot_tuple_len.plain F.entry_tuple_len (@check_slot (model prog w) _ _ _ "tuple.__len__" "tuple" "__len__" (.ref D) [] [] _ kind_tuple_len split_tuple_len i1 (args_tuple_len _) ?_)
 unfold Builtin.«tuple.__len__»
 repeat (first | with_reducible refine wpAny_call ?_ | lk)
 exact ⟨_, rfl, q⟩
local macro_rules | `(tactic| walk_at "call builtin:tuple.__new__") => `(tactic| refine Halt.go ?_)
local macro_rules | `(tactic| walk_at "call builtin:len") => `(tactic| refine Halt.go ?_)
theorem make_spec {w : World} {loose : List Str} {mean : ExcName -> Option Value} {mg mb : Str -> Option Value}
 {un : Nat} {gd : Option (List Code)} {cn : Str} {cs : Scope} {a : Addr} {ccd : Value} {cl : List (Str × Addr)} {outer : List Env} {A₀ : Around} {base h₀ : Heap} {L : Addr} {m : Str -> Option Value} {s : Shared} {Q E : Value -> Shared -> Prop}
 (B : Below A₀ base outer h₀) (F : Fr h₀ L s.heap m) (X : (Mine.KR w.params).In h₀) (T : Top topProg loose mean mg mb h₀) (hk : cs.kind = .function)
 (hun : un < 600) (t : Addr) (x y z : Value) (hT : s.heap.get? t = some { cls := .type "tuple", data := .seq #[x, y, z] }) (q : Addr) (hq : s.heap.get? q = some (methodObj (.ref 89) (.ref 135)))
 (ret : ∀ D dd h' tk', Keeps s.heap h' -> s.heap.get? D = none -> h'.get? D = some (matchO [x, y, z] dd) -> Q (.ref D) { s with heap := h', toks := tk' }) :
 wpAny (model PW w) (ktrTop 306 un gd cn cs L a ccd cl outer).in1.in1.in1 (call (.ref q) [.ref t]) Q E s := by
 refine wpAny_call (method_call hq ?_)
 k_dflt (refine' enter_plainT ?k1 ?k2 ?k3 ?k5 ?kA ?kF ?kK ?k6 ?k7 ?k8 ?k9 ?kB ?_ ?c2 ?c3 ?c4 ?c5; (case kA | kF => exact rfl); (case kK => assumption); (case k1 | k2 | k3 | k5 => k_asm); (case k6 | k7 => k_is); (case k8 => ktr_room); (case k9 => exact BindsTo.of_eq rfl); (case kB => exact locs rfl); (case c2 | c3 | c4 => exact rfl); (case c5 => decide); intro L' h' tk' F' N' B' X' T'; (try dsimp only); (try k_fold))
 replace F' : Fr s.heap L' h' (fun u => List.lookup u [(oS "iterable", .ref t), (oS "cls", .ref 135)]) := by with_unfolding_all exact F'
 k_steps
 with_reducible refine' method_type ?F ?X ?m stub_tuple ?e ?h ?_
 case F => k_asm
 case X => k_asm
 case m => exact meta_tuple
 case e => k_dflt k_is
 case h => k_handed
 k_steps
 rename Fr s.heap _ _ _ => F9
 rename News s.heap _ _ _ => N9
 refine Halt.mk (tnew_w (X'.keeps F9.keep) (F9.keep _ _ hT) fun D dd h1 k1 D0 hD => ?_)
 have F10 := F9.keeps k1
 have N10 := News.after F9 N9 k1 D0 hD
 have D1 : s.heap.get? D = none := (N10 _ (.head _)).2.2
 clear F9 N9
 dsimp only
 k_steps
 rename Fr s.heap _ _ _ => F9
 rename News s.heap _ _ _ => N9
 refine Halt.mk (len_match (X'.keeps F9.keep) (N9 _ (.head _)).1 ?_)
 k_steps
 rename Fr h₀ L _ _ => kF
 rename News h₀ L _ _ => kN
 rename Fr s.heap _ _ _ => F9
 exact ret _ _ _ _ (fun b o e => F9.keep _ _ e) D1 (kN _ (.head _)).1
end Mine
end
noncomputable section
example : True := by w_top off; trivial
namespace Mine
abbrev FSt := (Int -> Int) × Int × Int × Int
noncomputable def flmIn (i blo bhi : Int) (f : Int -> Int) : List Int -> FSt -> FSt
 | [], s => s
 | j :: js, s => if j < blo then flmIn i blo bhi f js s else if bhi ≤ j then s else
   flmIn i blo bhi f js (fun y => if y = j then f (j - 1) + 1 else s.1 y, if s.2.2.2 < f (j - 1) + 1 then (i - (f (j - 1) + 1) + 1, j - (f (j - 1) + 1) + 1, f (j - 1) + 1) else s.2)
noncomputable def flmOut (idx : Int -> List Int) (xs : List Int) (blo bhi alo : Int) : Nat -> FSt -> FSt
 | 0, s => s
 | n + 1, s => flmIn (alo + (n : Int)) blo bhi (flmOut idx xs blo bhi alo n s).1 (idx (xs.getD (alo + (n : Int)).toNat 0)) (fun _ => 0, (flmOut idx xs blo bhi alo n s).2)
section
variable {i blo bhi j c1 c2 c3 : Int} {f g : Int -> Int} {js : List Int}
theorem flm_skip (h : j < blo) : flmIn i blo bhi f (j :: js) (g, c1, c2, c3) = flmIn i blo bhi f js (g, c1, c2, c3) := by rw [flmIn, if_pos h]
theorem flm_brk (h : ¬ j < blo) (h' : bhi ≤ j) : flmIn i blo bhi f (j :: js) (g, c1, c2, c3) = (g, c1, c2, c3) := by rw [flmIn, if_neg h, if_pos h']
theorem flm_hit (h : ¬ j < blo) (h' : ¬ bhi ≤ j) (k : c3 < f (j - 1) + 1) : flmIn i blo bhi f (j :: js) (g, c1, c2, c3) = flmIn i blo bhi f js (fun y => if y = j then f (j - 1) + 1 else g y, i - (f (j - 1) + 1) + 1, j - (f (j - 1) + 1) + 1, f (j - 1) + 1) := by rw [flmIn, if_neg h, if_neg h', if_pos k]
theorem flm_miss (h : ¬ j < blo) (h' : ¬ bhi ≤ j) (k : ¬ c3 < f (j - 1) + 1) : flmIn i blo bhi f (j :: js) (g, c1, c2, c3) = flmIn i blo bhi f js (fun y => if y = j then f (j - 1) + 1 else g y, c1, c2, c3) := by rw [flmIn, if_neg h, if_neg h', if_neg k]
end
noncomputable def idxs (bs : List Int) (c : Int) : List Int := (List.range bs.length).filterMap fun j : Nat => if bs[j]? = some c then some (j : Int) else none
def FlmIs (xs bs : List Int) (alo ahi blo bhi bi bj k : Int) : Prop := ∀ f a b c, flmOut (idxs bs) xs blo bhi alo (ahi - alo).toNat (fun _ => 0, alo, blo, 0) = (f, a, b, c) -> a = bi ∧ b = bj ∧ c = k ∧
 (0 ≤ a ∧ a ≤ 2 ∧ 0 ≤ b ∧ b ≤ 2 ∧ 0 ≤ c ∧ (alo < a -> blo < b -> xs.getD (a - 1).toNat 0 ≠ bs.getD (b - 1).toNat 0) ∧ (a + c < ahi -> b + c < bhi -> xs.getD (a + c).toNat 0 ≠ bs.getD (b + c).toNat 0))
end Mine
end
noncomputable section
example : True := by w_top off; trivial
namespace Mine
noncomputable section
noncomputable abbrev smDict (P : Params) (t0 t1 t2 t3 t4 t5 t6 t7 t8 t9 : Tok) (ra rb d2 d4 d5 : Addr) (mbv opv : Value) (n : Nat) : Obj := dictOf
 [⟨PyData.keyHash P (oS "isjunk"), .str (oS "isjunk") t0, .none⟩,
  ⟨PyData.keyHash P (oS "a"), .str (oS "a") t1, .ref ra⟩,
  ⟨PyData.keyHash P (oS "b"), .str (oS "b") t2, .ref rb⟩,
  ⟨PyData.keyHash P (oS "autojunk"), .str (oS "autojunk") t3, .bool true⟩,
  ⟨PyData.keyHash P (oS "matching_blocks"), .str (oS "matching_blocks") t4, mbv⟩,
  ⟨PyData.keyHash P (oS "opcodes"), .str (oS "opcodes") t5, opv⟩,
  ⟨PyData.keyHash P (oS "fullbcount"), .str (oS "fullbcount") t6, .none⟩,
  ⟨PyData.keyHash P (oS "b2j"), .str (oS "b2j") t7, .ref d2⟩,
  ⟨PyData.keyHash P (oS "bjunk"), .str (oS "bjunk") t8, .ref d4⟩,
  ⟨PyData.keyHash P (oS "bpopular"), .str (oS "bpopular") t9, .ref d5⟩] n
noncomputable abbrev setO (led : Bool) : Obj := { cls := Value.type "set", data := Data.set #[] 0 (SetTable.fresh 0 0 led) }
noncomputable abbrev over (l : List (Str × Value)) (r : Str -> Option Value) : Str -> Option Value := fun y => (List.lookup y l).or (r y)
theorem over_self {l : List (Str × Value)} {r : Str -> Option Value} (h : ∀ p ∈ l, r p.1 = some p.2) : r = over l r := by
 funext y
 show r y = (List.lookup y l).or (r y)
 induction l with
 | nil => rfl
 | cons p l ih =>
   obtain ⟨a, b⟩ := p
   rw [List.lookup_cons]
   cases e : y == a with
   | true => rw [eq_of_beq e]; exact h _ (.head _)
   | false => exact ih fun p hp => h p (.tail _ hp)
section
variable {prog : Program} {w : World}
def DictI (prog : Program) (w : World) (o : Obj) (f : Int -> Int) (n : Nat) : Prop := ∃ kvs : List (Int × Value), o.IsDictOf (intKind prog w) kvs ∧ kvs.length ≤ n ∧ ∀ k, (valueAt kvs k = none ∧ f k = 0) ∨ ∃ t, valueAt kvs k = some (.int (f k) t)
def B2J (h : Heap) (kvs : List (Int × Value)) (bs : List Int) : Prop := ∀ c : Int, (valueAt kvs c = none ∧ idxs bs c = []) ∨ ∃ l vs n, valueAt kvs c = some (.ref l) ∧ h.get? l = some (lst vs n) ∧ IntsAre vs (idxs bs c)
end
def OvL (m : Str -> Option Value) : List (Str × Value) -> Prop
 | [] => True
 | (a, b) :: l => m a = some b ∧ OvL m l
theorem OvL.all {m : Str -> Option Value} : ∀ {l : List (Str × Value)}, OvL m l -> ∀ p ∈ l, m p.1 = some p.2
 | [], _, p, hp => by cases hp
 | (a, b) :: l, h, p, hp => by
   rcases List.mem_cons.mp hp with rfl | hp
   . exact h.1
   . exact OvL.all h.2 p hp
theorem fr_over {g h : Heap} {L : Addr} {m : Str -> Option Value} (l : List (Str × Value)) (F : Fr g L h m) (o : OvL m l) : Fr g L h (over l m) := (over_self o.all) ▸ F
theorem size_up {a b : Int} (h : a ≤ b) : Builtin.Range.rangeSize a b 1 = (((b - a).toNat : Nat) : Int) := by
 unfold Builtin.Range.rangeSize
 rw [if_pos (by decide)]
 split <;> omega
section
variable {prog : Program} {w : World} {A : Around} {E : Value -> Shared -> Prop} {s : Shared} {h₀ : Heap} {L d : Addr} {m : Str -> Option Value} {news : List (Addr × Obj)} {g : Obj -> List (Addr × Obj)} {o : Obj} {f : Int -> Int} {n : Nat}
theorem DictI.le {n' : Nat} (D : DictI prog w o f n) (h : n ≤ n') : DictI prog w o f n' := let ⟨k, a, b, c⟩ := D; ⟨k, a, Nat.le_trans b h, c⟩
theorem rangeItems_is {a : Int} {N i : Nat} {x : Itm} {v : Value} {h : Heap} (e : (rangeItems a N)[i]? = some x) (hv : x.Is v h) : i < N ∧ ∃ t, v = .int (a + (i : Int)) t := by
 have hl : i < N := by
   rcases Nat.lt_or_ge i N with h | h
   . exact h
   . rw [List.getElem?_eq_none (by simp [rangeItems]; exact h)] at e; cases e
 rw [rangeItems_get hl] at e
 cases e
 exact ⟨hl, hv⟩
theorem idxs_le (bs : List Int) (c : Int) : (idxs bs c).length ≤ bs.length := Nat.le_trans (List.length_filterMap_le _ _) (by simp)
theorem vals_is {vs : List Value} {ns : List Int} (hi : IntsAre vs ns) {i : Nat} {x : Itm} {v : Value} {h : Heap} (e : (vs.map Itm.val)[i]? = some x) (hv : x.Is v h) : ∃ k t, v = .int k t ∧ i < ns.length ∧ ns.drop i = k :: ns.drop (i + 1) := by
 have hl : i < ns.length := by
   rcases Nat.lt_or_ge i ns.length with h | h
   . exact h
   . rw [List.getElem?_eq_none (by rw [List.length_map, hi.length]; exact h)] at e; cases e
 obtain ⟨t, ht⟩ := hi.get _ _ (List.getElem?_eq_getElem hl)
 rw [List.getElem?_map, ht] at e
 cases e
 exact ⟨_, t, hv, hl, List.drop_eq_getElem_cons hl⟩
theorem allIn_nil {α : Type} {l : List α} : ∀ p ∈ ([] : List α), p ∈ l := fun p hp => by cases hp
theorem allIn_cons {α : Type} {a : α} {r l : List α} (h : a ∈ l) (t : ∀ p ∈ r, p ∈ l) : ∀ p ∈ a :: r, p ∈ l := fun p hp => (List.mem_cons.mp hp).elim (fun e => e ▸ h) (t p)
theorem offNil {I : Addr} {o : Obj} : ∀ p ∈ ([] : List (Addr × Obj)), ∀ q ∈ [(I, o)], p.1 ≠ q.1 := fun p hp => by cases hp
theorem offCons {I : Addr} {o : Obj} {a : Addr × Obj} {r : List (Addr × Obj)} (h : a.1 ≠ I) (t : ∀ p ∈ r, ∀ q ∈ [(I, o)], p.1 ≠ q.1) : ∀ p ∈ a :: r, ∀ q ∈ [(I, o)], p.1 ≠ q.1 := fun p hp q hq => by
 rcases List.mem_cons.mp hp with e | hp
 . rw [e, List.mem_singleton.mp hq]; exact h
 . exact t p hp q hq
theorem in3 {α : Type} {x a b c : α} (h : x ∈ [a, b, c]) : x = a ∨ x = b ∨ x = c := by simpa using h
theorem in4 {α : Type} {x a b c d : α} (h : x ∈ [a, b, c, d]) : x = a ∨ x = b ∨ x = c ∨ x = d := by simpa using h
theorem in6 {α : Type} {x a b c d e f : α} (h : x ∈ [a, b, c, d, e, f]) : x = a ∨ x = b ∨ x = c ∨ x = d ∨ x = e ∨ x = f := by simpa using h
theorem in7 {α : Type} {x a b c d e f g : α} (h : x ∈ [a, b, c, d, e, f, g]) : x = a ∨ x = b ∨ x = c ∨ x = d ∨ x = e ∨ x = f ∨ x = g := by simpa using h
theorem sub1 {α : Type} {x : α} {l : List α} (h : x ∈ l) : ∀ p ∈ [x], p ∈ l := fun p hp => List.mem_singleton.mp hp ▸ h
theorem unr_end {h₀ : Heap} {L : Addr} {its all news' : List (Addr × Obj)} {rest : (Str -> Option Value) -> List (Addr × Obj) -> Prop} {s₁ : Shared} {h' : Heap} {tk : Nat} {m' : Str -> Option Value} (F : Fr h₀ L h' m') (N : News h₀ L h' all) (hI : ∀ p ∈ its, p ∈ all) (sub : ∀ p ∈ news', p ∈ all)
   (off : ∀ p ∈ news', ∀ q ∈ its, p.1 ≠ q.1) (r : rest m' news') : UnrEndW h₀ L s₁ its rest { s₁ with heap := h', toks := tk } :=
 ⟨h', tk, m', news', rfl, F, fun p hp => (List.mem_append.mp hp).elim (fun h => N p (hI p h)) fun h => N p (sub p h), off, r⟩
theorem off6 {x a1 a2 a3 a4 a5 a6 : Addr} {o o1 o2 o3 o4 o5 o6 : Obj} (l : a1 < x ∧ a2 < x ∧ a3 < x ∧ a4 < x ∧ a5 < x ∧ a6 < x) : ∀ p ∈ [(a1, o1), (a2, o2), (a3, o3), (a4, o4), (a5, o5), (a6, o6)], ∀ q ∈ [(x, o)], p.1 ≠ q.1 := by
 obtain ⟨l1, l2, l3, l4, l5, l6⟩ := l
 intro p hp q hq
 rw [List.mem_singleton.mp hq]
 simp only [List.mem_cons, List.not_mem_nil, or_false] at hp
 rcases hp with rfl | rfl | rfl | rfl | rfl | rfl
 . exact Nat.ne_of_lt l1
 . exact Nat.ne_of_lt l2
 . exact Nat.ne_of_lt l3
 . exact Nat.ne_of_lt l4
 . exact Nat.ne_of_lt l5
 . exact Nat.ne_of_lt l6
theorem off5 {x a2 a3 a4 a5 a6 : Addr} {o2 o3 o4 o5 o6 : Obj} (l : a2 < x ∧ a3 < x ∧ a4 < x ∧ a5 < x ∧ a6 < x) : ∀ p ∈ [(a2, o2), (a3, o3), (a4, o4), (a5, o5), (a6, o6)], p.1 ≠ x := by
 obtain ⟨l2, l3, l4, l5, l6⟩ := l
 intro p hp
 simp only [List.mem_cons, List.not_mem_nil, or_false] at hp
 rcases hp with rfl | rfl | rfl | rfl | rfl
 . exact Nat.ne_of_lt l2
 . exact Nat.ne_of_lt l3
 . exact Nat.ne_of_lt l4
 . exact Nat.ne_of_lt l5
 . exact Nat.ne_of_lt l6
theorem off3 {x a1 a2 a3 : Addr} {o o1 o2 o3 : Obj} (l : x < a1 ∧ a2 < x ∧ a3 < x) : ∀ p ∈ [(a1, o1), (a2, o2), (a3, o3)], ∀ q ∈ [(x, o)], p.1 ≠ q.1 := by
 obtain ⟨l1, l2, l3⟩ := l
 intro p hp q hq
 rw [List.mem_singleton.mp hq]
 simp only [List.mem_cons, List.not_mem_nil, or_false] at hp
 rcases hp with rfl | rfl | rfl
 . exact Nat.ne_of_gt l1
 . exact Nat.ne_of_lt l2
 . exact Nat.ne_of_lt l3
theorem DictI.nil (h : o.IsDictOf (intKind prog w) []) : DictI prog w o (fun _ => 0) 0 := ⟨[], h, Nat.le_refl _, fun _ => .inl ⟨rfl, rfl⟩⟩
theorem find_map_stored {K : Type} [DecidableEq K] (l : List (K × Value)) (k : K) (v : Value) (k' : K) (h : l.any (fun kv => kv.1 = k) = true) :
   valueAt (l.map fun kv => if kv.1 = k then (kv.1, v) else kv) k' = if k' = k then some v else valueAt l k' := by
 have e : (fun kv : K × Value => decide ((if kv.1 = k then (kv.1, v) else kv).1 = k')) = fun kv => decide (kv.1 = k') := funext fun kv => by split <;> rfl
 unfold valueAt
 rw [List.find?_map]
 show ((l.find? (fun kv : K × Value => decide ((if kv.1 = k then (kv.1, v) else kv).1 = k'))).map _).map _ = _
 rw [e]
 cases q : l.find? (fun kv : K × Value => decide (kv.1 = k')) with
 | none =>
   by_cases h2 : k' = k
   . subst h2
     obtain ⟨a, m, ha⟩ := List.any_eq_true.mp h
     exact absurd ha (List.find?_eq_none.mp q a m)
   . rw [if_neg h2]; rfl
 | some kv =>
   obtain rfl : kv.1 = k' := of_decide_eq_true (List.find?_some (p := fun kv : K × Value => decide (kv.1 = k')) q)
   show some (if kv.1 = k then (kv.1, v) else kv).2 = if kv.1 = k then some v else some kv.2
   by_cases h2 : kv.1 = k
   . rw [if_pos h2, if_pos h2]
   . rw [if_neg h2, if_neg h2]
theorem valueAt_stored {K : Type} [DecidableEq K] (kvs : List (K × Value)) (k : K) (v : Value) (k' : K) : valueAt (stored kvs k v) k' = if k' = k then some v else valueAt kvs k' := by
 unfold stored
 split
 . rename_i h; exact find_map_stored kvs k v k' h
 . rename_i h
   have hn : ∀ kv ∈ kvs, ¬ kv.1 = k := fun kv hkv e => h (List.any_eq_true.mpr ⟨kv, hkv, by simpa using e⟩)
   unfold valueAt
   rw [List.find?_append]
   by_cases h2 : k' = k
   . subst h2
     have : kvs.find? (fun kv => decide (kv.1 = k')) = none := List.find?_eq_none.mpr fun kv hkv => by simpa using hn kv hkv
     rw [this]; simp
   . have h2' : ¬ k = k' := fun e => h2 e.symm
     rw [if_neg h2]
     simp [h2']
theorem length_stored {K : Type} [DecidableEq K] (kvs : List (K × Value)) (k : K) (v : Value) : (stored kvs k v).length ≤ kvs.length + 1 := by
 unfold stored; split <;> simp
theorem set_DI {k v : Int} {tk tv : Tok} {Q : Unit -> Shared -> Prop} (F : Fr h₀ L s.heap m) (N : News h₀ L s.heap news) (U : UpdF d o news g) (D : DictI prog w o f n) (hn : n ≤ 100)
   (h : ∀ h' o', Fr h₀ L h' m -> News h₀ L h' (g o') -> DictI prog w o' (fun y => if y = k then v else f y) (n + 1) -> Q () { s with heap := h', toks := s.toks + 1 }) : wpAny (model prog w) A (setItem (.ref d) (.int k tk) (.int v tv)) Q E s := by
 obtain ⟨kvs, hd, hl, hv⟩ := D
 refine kda_set (knd := intKind prog w) F N U hd (intKind_is _ _ _ _) (Nat.le_trans hl (Nat.le_trans hn (by decide))) fun h' o' F' N' hd' => h h' o' F' N' ⟨_, hd', Nat.le_trans (length_stored _ _ _) (by omega), fun k' => ?_⟩
 rw [valueAt_stored]
 by_cases e : k' = k
 . rw [if_pos e]
   simp only [if_pos e]
   exact .inr ⟨tv, rfl⟩
 . rw [if_neg e]
   simp only [if_neg e]
   exact hv k'
theorem dget_DI {q : Addr} {k : Int} {tk t0 : Tok} {Q : Value -> Shared -> Prop} (N : News h₀ L s.heap news) (hq : (q, bm "dict.get" d) ∈ news) (hp : (d, o) ∈ news) (D : DictI prog w o f n) (lo : (d == sysModules) = false)
   (h : ∀ t, Q (.int (f k) t) { s with toks := s.toks + 1 }) : wpAny (model prog w) A (call (.ref q) [.int k tk, .int 0 t0]) Q E s := by
 obtain ⟨kvs, hd, hl, hv⟩ := D
 refine bm_dget (knd := intKind prog w) N hq hp hd lo (intKind_is _ _ _ _) _ rfl ?_
 rcases hv k with ⟨e, e'⟩ | ⟨t, e⟩
 . rw [e, ← e']; exact h t0
 . rw [e]; exact h t
theorem getget_DI {Q : Value -> Shared -> Prop} (F : Fr h₀ L s.heap m) (N : News h₀ L s.heap news) (hp : (d, o) ∈ news) (D : DictI prog w o f n)
   (h : ∀ q h' tk, Fr h₀ L h' m -> News h₀ L h' ((q, bm "dict.get" d) :: news) -> (∀ p ∈ news, p.1 < q) -> Q (.ref q) { s with heap := h', toks := tk }) : wpAny (model prog w) A (getAttr (.ref d) "get" true) Q E s :=
 let ⟨_, hd, _⟩ := D
 bm_getdict F N hp hd h
end
section
variable {prog : Program} {w : World} {A : Around} {E : Value -> Shared -> Prop} {s : Shared} {value slice : PySem.Expr} {l : Addr} {Q : Value -> Shared -> Prop}
theorem item_int {vs : List Value} {ns : List Int} {i : Int} {u : Tok} (hl : s.heap.IsList l vs.toArray) (hi : IntsAre vs ns) (h0 : 0 ≤ i) (h1 : i < ns.length) (hfit : ns.length ≤ 1000) (h : ∀ t, Q (.int (ns.getD i.toNat 0) t) s)
   (hs : subscripted slice false (.ref l) (.int i u) = operate [.ref l, .int i u] (getItem (.ref l) (.int i u))) (hg : ∀ r, letTemporaryGo value (.ref l) r = pure ()) :
   wpAny (model prog w) A (subscriptTail value slice (.ref l) (.int i u)) Q E s := by
 have hlt : i.toNat < ns.length := by omega
 obtain ⟨t, ht⟩ := hi.get _ _ (List.getElem?_eq_getElem hlt)
 refine item_listL hl h0 (by omega) ht ?_ hs hg
 have e : ns.getD i.toNat 0 = ns[i.toNat] := by simp [List.getD, List.getElem?_eq_getElem hlt]
 rw [← e]
 exact h t
end
local macro_rules | `(tactic| k_inst) => `(tactic| exact inst_of (by assumption) (by assumption) (by assumption))
local macro_rules | `(tactic| walk_at "getAttr ref") => `(tactic| (k_here; first
 | ((with_reducible show wpAny _ _ (getAttr _ (oS "__contains__") _) _ _ _); k_dflt (refine bm_getset (by k_asm) (by k_asm) (by assumption) ?_); intro q' h' tk' F' N' l1; (try k_lt l1); (try k_sweep))
 | ((with_reducible show wpAny _ _ (getAttr _ (oS "get") _) _ _ _); k_dflt (refine getget_DI (by k_asm) (by k_asm) (by k_mem) (by assumption) ?_); intro q' h' tk' F' N' l1; (try k_lt l1); (try k_sweep))))
local macro_rules | `(tactic| walk_at "callWith ref") => `(tactic| (k_here; k_dflt (refine callWith_bm (by k_asm) (by k_mem) ?_; k_whole)))
local macro_rules | `(tactic| walk_at "And") => `(tactic| ((with_reducible show StandsBm _ _ _ _ ∧ _); refine And.intro (bm_at (by k_asm) (by k_mem)) ?_; try dsimp only [List.nil_append, List.cons_append]))
local macro_rules | `(tactic| walk_at "subscriptTail Name Name ref int") => `(tactic| (k_dflt (refine item_int (by walk_at "l") (by assumption) (by omega) (by omega) (by omega) ?_ (by with_unfolding_all rfl) (by kmk_pure)); intro t'))
local macro_rules | `(tactic| walk_at "subscriptTail Name BinOp ref int") => `(tactic| (k_dflt (refine item_int (by walk_at "l") (by assumption) (by omega) (by omega) (by omega) ?_ (by with_unfolding_all rfl) (by kmk_pure)); intro t'))
local macro_rules | `(tactic| walk_at "getMethod ref") => `(tactic| (k_dflt (refine getm_base (by k_asm) (by assumption) (by assumption) ?_)))
local macro_rules | `(tactic| walk_at "call ref") => `(tactic| (k_here; first
 | ((with_reducible show wpAny _ _ (call _ [_, _]) _ _ _); k_dflt (refine dget_DI (by k_asm) (by k_mem) (by k_mem) (by assumption) (by assumption) ?_); intro t')
 | (k_dflt (refine bm_scontains (by k_asm) (by k_asm) (by k_mem) (by assumption) ?_))))
local macro_rules | `(tactic| walk_at $k) => if ["call builtin:dict.get", "pyIter ref", "UnrPostW", "WhileStep2", "exec While BoolOp cons nil", "exec For Name Call cons nil", "exec For Name Call"].contains k.getString then `(tactic| refine Halt.go ?_) else Lean.Macro.throwUnsupported
theorem ex10 {α0 α1 α2 α3 α4 α5 α6 α7 α8 α9 : Type} {p : α0 -> α1 -> α2 -> α3 -> α4 -> α5 -> α6 -> α7 -> α8 -> α9 -> Prop} {G : Prop} (h : ∃ a0 a1 a2 a3 a4 a5 a6 a7 a8 a9, p a0 a1 a2 a3 a4 a5 a6 a7 a8 a9) (k : ∀ a0 a1 a2 a3 a4 a5 a6 a7 a8 a9, p a0 a1 a2 a3 a4 a5 a6 a7 a8 a9 -> G) : G := h.elim fun a0 h => h.elim fun a1 h => h.elim fun a2 h => h.elim fun a3 h => h.elim fun a4 h => h.elim fun a5 h => h.elim fun a6 h => h.elim fun a7 h => h.elim fun a8 h => h.elim (k a0 a1 a2 a3 a4 a5 a6 a7 a8)
theorem an8 {A0 A1 A2 A3 A4 A5 A6 A7 G : Prop} (h : A0 ∧ A1 ∧ A2 ∧ A3 ∧ A4 ∧ A5 ∧ A6 ∧ A7) (k : A0 -> A1 -> A2 -> A3 -> A4 -> A5 -> A6 -> A7 -> G) : G := k h.1 h.2.1 h.2.2.1 h.2.2.2.1 h.2.2.2.2.1 h.2.2.2.2.2.1 h.2.2.2.2.2.2.1 h.2.2.2.2.2.2.2
def Sflm_spec (w : World) (loose : List Str) (mean : ExcName -> Option Value) (mg : Str -> Option Value) (mb : Str -> Option Value) (un : Nat) (gd : Option (List Code)) (cn : Str) (cs : Scope) (a : Addr) (ccd : Value) (cl : List (Str × Addr)) (outer : List Env) (A₀ : Around) (base : Heap) (h₀ : Heap) (L : Addr) (m : Str -> Option Value) (s : Shared) (Q : Value -> Shared -> Prop) (E : Value -> Shared -> Prop) (sm : Addr) (dx : Addr) (ra : Addr) (rb : Addr) (d2 : Addr) (d4 : Addr) (d5 : Addr) (t0 : Tok) (t1 : Tok) (t2 : Tok) (t3 : Tok) (t4 : Tok) (t5 : Tok) (t6 : Tok) (t7 : Tok) (t8 : Tok) (t9 : Tok) (mbv : Value) (opv : Value) (nd : Nat) (na : Nat) (nb : Nat) (va : List Value) (vb : List Value) (xs : List Int) (bs : List Int) (o2 : Obj) (kvs : List (Int × Value)) (led : Bool) (blo : Int) (bhi : Int) (s0 : Tok) (s1 : Tok) (s2 : Tok) (s3 : Tok) : Prop :=
 ∀ (B : Below A₀ base outer h₀),
 ∀ (F : Fr h₀ L s.heap m),
 ∀ (X : (Mine.KR w.params).In h₀),
 ∀ (T : Top topProg loose mean mg mb h₀),
 ∀ (hk : cs.kind = .function),
 ∀ (hsm : s.heap.get? sm = some (instObj 242 dx)),
 ∀ (hdx : s.heap.get? dx = some (smDict w.params t0 t1 t2 t3 t4 t5 t6 t7 t8 t9 ra rb d2 d4 d5 mbv opv nd)),
 ∀ (hra : s.heap.get? ra = some (lst va na)),
 ∀ (hrb : s.heap.get? rb = some (lst vb nb)),
 ∀ (hva : IntsAre va xs),
 ∀ (hvb : IntsAre vb bs),
 ∀ (hd2 : s.heap.get? d2 = some o2),
 ∀ (hkv : o2.IsDictOf (intKind PW w) kvs),
 ∀ (hd4 : s.heap.get? d4 = some (setO led)),
 ∀ (alo : Int),
 ∀ (ahi : Int),
 ∀ (b0 : 0 ≤ alo),
 ∀ (b1 : alo ≤ ahi),
 ∀ (b2 : ahi ≤ 2),
 ∀ (b3 : 0 ≤ blo),
 ∀ (b4 : blo ≤ bhi),
 ∀ (b5 : bhi ≤ 2),
 ∀ (hB : B2J s.heap kvs bs),
 ∀ (hlo2 : (d2 == sysModules) = false),
 ∀ (hxl : xs.length = 2),
 ∀ (hbl : bs.length = 2),
 ∀ (hres : ∀ f bi bj bs', flmOut (idxs bs) xs blo bhi alo (ahi - alo).toNat (fun _ => 0, alo, blo, 0) = (f, bi, bj, bs') -> 0 ≤ bi ∧ bi ≤ 2 ∧ 0 ≤ bj ∧ bj ≤ 2 ∧ 0 ≤ bs' ∧ (alo < bi -> blo < bj -> xs.getD (bi - 1).toNat 0 ≠ bs.getD (bj - 1).toNat 0) ∧ (bi + bs' < ahi -> bj + bs' < bhi -> xs.getD (bi + bs').toNat 0 ≠ bs.getD (bj + bs').toNat 0)),
 ∀ (hun : un < 480),
 ∀ (ret : ∀ D dd h' tk' f bi bj bs' u1 u2 u3, Fr h₀ L h' m -> Keeps s.heap h' -> s.heap.get? D = none -> h'.get? D = some (matchO [.int bi u1, .int bj u2, .int bs' u3] dd) -> flmOut (idxs bs) xs blo bhi alo (ahi - alo).toNat (fun _ => 0, alo, blo, 0) = (f, bi, bj, bs') -> Q (.ref D) { s with heap := h', toks := tk' }),
 wpAny (model PW w) (ktrTop 306 un gd cn cs L a ccd cl outer) (call (.ref 196) [.ref sm, .int alo s0, .int ahi s1, .int blo s2, .int bhi s3]) Q E s
abbrev Tflm_spec : Type := (((((World × (List Str)) × ((ExcName -> Option Value) × (Str -> Option Value))) × (((Str -> Option Value) × Nat) × (Option (List Code)))) × (((Str × Scope) × (Addr × Value)) × (((List (Str × Addr)) × (List Env)) × Around))) × ((((Heap × Heap) × (Addr × (Str -> Option Value))) × ((Shared × (Value -> Shared -> Prop)) × (Value -> Shared -> Prop))) × (((Addr × Addr) × (Addr × Addr)) × ((Addr × Addr) × Addr)))) × (((((Tok × Tok) × (Tok × Tok)) × ((Tok × Tok) × Tok)) × (((Tok × Tok) × (Tok × Value)) × ((Value × Nat) × Nat))) × ((((Nat × (List Value)) × ((List Value) × (List Int))) × (((List Int) × Obj) × (List (Int × Value)))) × (((Bool × Int) × (Int × Tok)) × ((Tok × Tok) × Tok))))
def Pflm_spec (p : Tflm_spec) : Prop := Sflm_spec p.1.1.1.1.1.1 p.1.1.1.1.1.2 p.1.1.1.1.2.1 p.1.1.1.1.2.2 p.1.1.1.2.1.1 p.1.1.1.2.1.2 p.1.1.1.2.2 p.1.1.2.1.1.1 p.1.1.2.1.1.2 p.1.1.2.1.2.1 p.1.1.2.1.2.2 p.1.1.2.2.1.1 p.1.1.2.2.1.2 p.1.1.2.2.2 p.1.2.1.1.1.1 p.1.2.1.1.1.2 p.1.2.1.1.2.1 p.1.2.1.1.2.2 p.1.2.1.2.1.1 p.1.2.1.2.1.2 p.1.2.1.2.2 p.1.2.2.1.1.1 p.1.2.2.1.1.2 p.1.2.2.1.2.1 p.1.2.2.1.2.2 p.1.2.2.2.1.1 p.1.2.2.2.1.2 p.1.2.2.2.2 p.2.1.1.1.1.1 p.2.1.1.1.1.2 p.2.1.1.1.2.1 p.2.1.1.1.2.2 p.2.1.1.2.1.1 p.2.1.1.2.1.2 p.2.1.1.2.2 p.2.1.2.1.1.1 p.2.1.2.1.1.2 p.2.1.2.1.2.1 p.2.1.2.1.2.2 p.2.1.2.2.1.1 p.2.1.2.2.1.2 p.2.1.2.2.2 p.2.2.1.1.1.1 p.2.2.1.1.1.2 p.2.2.1.1.2.1 p.2.2.1.1.2.2 p.2.2.1.2.1.1 p.2.2.1.2.1.2 p.2.2.1.2.2 p.2.2.2.1.1.1 p.2.2.2.1.1.2 p.2.2.2.1.2.1 p.2.2.2.1.2.2 p.2.2.2.2.1.1 p.2.2.2.2.1.2 p.2.2.2.2.2
theorem nflm_spec : Nonempty Tflm_spec := ⟨((((((Classical.choice neW, default), default), default), (default, (default, callerA))), ((default, (({}, default), default)), default)), default)⟩
namespace Cflm_spec
def pt := ep nflm_spec Pflm_spec
@[irreducible] def w := pt.1.1.1.1.1.1
@[irreducible] def loose := pt.1.1.1.1.1.2
@[irreducible] def mean := pt.1.1.1.1.2.1
@[irreducible] def mg := pt.1.1.1.1.2.2
@[irreducible] def mb := pt.1.1.1.2.1.1
@[irreducible] def un := pt.1.1.1.2.1.2
@[irreducible] def gd := pt.1.1.1.2.2
@[irreducible] def cn := pt.1.1.2.1.1.1
@[irreducible] def cs := pt.1.1.2.1.1.2
@[irreducible] def a := pt.1.1.2.1.2.1
@[irreducible] def ccd := pt.1.1.2.1.2.2
@[irreducible] def cl := pt.1.1.2.2.1.1
@[irreducible] def outer := pt.1.1.2.2.1.2
@[irreducible] def A₀ := pt.1.1.2.2.2
@[irreducible] def base := pt.1.2.1.1.1.1
@[irreducible] def h₀ := pt.1.2.1.1.1.2
@[irreducible] def L := pt.1.2.1.1.2.1
@[irreducible] def m := pt.1.2.1.1.2.2
@[irreducible] def s := pt.1.2.1.2.1.1
@[irreducible] def Q := pt.1.2.1.2.1.2
@[irreducible] def E := pt.1.2.1.2.2
@[irreducible] def sm := pt.1.2.2.1.1.1
@[irreducible] def dx := pt.1.2.2.1.1.2
@[irreducible] def ra := pt.1.2.2.1.2.1
@[irreducible] def rb := pt.1.2.2.1.2.2
@[irreducible] def d2 := pt.1.2.2.2.1.1
@[irreducible] def d4 := pt.1.2.2.2.1.2
@[irreducible] def d5 := pt.1.2.2.2.2
@[irreducible] def t0 := pt.2.1.1.1.1.1
@[irreducible] def t1 := pt.2.1.1.1.1.2
@[irreducible] def t2 := pt.2.1.1.1.2.1
@[irreducible] def t3 := pt.2.1.1.1.2.2
@[irreducible] def t4 := pt.2.1.1.2.1.1
@[irreducible] def t5 := pt.2.1.1.2.1.2
@[irreducible] def t6 := pt.2.1.1.2.2
@[irreducible] def t7 := pt.2.1.2.1.1.1
@[irreducible] def t8 := pt.2.1.2.1.1.2
@[irreducible] def t9 := pt.2.1.2.1.2.1
@[irreducible] def mbv := pt.2.1.2.1.2.2
@[irreducible] def opv := pt.2.1.2.2.1.1
@[irreducible] def nd := pt.2.1.2.2.1.2
@[irreducible] def na := pt.2.1.2.2.2
@[irreducible] def nb := pt.2.2.1.1.1.1
@[irreducible] def va := pt.2.2.1.1.1.2
@[irreducible] def vb := pt.2.2.1.1.2.1
@[irreducible] def xs := pt.2.2.1.1.2.2
@[irreducible] def bs := pt.2.2.1.2.1.1
@[irreducible] def o2 := pt.2.2.1.2.1.2
@[irreducible] def kvs := pt.2.2.1.2.2
@[irreducible] def led := pt.2.2.2.1.1.1
@[irreducible] def blo := pt.2.2.2.1.1.2
@[irreducible] def bhi := pt.2.2.2.1.2.1
@[irreducible] def s0 := pt.2.2.2.1.2.2
@[irreducible] def s1 := pt.2.2.2.2.1.1
@[irreducible] def s2 := pt.2.2.2.2.1.2
@[irreducible] def s3 := pt.2.2.2.2.2
@[irreducible] def L' : Addr := s.heap.objs.size
theorem hLc : s.heap.objs.size = L' := by delta L'; rfl
noncomputable def sg0 : (P0 : Int -> Int -> Addr -> Nat -> Addr -> Obj -> Addr -> Heap -> Nat -> Prop) ×' ((∀ x0 x1 x2 x3 x4 x5 x6 x7 x8, P0 x0 x1 x2 x3 x4 x5 x6 x7 x8) -> Sflm_spec w loose mean mg mb un gd cn cs a ccd cl outer A₀ base h₀ L m s Q E sm dx ra rb d2 d4 d5 t0 t1 t2 t3 t4 t5 t6 t7 t8 t9 mbv opv nd na nb va vb xs bs o2 kvs led blo bhi s0 s1 s2 s3) := by
 apply PSigma.mk
 case snd =>
   intro hP0
   unfold Sflm_spec
   intro B F X T hk hsm hdx hra hrb hva hvb hd2 hkv hd4 alo ahi b0 b1 b2 b3 b4 b5 hB hlo2 hxl hbl hres hun ret
   refine wpAny_call ?_
   k_dflt (refine' enter_plainTC (L' := L') (hL := ?hL) ?k1 ?k2 ?k3 ?k5 ?kA ?kF ?kK ?k6 ?k7 ?k8 ?k9 ?kB ?_ ?c2 ?c3 ?c4 ?c5; (case kA | kF => exact rfl); (case kK => assumption); (case k1 | k2 => k_asm); (case hL => exact hLc); (case k3 | k5 => k_asm); (case k6 | k7 => k_is); (case k8 => ktr_room); (case k9 => exact binds_K (by k_in) rfl (by k_is) rfl rfl rfl); (case kB => exact locs rfl); (case c2 | c3 | c4 => exact rfl); (case c5 => decide); intro h' tk' F' N' B' X' T'; (try dsimp only); (try k_fold))
   rename Fr s.heap L' _ _ => F1
   replace F1 : Fr s.heap L' h' (fun y => List.lookup y [(oS "bhi", .int bhi s3), (oS "blo", .int blo s2), (oS "ahi", .int ahi s1), (oS "alo", .int alo s0), (oS "self", .ref sm)]) := by with_unfolding_all exact F1
   k_steps
   rename Fr s.heap L' _ _ => F2
   rename News s.heap L' _ _ => N2
   rename_i q1 _ _ _ _ _ _ _ _ _ _ _ tkb _ _ _ _ _ _ _ _ dj0 _ oj0 lo0 _ _ hi0 _ lj _ _ nl _ ln _
   simp only [AllLt, and_true] at lj ln
   have hnew : nl ≠ dj0 := Nat.ne_of_gt ln.1
   have hq1 : q1 ≠ dj0 := Nat.ne_of_lt lj.2.2
   have N3 : News s.heap L' _ [(dj0, oj0), (nl, PySem.W.listOf #[] 0), (q1, bm "set.__contains__" d4)] := fun p hp => by rcases in3 hp with rfl | rfl | rfl <;> exact N2 _ (by k_mem)
   have F3 := fr_over [(oS "bestsize", _), (oS "bestj", _), (oS "besti", _), (oS "j2len", .ref dj0), (oS "nothing", .ref nl), (oS "isbjunk", .ref q1), (oS "b2j", .ref d2), (oS "b", .ref rb), (oS "a", .ref ra), (oS "bhi", .int bhi s3), (oS "blo", .int blo s2), (oS "ahi", .int ahi s1), (oS "alo", .int alo s0)] F2 (by with_unfolding_all exact ⟨rfl, rfl, rfl, rfl, rfl, rfl, rfl, rfl, rfl, rfl, rfl, rfl, rfl, trivial⟩)
   have D3 := DictI.nil hi0
   clear F2 N2 hi0 lj ln
   revert lo0; revert hq1; revert hnew; revert D3; revert N3; revert F3; revert T'; revert X'; revert B'; revert ret; revert hun; revert hres; revert hbl; revert hxl; revert hlo2; revert hB; revert b5; revert b4; revert b3; revert b2; revert b1; revert b0; revert hd4; revert hkv; revert hd2; revert hvb; revert hva; revert hrb; revert hra; revert hdx; revert hsm; revert hk; revert T; revert X; revert F; revert B
   rename_i _ _ _ _ _ _ _ _ _ _ _ _ _ _ _ _ _ _ _ _ _ _ _ _ _ _ _ v27
   exact hP0 alo ahi q1 tkb dj0 oj0 nl v27 tk
namespace K0_0
abbrev TT : Type := (((Int × Int) × Addr) × (Nat × Addr)) × ((Obj × Addr) × (Heap × Nat))
def PP (p : TT) : Prop := sg0.1 p.1.1.1.1 p.1.1.1.2 p.1.1.2 p.1.2.1 p.1.2.2 p.2.1.1 p.2.1.2 p.2.2.1 p.2.2.2
def pt := ep ⟨default⟩ PP
@[irreducible] def alo := pt.1.1.1.1
@[irreducible] def ahi := pt.1.1.1.2
@[irreducible] def q1 := pt.1.1.2
@[irreducible] def tkb := pt.1.2.1
@[irreducible] def dj0 := pt.1.2.2
@[irreducible] def oj0 := pt.2.1.1
@[irreducible] def nl := pt.2.1.2
@[irreducible] def v27 := pt.2.2.1
@[irreducible] def tk := pt.2.2.2
noncomputable def sg1 : (P0 : Heap -> Nat -> Addr -> Nat -> Heap -> Nat -> (Int -> Int) -> Int -> Int -> Int -> Tok -> Tok -> Tok -> Addr -> Obj -> (Str -> Option Value) -> Obj -> Tok -> Prop) ×' (P1 : Heap -> Nat -> (Int -> Int) -> Int -> Int -> Int -> Tok -> Tok -> Tok -> Addr -> (Str -> Option Value) -> Prop) ×' ((∀ x0 x1 x2 x3 x4 x5 x6 x7 x8 x9 x10 x11 x12 x13 x14 x15 x16 x17, P0 x0 x1 x2 x3 x4 x5 x6 x7 x8 x9 x10 x11 x12 x13 x14 x15 x16 x17) -> (∀ x0 x1 x2 x3 x4 x5 x6 x7 x8 x9 x10, P1 x0 x1 x2 x3 x4 x5 x6 x7 x8 x9 x10) -> sg0.1 alo ahi q1 tkb dj0 oj0 nl v27 tk) := by
 apply PSigma.mk
 case snd =>
   apply PSigma.mk
   case snd =>
     intro hP0 hP1
     unfold sg0
     dsimp only
     intro B F X T hk hsm hdx hra hrb hva hvb hd2 hkv hd4 b0 b1 b2 b3 b4 b5 hB hlo2 hxl hbl hres hun ret B' X' T' F3 N3 D3 hnew hq1 lo0
     refine wpAny_mono (Q := fun fl s' => fl = .next ∧ ∃ h' tk f bi bj bs' tb1 tb2 tb3 dj oj r, s' = { s with heap := h', toks := tk } ∧ flmOut (idxs bs) xs blo bhi alo (ahi - alo).toNat (fun _ => 0, alo, blo, 0) = (f, bi, bj, bs') ∧
       Fr s.heap L' h' (over [(oS "bestsize", .int bs' tb3), (oS "bestj", .int bj tb2), (oS "besti", .int bi tb1), (oS "j2len", .ref dj), (oS "nothing", .ref nl), (oS "isbjunk", .ref q1), (oS "b2j", .ref d2), (oS "b", .ref rb), (oS "a", .ref ra), (oS "bhi", .int bhi s3), (oS "blo", .int blo s2), (oS "ahi", .int ahi s1), (oS "alo", .int alo s0)] r) ∧
       News s.heap L' h' [(dj, oj), (nl, PySem.W.listOf #[] 0), (q1, bm "set.__contains__" d4)]) ?_ ?_ fun _ _ e => e
     . with_unfolding_all refine For_turns F3 ?_
       k_steps
       rename IsRange _ _ _ _ _ _ _ _ => hR
       rename Fr s.heap L' _ _ => F4
       rename News s.heap L' _ _ => N4
       refine Halt.mk ?_
       with_unfolding_all refine iter_rangeTurns (n := (ahi - alo).toNat) (by rfl) F4 N4 hR ?_ (size_up b1) fun I hI => items_J (J := fun n m₁ news₁ => ∃ f bi bj bs' tb1 tb2 tb3 dj oj r, n ≤ (ahi - alo).toNat ∧ flmOut (idxs bs) xs blo bhi alo n (fun _ => 0, alo, blo, 0) = (f, bi, bj, bs') ∧ DictI PW w oj f 4 ∧ (dj == sysModules) = false ∧ dj ≠ nl ∧ dj ≠ q1 ∧
         m₁ = over [(oS "bestsize", .int bs' tb3), (oS "bestj", .int bj tb2), (oS "besti", .int bi tb1), (oS "j2len", .ref dj), (oS "nothing", .ref nl), (oS "isbjunk", .ref q1), (oS "b2j", .ref d2), (oS "b", .ref rb), (oS "a", .ref ra), (oS "bhi", .int bhi s3), (oS "blo", .int blo s2), (oS "ahi", .int ahi s1), (oS "alo", .int alo s0)] r ∧
         news₁ = [(dj, oj), (nl, PySem.W.listOf #[] 0), (q1, bm "set.__contains__" d4)]) ?turn ?fin _ 0 _ _ (Nat.zero_add _) ⟨fun _ => 0, alo, blo, 0, _, _, _, dj0, oj0, _, Nat.zero_le _, rfl, ?D0, lo0, hnew.symm, hq1.symm, rfl, rfl⟩
       case D0 => exact D3.le (by omega)
       case fin =>
         rintro m₁ news₁ h tk ⟨f, bi, bj, bs', tb1, tb2, tb3, dj, oj, r, -, hfl, -, -, -, -, rfl, rfl⟩ F5 N5
         refine ⟨rfl, h, tk, f, bi, bj, bs', tb1, tb2, tb3, dj, oj, r, rfl, ?_, F5, N5⟩
         simpa using hfl
       case turn =>
         intro n a v m₁ news₁ h tk hget hv hJ F5
         refine ex10 hJ ?_
         clear hJ
         intro f bi bj bs' tb1 tb2 tb3 dj oj r hJ
         refine an8 hJ ?_
         clear hJ
         intro hn hfl hDI hlo hd1 hd2' e1 e2
         subst e1 e2
         intro oI hcI N5
         obtain ⟨hlt, ti, rfl⟩ := rangeItems_is hget hv
         have hi1 : 0 ≤ alo + (n : Int) := by omega
         have hi2 : alo + (n : Int) < xs.length := by omega
         simp only [List.cons_append, List.nil_append] at N5
         replace F5 : Fr s.heap L' h _ := F5
         replace N5 : News s.heap L' h _ := N5
         have hIn := hI _ (.tail _ (.head _))
         have hIq := hI _ (.tail _ (.tail _ (.head _)))
         revert hIq; revert hIn; revert hi2; revert hi1; revert hfl; revert hn; revert hd2'; revert hd1; revert hlo; revert hDI; revert N5; revert F5; revert hlt; revert T'; revert X'; revert B'; revert ret; revert hun; revert hres; revert hbl; revert hxl; revert hlo2; revert hB; revert b5; revert b4; revert b3; revert b2; revert b1; revert b0; revert hd4; revert hkv; revert hd2; revert hvb; revert hva; revert hrb; revert hra; revert hdx; revert hsm; revert hk; revert T; revert X; revert F; revert B
         rename_i _ _ v2 v3 _ _ _ _
         exact hP0 v2 v3 I n h tk f bi bj bs' tb1 tb2 tb3 dj oj r oI ti
       . have ea : alo = 0 ∨ alo = 1 ∨ alo = 2 := by omega
         have eh : ahi = 0 ∨ ahi = 1 ∨ ahi = 2 := by omega
         rcases ea with e | e | e <;> rcases eh with e' | e' | e' <;> rw [e, e'] <;> decide
     . rintro fl s' ⟨rfl, h3, tk3, f, bi, bj, bs', tb1, tb2, tb3, dj, oj, r, rfl, hfl, F3, N3'⟩
       have N3 := News.sub' N3' (b := [(q1, bm "set.__contains__" d4)]) (by simp)
       clear N3'
       obtain ⟨k0, k1, k2, k3, k4, hno1, hno2⟩ := hres f bi bj bs' hfl
       revert hfl; revert hno2; revert hno1; revert k4; revert k3; revert k2; revert k1; revert k0; revert N3; revert F3; revert T'; revert X'; revert B'; revert ret; revert hun; revert hres; revert hbl; revert hxl; revert hlo2; revert hB; revert b5; revert b4; revert b3; revert b2; revert b1; revert b0; revert hd4; revert hkv; revert hd2; revert hvb; revert hva; revert hrb; revert hra; revert hdx; revert hsm; revert hk; revert T; revert X; revert F; revert B
       exact hP1 h3 tk3 f bi bj bs' tb1 tb2 tb3 dj r
namespace K1_0
abbrev TT : Type := ((((Heap × Nat) × Addr) × (Nat × Heap)) × ((Nat × (Int -> Int)) × (Int × Int))) × ((((Int × Tok) × Tok) × (Tok × Addr)) × ((Obj × (Str -> Option Value)) × (Obj × Tok)))
def PP (p : TT) : Prop := sg1.1 p.1.1.1.1.1 p.1.1.1.1.2 p.1.1.1.2 p.1.1.2.1 p.1.1.2.2 p.1.2.1.1 p.1.2.1.2 p.1.2.2.1 p.1.2.2.2 p.2.1.1.1.1 p.2.1.1.1.2 p.2.1.1.2 p.2.1.2.1 p.2.1.2.2 p.2.2.1.1 p.2.2.1.2 p.2.2.2.1 p.2.2.2.2
def pt := ep ⟨default⟩ PP
@[irreducible] def v2 := pt.1.1.1.1.1
@[irreducible] def v3 := pt.1.1.1.1.2
@[irreducible] def I := pt.1.1.1.2
@[irreducible] def n := pt.1.1.2.1
@[irreducible] def h := pt.1.1.2.2
@[irreducible] def tk := pt.1.2.1.1
@[irreducible] def f := pt.1.2.1.2
@[irreducible] def bi := pt.1.2.2.1
@[irreducible] def bj := pt.1.2.2.2
@[irreducible] def bs' := pt.2.1.1.1.1
@[irreducible] def tb1 := pt.2.1.1.1.2
@[irreducible] def tb2 := pt.2.1.1.2
@[irreducible] def tb3 := pt.2.1.2.1
@[irreducible] def dj := pt.2.1.2.2
@[irreducible] def oj := pt.2.2.1.1
@[irreducible] def r := pt.2.2.1.2
@[irreducible] def oI := pt.2.2.2.1
@[irreducible] def ti := pt.2.2.2.2
noncomputable def sg2 : (P0 : Addr -> Addr -> Obj -> Heap -> Nat -> (List Int) -> Prop) ×' ((∀ x0 x1 x2 x3 x4 x5, P0 x0 x1 x2 x3 x4 x5) -> sg1.1 v2 v3 I n h tk f bi bj bs' tb1 tb2 tb3 dj oj r oI ti) := by
 apply PSigma.mk
 case snd =>
   intro hP0
   unfold sg1
   dsimp only
   intro B F X T hk hsm hdx hra hrb hva hvb hd2 hkv hd4 b0 b1 b2 b3 b4 b5 hB hlo2 hxl hbl hres hun ret B' X' T' hlt F5 N5 hDI hlo hd1 hd2' hn hfl hi1 hi2 hIn hIq
   k_steps
   rename Fr s.heap L' _ _ => F6
   rename News s.heap L' _ _ => N6
   rename_i qg _ _ lg _ _ dn _ on lon _ _ hin _ ln _
   simp only [AllLt, and_true] at ln
   have F7 := fr_over [(oS "newj2len", .ref dn), (oS "j2lenget", .ref qg), (oS "i", .int (alo + (n : Int)) ti), (oS "bestsize", .int bs' tb3), (oS "bestj", .int bj tb2), (oS "besti", .int bi tb1), (oS "j2len", .ref dj), (oS "nothing", .ref nl), (oS "isbjunk", .ref q1), (oS "b2j", .ref d2), (oS "b", .ref rb), (oS "a", .ref ra), (oS "bhi", .int bhi s3), (oS "blo", .int blo s2), (oS "ahi", .int ahi s1), (oS "alo", .int alo s0)] F6 (by with_unfolding_all exact ⟨rfl, rfl, rfl, rfl, rfl, rfl, rfl, rfl, rfl, rfl, rfl, rfl, rfl, rfl, rfl, rfl, trivial⟩)
   have D7 := DictI.nil hin
   have hjl := idxs_le bs (xs.getD (alo + (n : Int)).toNat 0)
   have hBx := hB (xs.getD (alo + (n : Int)).toNat 0)
   generalize hjs : idxs bs (xs.getD (alo + (n : Int)).toNat 0) = js at hjl hBx
   revert lon; revert hIq; revert hIn; revert hlt; revert hi2; revert hi1; revert hfl; revert hn; revert hd2'; revert hd1; revert hlo; revert hDI; revert lg; revert ln; revert hjs; revert hBx; revert hjl; revert D7; revert N6; revert F7; revert T'; revert X'; revert B'; revert ret; revert hun; revert hres; revert hbl; revert hxl; revert hlo2; revert hB; revert b5; revert b4; revert b3; revert b2; revert b1; revert b0; revert hd4; revert hkv; revert hd2; revert hvb; revert hva; revert hrb; revert hra; revert hdx; revert hsm; revert hk; revert T; revert X; revert F; revert B
   rename_i _ _ _ _ _ _ _ _ _ _ v10
   exact hP0 qg dn on v10 tk js
namespace K2_0
abbrev TT : Type := ((Addr × Addr) × Obj) × ((Heap × Nat) × (List Int))
def PP (p : TT) : Prop := sg2.1 p.1.1.1 p.1.1.2 p.1.2 p.2.1.1 p.2.1.2 p.2.2
def pt := ep ⟨default⟩ PP
@[irreducible] def qg := pt.1.1.1
@[irreducible] def dn := pt.1.1.2
@[irreducible] def on := pt.1.2
@[irreducible] def v10 := pt.2.1.1
@[irreducible] def tk := pt.2.1.2
@[irreducible] def js := pt.2.2
noncomputable def sg3 : (P0 : Addr -> Nat -> Heap -> Nat -> (Int -> Int) -> Int -> Int -> Int -> Tok -> Tok -> Tok -> Obj -> (Str -> Option Value) -> Obj -> Int -> Tok -> Prop) ×' ((∀ x0 x1 x2 x3 x4 x5 x6 x7 x8 x9 x10 x11 x12 x13 x14 x15, P0 x0 x1 x2 x3 x4 x5 x6 x7 x8 x9 x10 x11 x12 x13 x14 x15) -> sg2.1 qg dn on v10 tk js) := by
 apply PSigma.mk
 case snd =>
   intro hP0
   unfold sg2
   dsimp only
   intro B F X T hk hsm hdx hra hrb hva hvb hd2 hkv hd4 b0 b1 b2 b3 b4 b5 hB hlo2 hxl hbl hres hun ret B' X' T' F7 N6 D7 hjl hBx hjs ln lg hDI hlo hd1 hd2' hn hfl hi1 hi2 hlt hIn hIq lon
   refine wpAny_mono (Q := fun fl s' => fl = .next ∧ ∃ h' tk g bi2 bj2 bs2 t1 t2 t3 on2 r2, s' = { s with heap := h', toks := tk } ∧ flmIn (alo + (n : Int)) blo bhi f js (fun _ => 0, bi, bj, bs') = (g, bi2, bj2, bs2) ∧ DictI PW w on2 g 4 ∧
     Fr s.heap L' h' (over [(oS "newj2len", .ref dn), (oS "j2lenget", .ref qg), (oS "i", .int (alo + (n : Int)) ti), (oS "bestsize", .int bs2 t3), (oS "bestj", .int bj2 t2), (oS "besti", .int bi2 t1), (oS "j2len", .ref dj), (oS "nothing", .ref nl), (oS "isbjunk", .ref q1), (oS "b2j", .ref d2), (oS "b", .ref rb), (oS "a", .ref ra), (oS "bhi", .int bhi s3), (oS "blo", .int blo s2), (oS "ahi", .int ahi s1), (oS "alo", .int alo s0)] r2) ∧
     News s.heap L' h' [(dn, on2), (qg, bm "dict.get" dj), (I, oI), (dj, oj), (nl, PySem.W.listOf #[] 0), (q1, bm "set.__contains__" d4)]) ?inner ?after fun _ _ e => e
   case inner =>
     with_unfolding_all refine For_turns F7 ?_
     k_steps
     rename Fr s.heap L' _ _ => F8
     rename News s.heap L' _ _ => N8
     refine Halt.mk ?_
     refine get_base (knd := intKind PW w) F8 hd2 hkv hlo2 (intKind_is _ _ _ _) _ rfl ?_
     rcases hBx with ⟨e, e'⟩ | ⟨l, vl, nn, e, hl, hil⟩
     . rw [e]
       dsimp only [Option.getD_none]
       k_steps
       rename Fr s.heap L' _ _ => F9
       rename News s.heap L' _ _ => N9
       refine Halt.mk ?_
       with_unfolding_all refine iter_listTurns (vs := []) (n := 0) (by rfl) F9 N9 (.tail _ (.tail _ (.tail _ (.tail _ (.head _))))) rfl rfl fun I2 hI2 h tk F10 N10 => ⟨rfl, h, tk, fun _ => 0, bi, bj, bs', tb1, tb2, tb3, on, _, rfl, by rw [e']; rfl, D7.le (by omega), F10, N10⟩
     . rw [e]
       dsimp only [Option.getD_some]
       k_steps
       rename Fr s.heap L' _ _ => F9
       rename News s.heap L' _ _ => N9
       refine Halt.mk ?_
       with_unfolding_all refine turns_base (by rfl) F9 N9 (isl0 hl) fun I2 hI2 => items_J (J := fun t m₁ news₁ => ∃ g c1 c2 c3 t1 t2 t3 on2 r2, t ≤ js.length ∧ flmIn (alo + (n : Int)) blo bhi f (js.drop t) (g, c1, c2, c3) = flmIn (alo + (n : Int)) blo bhi f js (fun _ => 0, bi, bj, bs') ∧ DictI PW w on2 g t ∧
         m₁ = over [(oS "newj2len", .ref dn), (oS "j2lenget", .ref qg), (oS "i", .int (alo + (n : Int)) ti), (oS "bestsize", .int c3 t3), (oS "bestj", .int c2 t2), (oS "besti", .int c1 t1), (oS "j2len", .ref dj), (oS "nothing", .ref nl), (oS "isbjunk", .ref q1), (oS "b2j", .ref d2), (oS "b", .ref rb), (oS "a", .ref ra), (oS "bhi", .int bhi s3), (oS "blo", .int blo s2), (oS "ahi", .int ahi s1), (oS "alo", .int alo s0)] r2 ∧
         news₁ = [(dn, on2), (qg, bm "dict.get" dj), (I, oI), (dj, oj), (nl, PySem.W.listOf #[] 0), (q1, bm "set.__contains__" d4)]) ?turn ?fin _ 0 _ _ (Nat.zero_add _) ⟨fun _ => 0, bi, bj, bs', tb1, tb2, tb3, on, _, Nat.zero_le _, rfl, D7, rfl, rfl⟩
       case fin =>
         rintro m₁ news₁ h tk ⟨g, c1, c2, c3, t1, t2, t3, on2, r2, hle, hfl2, hD2, rfl, rfl⟩ F10 N10
         refine ⟨rfl, h, tk, g, c1, c2, c3, t1, t2, t3, on2, r2, rfl, ?_, hD2.le (by simp only [List.length_map, hil.length]; omega), F10, N10⟩
         rw [← hfl2, List.drop_eq_nil_of_le (by simp only [List.length_map, hil.length]; omega)]
         rfl
       case turn =>
         rintro t a v m₁ news₁ h tk hget2 hv2 ⟨g, c1, c2, c3, t1, t2, t3, on2, r2, hle, hfl2, hD2, rfl, rfl⟩ F10
         intro oI2 hcI2 N10
         obtain ⟨j, tj, rfl, htl, hdrop⟩ := vals_is hil hget2 hv2
         simp only [List.cons_append, List.nil_append] at N10
         replace F10 : Fr s.heap L' h _ := F10
         have lI : dn < I2 ∧ qg < I2 ∧ I < I2 ∧ dj < I2 ∧ nl < I2 ∧ q1 < I2 := ⟨hI2 _ (.head _), hI2 _ (.tail _ (.head _)), hI2 _ (.tail _ (.tail _ (.head _))), hI2 _ (.tail _ (.tail _ (.tail _ (.head _)))), hI2 _ (.tail _ (.tail _ (.tail _ (.tail _ (.head _))))), hI2 _ (.tail _ (.tail _ (.tail _ (.tail _ (.tail _ (.head _))))))⟩
         replace N10 : News s.heap L' h _ := N10
         revert hlo; revert ln; revert hjl; revert hle; revert htl; revert hdrop; revert hfl2; revert hD2; revert lI; revert N10; revert F10; revert hn; revert hd2'; revert hd1; revert hDI; revert T'; revert X'; revert B'; revert ret; revert hun; revert hres; revert hbl; revert hxl; revert hlo2; revert hB; revert b5; revert b4; revert b3; revert b2; revert b1; revert b0; revert hd4; revert hkv; revert hd2; revert hvb; revert hva; revert hrb; revert hra; revert hdx; revert hsm; revert hk; revert T; revert X; revert F; revert B
         exact hP0 I2 t h tk g c1 c2 c3 t1 t2 t3 on2 r2 oI2 j tj
   case after =>
     rintro fl s' ⟨rfl, h12, tk12, g, c1, c2, c3, t1, t2, t3, on2, r2, rfl, hfl2, hD2, F12, N12⟩
     try dsimp only
     k_steps
     rename News s.heap L' _ _ => N13
     rename Fr s.heap L' _ _ => F13
     refine unr_end (news' := [(dn, on2), (nl, PySem.W.listOf #[] 0), (q1, bm "set.__contains__" d4)]) (fr_over [(oS "bestsize", _), (oS "bestj", _), (oS "besti", _), (oS "j2len", .ref dn), (oS "nothing", .ref nl), (oS "isbjunk", .ref q1), (oS "b2j", .ref d2), (oS "b", .ref rb), (oS "a", .ref ra), (oS "bhi", .int bhi s3), (oS "blo", .int blo s2), (oS "ahi", .int ahi s1), (oS "alo", .int alo s0)] F13 (by with_unfolding_all exact ⟨rfl, rfl, rfl, rfl, rfl, rfl, rfl, rfl, rfl, rfl, rfl, rfl, rfl, trivial⟩)) N13 (sub1 (by k_mem)) (by simp) (off3 ⟨ln.2.1, hIn, hIq⟩) ⟨trivial, g, c1, c2, c3, t1, t2, t3, dn, on2, _, hlt, ?_, hD2, lon, Nat.ne_of_gt ln.2.2.2.1, Nat.ne_of_gt ln.2.2.2.2, rfl, rfl⟩
     rw [flmOut, hfl, hjs]
     exact hfl2
namespace K3_0
abbrev TT : Type := (((Addr × Nat) × (Heap × Nat)) × (((Int -> Int) × Int) × (Int × Int))) × (((Tok × Tok) × (Tok × Obj)) × (((Str -> Option Value) × Obj) × (Int × Tok)))
def PP (p : TT) : Prop := sg3.1 p.1.1.1.1 p.1.1.1.2 p.1.1.2.1 p.1.1.2.2 p.1.2.1.1 p.1.2.1.2 p.1.2.2.1 p.1.2.2.2 p.2.1.1.1 p.2.1.1.2 p.2.1.2.1 p.2.1.2.2 p.2.2.1.1 p.2.2.1.2 p.2.2.2.1 p.2.2.2.2
def pt := ep ⟨default⟩ PP
@[irreducible] def I2 := pt.1.1.1.1
@[irreducible] def t := pt.1.1.1.2
@[irreducible] def h := pt.1.1.2.1
@[irreducible] def tk := pt.1.1.2.2
@[irreducible] def g := pt.1.2.1.1
@[irreducible] def c1 := pt.1.2.1.2
@[irreducible] def c2 := pt.1.2.2.1
@[irreducible] def c3 := pt.1.2.2.2
@[irreducible] def t1 := pt.2.1.1.1
@[irreducible] def t2 := pt.2.1.1.2
@[irreducible] def t3 := pt.2.1.2.1
@[irreducible] def on2 := pt.2.1.2.2
@[irreducible] def r2 := pt.2.2.1.1
@[irreducible] def oI2 := pt.2.2.1.2
@[irreducible] def j := pt.2.2.2.1
@[irreducible] def tj := pt.2.2.2.2
theorem sg4 : sg3.1 I2 t h tk g c1 c2 c3 t1 t2 t3 on2 r2 oI2 j tj := by
 unfold sg3
 dsimp only
 intro B F X T hk hsm hdx hra hrb hva hvb hd2 hkv hd4 b0 b1 b2 b3 b4 b5 hB hlo2 hxl hbl hres hun ret B' X' T' hDI hd1 hd2' hn F10 N10 lI hD2 hfl2 hdrop htl hle hjl ln hlo
 k_steps
 . rename News s.heap L' _ _ => N11
   rename Fr s.heap L' _ _ => F11
   refine Halt.mk ?_
   refine unr_end (news' := [(dn, on2), (qg, bm "dict.get" dj), (I, oI), (dj, oj), (nl, PySem.W.listOf #[] 0), (q1, bm "set.__contains__" d4)]) (fr_over [(oS "newj2len", .ref dn), (oS "j2lenget", .ref qg), (oS "i", .int (alo + (n : Int)) ti), (oS "bestsize", .int c3 t3), (oS "bestj", .int c2 t2), (oS "besti", .int c1 t1), (oS "j2len", .ref dj), (oS "nothing", .ref nl), (oS "isbjunk", .ref q1), (oS "b2j", .ref d2), (oS "b", .ref rb), (oS "a", .ref ra), (oS "bhi", .int bhi s3), (oS "blo", .int blo s2), (oS "ahi", .int ahi s1), (oS "alo", .int alo s0)] F11 (by with_unfolding_all exact ⟨rfl, rfl, rfl, rfl, rfl, rfl, rfl, rfl, rfl, rfl, rfl, rfl, rfl, rfl, rfl, rfl, trivial⟩)) N11 (sub1 (by k_mem)) (by simp) (off6 lI) ⟨trivial, g, c1, c2, c3, t1, t2, t3, on2, _, htl, ?_, hD2.le (Nat.le_succ _), rfl, rfl⟩
   rw [← hfl2, hdrop, flm_skip (by assumption)]
 . rename News s.heap L' _ _ => N11
   rename Fr s.heap L' _ _ => F11
   refine Halt.mk ?_
   refine ⟨rfl, _, _, g, c1, c2, c3, t1, t2, t3, on2, _, rfl, ?_, hD2.le (by omega), fr_over [(oS "newj2len", .ref dn), (oS "j2lenget", .ref qg), (oS "i", .int (alo + (n : Int)) ti), (oS "bestsize", .int c3 t3), (oS "bestj", .int c2 t2), (oS "besti", .int c1 t1), (oS "j2len", .ref dj), (oS "nothing", .ref nl), (oS "isbjunk", .ref q1), (oS "b2j", .ref d2), (oS "b", .ref rb), (oS "a", .ref ra), (oS "bhi", .int bhi s3), (oS "blo", .int blo s2), (oS "ahi", .int ahi s1), (oS "alo", .int alo s0)] F11 (by with_unfolding_all exact ⟨rfl, rfl, rfl, rfl, rfl, rfl, rfl, rfl, rfl, rfl, rfl, rfl, rfl, rfl, rfl, rfl, trivial⟩), News.sub' N11 (by simp)⟩
   rw [← hfl2, hdrop, flm_brk (by omega) (by omega)]
 . rename News s.heap L' _ _ => N11
   exact bm_at N11 (.tail _ (.tail _ (.head _)))
 . rename News s.heap L' _ _ => N11
   rename Fr s.heap L' _ _ => F11
   refine' set_DI (n := t) ?F ?N ?U hD2 (Nat.le_trans (Nat.le_of_lt (Nat.lt_of_lt_of_le htl hjl)) (by rw [hbl]; decide)) ?_
   case F => exact F11
   case N => exact N11
   case U => exact .tail (p := (I2, oI2)) (Nat.ne_of_gt lI.1) (.head (off5 (o2 := bm "dict.get" dj) (o3 := oI) (o4 := oj) (o5 := PySem.W.listOf #[] 0) (o6 := bm "set.__contains__" d4) ln))
   intro h12 on3 F12 N12 hD3
   try dsimp only at N12
   try dsimp only
   k_steps
   . rename News s.heap L' _ _ => N13
     rename Fr s.heap L' _ _ => F13
     refine Halt.mk ?_
     refine unr_end (news' := [(dn, on3), (qg, bm "dict.get" dj), (I, oI), (dj, oj), (nl, PySem.W.listOf #[] 0), (q1, bm "set.__contains__" d4)]) (fr_over [(oS "newj2len", .ref dn), (oS "j2lenget", .ref qg), (oS "i", .int (alo + (n : Int)) ti), (oS "bestsize", _), (oS "bestj", _), (oS "besti", _), (oS "j2len", .ref dj), (oS "nothing", .ref nl), (oS "isbjunk", .ref q1), (oS "b2j", .ref d2), (oS "b", .ref rb), (oS "a", .ref ra), (oS "bhi", .int bhi s3), (oS "blo", .int blo s2), (oS "ahi", .int ahi s1), (oS "alo", .int alo s0)] F13 (by with_unfolding_all exact ⟨rfl, rfl, rfl, rfl, rfl, rfl, rfl, rfl, rfl, rfl, rfl, rfl, rfl, rfl, rfl, rfl, trivial⟩)) N13 (sub1 (by k_mem)) (by simp) (off6 lI) ⟨trivial, _, _, _, _, _, _, _, on3, _, htl, ?_, hD3, rfl, rfl⟩
     rw [← hfl2, hdrop, flm_hit (by omega) (by omega) (by assumption)]
   . rename News s.heap L' _ _ => N13
     rename Fr s.heap L' _ _ => F13
     refine Halt.mk ?_
     refine unr_end (news' := [(dn, on3), (qg, bm "dict.get" dj), (I, oI), (dj, oj), (nl, PySem.W.listOf #[] 0), (q1, bm "set.__contains__" d4)]) (fr_over [(oS "newj2len", .ref dn), (oS "j2lenget", .ref qg), (oS "i", .int (alo + (n : Int)) ti), (oS "bestsize", .int c3 t3), (oS "bestj", .int c2 t2), (oS "besti", .int c1 t1), (oS "j2len", .ref dj), (oS "nothing", .ref nl), (oS "isbjunk", .ref q1), (oS "b2j", .ref d2), (oS "b", .ref rb), (oS "a", .ref ra), (oS "bhi", .int bhi s3), (oS "blo", .int blo s2), (oS "ahi", .int ahi s1), (oS "alo", .int alo s0)] F13 (by with_unfolding_all exact ⟨rfl, rfl, rfl, rfl, rfl, rfl, rfl, rfl, rfl, rfl, rfl, rfl, rfl, rfl, rfl, rfl, trivial⟩)) N13 (sub1 (by k_mem)) (by simp) (off6 lI) ⟨trivial, _, _, _, _, _, _, _, on3, _, htl, ?_, hD3, rfl, rfl⟩
     rw [← hfl2, hdrop, flm_miss (by omega) (by omega) (by assumption)]
theorem fin : ∀ x, PP x := drink ⟨default⟩ PP (by with_unfolding_all exact sg4)
end K3_0
theorem fin : ∀ x, PP x := drink ⟨default⟩ PP (by with_unfolding_all exact sg3.2 (by intros; exact K3_0.fin ((((_, _), (_, _)), ((_, _), (_, _))), (((_, _), (_, _)), ((_, _), (_, _))))))
end K2_0
theorem fin : ∀ x, PP x := drink ⟨default⟩ PP (by with_unfolding_all exact sg2.2 (by intros; exact K2_0.fin (((_, _), _), ((_, _), _))))
end K1_0
namespace K1_1
abbrev TT : Type := (((Heap × Nat) × (Int -> Int)) × ((Int × Int) × Int)) × (((Tok × Tok) × Tok) × (Addr × (Str -> Option Value)))
def PP (p : TT) : Prop := sg1.2.1 p.1.1.1.1 p.1.1.1.2 p.1.1.2 p.1.2.1.1 p.1.2.1.2 p.1.2.2 p.2.1.1.1 p.2.1.1.2 p.2.1.2 p.2.2.1 p.2.2.2
def pt := ep ⟨default⟩ PP
@[irreducible] def h3 := pt.1.1.1.1
@[irreducible] def tk3 := pt.1.1.1.2
@[irreducible] def f := pt.1.1.2
@[irreducible] def bi := pt.1.2.1.1
@[irreducible] def bj := pt.1.2.1.2
@[irreducible] def bs' := pt.1.2.2
@[irreducible] def tb1 := pt.2.1.1.1
@[irreducible] def tb2 := pt.2.1.1.2
@[irreducible] def tb3 := pt.2.1.2
@[irreducible] def dj := pt.2.2.1
@[irreducible] def r := pt.2.2.2
theorem sg5 : sg1.2.1 h3 tk3 f bi bj bs' tb1 tb2 tb3 dj r := by
 unfold sg1
 dsimp only
 intro B F X T hk hsm hdx hra hrb hva hvb hd2 hkv hd4 b0 b1 b2 b3 b4 b5 hB hlo2 hxl hbl hres hun ret B' X' T' F3 N3 k0 k1 k2 k3 k4 hno1 hno2 hfl
 try dsimp only
 k_steps
 refine Halt.mk ?_
 refine wpAny_mono (Q := fun fl s' => Halt (fl = .next ∧ ∃ h' tk r, s' = { s with heap := h', toks := tk } ∧ Fr s.heap L' h' (over [(oS "bestsize", .int bs' tb3), (oS "bestj", .int bj tb2), (oS "besti", .int bi tb1), (oS "j2len", .ref dj), (oS "nothing", .ref nl), (oS "isbjunk", .ref q1), (oS "b2j", .ref d2), (oS "b", .ref rb), (oS "a", .ref ra), (oS "bhi", .int bhi s3), (oS "blo", .int blo s2), (oS "ahi", .int ahi s1), (oS "alo", .int alo s0)] r) ∧ News s.heap L' h' [(q1, bm "set.__contains__" d4)])) ?w ?_ fun _ _ e => e
 case w =>
   refine While_inv2 (n₀ := 0) (fun _ m₁ news₁ => ∃ r, m₁ = over [(oS "bestsize", .int bs' tb3), (oS "bestj", .int bj tb2), (oS "besti", .int bi tb1), (oS "j2len", .ref dj), (oS "nothing", .ref nl), (oS "isbjunk", .ref q1), (oS "b2j", .ref d2), (oS "b", .ref rb), (oS "a", .ref ra), (oS "bhi", .int bhi s3), (oS "blo", .int blo s2), (oS "ahi", .int ahi s1), (oS "alo", .int alo s0)] r ∧ news₁ = [(q1, bm "set.__contains__" d4)]) F3 N3 ⟨_, rfl, rfl⟩ ?_
   clear F3 N3
   rintro n m₁ news₁ h3 tk3 F3 N3 ⟨r, rfl, rfl⟩
   k_steps
   all_goals first
     | exact Halt.mk ⟨rfl, _, _, _, rfl, by assumption, by assumption⟩
     | exact Halt.mk ⟨trivial, _, _, _, rfl, by assumption, by assumption⟩
     | exact bm_at (by assumption) (.head _)
     | exact absurd (by assumption) (hno1 (by omega) (by omega))
 clear F3 N3
 rintro fl s' ⟨rfl, h3, tk3, r, rfl, F3, N3⟩
 try dsimp only
 k_steps
 try (with_reducible refine Halt.mk ?_)
 refine wpAny_mono (Q := fun fl s' => Halt (fl = .next ∧ ∃ h' tk r, s' = { s with heap := h', toks := tk } ∧ Fr s.heap L' h' (over [(oS "bestsize", .int bs' tb3), (oS "bestj", .int bj tb2), (oS "besti", .int bi tb1), (oS "j2len", .ref dj), (oS "nothing", .ref nl), (oS "isbjunk", .ref q1), (oS "b2j", .ref d2), (oS "b", .ref rb), (oS "a", .ref ra), (oS "bhi", .int bhi s3), (oS "blo", .int blo s2), (oS "ahi", .int ahi s1), (oS "alo", .int alo s0)] r) ∧ News s.heap L' h' [(q1, bm "set.__contains__" d4)])) ?w2 ?_ fun _ _ e => e
 case w2 =>
   refine While_inv2 (n₀ := 0) (fun _ m₁ news₁ => ∃ r, m₁ = over [(oS "bestsize", .int bs' tb3), (oS "bestj", .int bj tb2), (oS "besti", .int bi tb1), (oS "j2len", .ref dj), (oS "nothing", .ref nl), (oS "isbjunk", .ref q1), (oS "b2j", .ref d2), (oS "b", .ref rb), (oS "a", .ref ra), (oS "bhi", .int bhi s3), (oS "blo", .int blo s2), (oS "ahi", .int ahi s1), (oS "alo", .int alo s0)] r ∧ news₁ = [(q1, bm "set.__contains__" d4)]) F3 N3 ⟨_, rfl, rfl⟩ ?_
   clear F3 N3
   rintro n m₁ news₁ h3 tk3 F3 N3 ⟨r, rfl, rfl⟩
   k_steps
   all_goals first
     | exact Halt.mk ⟨rfl, _, _, _, rfl, by assumption, by assumption⟩
     | exact Halt.mk ⟨trivial, _, _, _, rfl, by assumption, by assumption⟩
     | exact bm_at (by assumption) (.head _)
     | exact absurd (by assumption) (hno2 (by omega) (by omega))
 clear F3 N3
 rintro fl s' ⟨rfl, h3, tk3, r, rfl, F3, N3⟩
 try dsimp only
 k_steps
 try (with_reducible refine Halt.mk ?_)
 refine wpAny_mono (Q := fun fl s' => Halt (fl = .next ∧ ∃ h' tk r, s' = { s with heap := h', toks := tk } ∧ Fr s.heap L' h' (over [(oS "bestsize", .int bs' tb3), (oS "bestj", .int bj tb2), (oS "besti", .int bi tb1), (oS "j2len", .ref dj), (oS "nothing", .ref nl), (oS "isbjunk", .ref q1), (oS "b2j", .ref d2), (oS "b", .ref rb), (oS "a", .ref ra), (oS "bhi", .int bhi s3), (oS "blo", .int blo s2), (oS "ahi", .int ahi s1), (oS "alo", .int alo s0)] r) ∧ News s.heap L' h' [(q1, bm "set.__contains__" d4)])) ?w3 ?_ fun _ _ e => e
 case w3 =>
   refine While_inv2 (n₀ := 0) (fun _ m₁ news₁ => ∃ r, m₁ = over [(oS "bestsize", .int bs' tb3), (oS "bestj", .int bj tb2), (oS "besti", .int bi tb1), (oS "j2len", .ref dj), (oS "nothing", .ref nl), (oS "isbjunk", .ref q1), (oS "b2j", .ref d2), (oS "b", .ref rb), (oS "a", .ref ra), (oS "bhi", .int bhi s3), (oS "blo", .int blo s2), (oS "ahi", .int ahi s1), (oS "alo", .int alo s0)] r ∧ news₁ = [(q1, bm "set.__contains__" d4)]) F3 N3 ⟨_, rfl, rfl⟩ ?_
   clear F3 N3
   rintro n m₁ news₁ h3 tk3 F3 N3 ⟨r, rfl, rfl⟩
   k_steps
   all_goals first
     | exact Halt.mk ⟨rfl, _, _, _, rfl, by assumption, by assumption⟩
     | exact Halt.mk ⟨trivial, _, _, _, rfl, by assumption, by assumption⟩
     | exact bm_at (by assumption) (.head _)
 clear F3 N3
 rintro fl s' ⟨rfl, h3, tk3, r, rfl, F3, N3⟩
 try dsimp only
 k_steps
 try (with_reducible refine Halt.mk ?_)
 refine wpAny_mono (Q := fun fl s' => Halt (fl = .next ∧ ∃ h' tk r, s' = { s with heap := h', toks := tk } ∧ Fr s.heap L' h' (over [(oS "bestsize", .int bs' tb3), (oS "bestj", .int bj tb2), (oS "besti", .int bi tb1), (oS "j2len", .ref dj), (oS "nothing", .ref nl), (oS "isbjunk", .ref q1), (oS "b2j", .ref d2), (oS "b", .ref rb), (oS "a", .ref ra), (oS "bhi", .int bhi s3), (oS "blo", .int blo s2), (oS "ahi", .int ahi s1), (oS "alo", .int alo s0)] r) ∧ News s.heap L' h' [(q1, bm "set.__contains__" d4)])) ?w4 ?_ fun _ _ e => e
 case w4 =>
   refine While_inv2 (n₀ := 0) (fun _ m₁ news₁ => ∃ r, m₁ = over [(oS "bestsize", .int bs' tb3), (oS "bestj", .int bj tb2), (oS "besti", .int bi tb1), (oS "j2len", .ref dj), (oS "nothing", .ref nl), (oS "isbjunk", .ref q1), (oS "b2j", .ref d2), (oS "b", .ref rb), (oS "a", .ref ra), (oS "bhi", .int bhi s3), (oS "blo", .int blo s2), (oS "ahi", .int ahi s1), (oS "alo", .int alo s0)] r ∧ news₁ = [(q1, bm "set.__contains__" d4)]) F3 N3 ⟨_, rfl, rfl⟩ ?_
   clear F3 N3
   rintro n m₁ news₁ h3 tk3 F3 N3 ⟨r, rfl, rfl⟩
   k_steps
   all_goals first
     | exact Halt.mk ⟨rfl, _, _, _, rfl, by assumption, by assumption⟩
     | exact Halt.mk ⟨trivial, _, _, _, rfl, by assumption, by assumption⟩
     | exact bm_at (by assumption) (.head _)
 clear F3 N3
 rintro fl s' ⟨rfl, h3, tk3, r, rfl, F3, N3⟩
 try dsimp only
 k_steps
 try (with_reducible refine Halt.mk ?_)
 rename News s.heap L' _ _ => N9
 rename Fr s.heap L' _ _ => F9
 refine match_spec B' F9 X' T' rfl (by show un + 3 < 600; omega) (.int bi tb1) (.int bj tb2) (.int bs' tb3) ?_
 intro D dd h9 tk9 K9 D0 hD
 have F10 := F9.keeps K9
 have N10 := News.after F9 N9 K9 D0 hD
 clear F9 N9
 try dsimp only
 k_steps
 rename Fr h₀ L _ m => kF9
 exact ret D dd _ _ f bi bj bs' tb1 tb2 tb3 kF9 (fun b o e => F10.keep b o e) (N10 _ (.head _)).2.2 hD hfl
theorem fin : ∀ x, PP x := drink ⟨default⟩ PP (by with_unfolding_all exact sg5)
end K1_1
theorem fin : ∀ x, PP x := drink ⟨default⟩ PP (by with_unfolding_all exact sg1.2.2 (by intros; exact K1_0.fin (((((_, _), _), (_, _)), ((_, _), (_, _))), ((((_, _), _), (_, _)), ((_, _), (_, _))))) (by intros; exact K1_1.fin ((((_, _), _), ((_, _), _)), (((_, _), _), (_, _)))))
end K0_0
theorem main : Sflm_spec w loose mean mg mb un gd cn cs a ccd cl outer A₀ base h₀ L m s Q E sm dx ra rb d2 d4 d5 t0 t1 t2 t3 t4 t5 t6 t7 t8 t9 mbv opv nd na nb va vb xs bs o2 kvs led blo bhi s0 s1 s2 s3 := sg0.2 (by intros; exact K0_0.fin ((((_, _), _), (_, _)), ((_, _), (_, _))))
end Cflm_spec
theorem flm_spec (w : World) (loose : List Str) (mean : ExcName -> Option Value) (mg mb : Str -> Option Value) (un : Nat) (gd : Option (List Code)) (cn : Str) (cs : Scope) (a : Addr) (ccd : Value) (cl : List (Str × Addr)) (outer : List Env) (A₀ : Around) (base h₀ : Heap) (L : Addr) (m : Str -> Option Value) (s : Shared) (Q E : Value -> Shared -> Prop) (B : Below A₀ base outer h₀) (F : Fr h₀ L s.heap m) (X : (Mine.KR w.params).In h₀) (T : Top topProg loose mean mg mb h₀) (hk : cs.kind = .function) (sm dx ra rb d2 d4 d5 : Addr) (t0 t1 t2 t3 t4 t5 t6 t7 t8 t9 : Tok) (mbv opv : Value) (nd na nb : Nat) (va vb : List Value) (xs bs : List Int) (o2 : Obj) (kvs : List (Int × Value)) (led : Bool) (hsm : s.heap.get? sm = some (instObj 242 dx)) (hdx : s.heap.get? dx = some (smDict w.params t0 t1 t2 t3 t4 t5 t6 t7 t8 t9 ra rb d2 d4 d5 mbv opv nd)) (hra : s.heap.get? ra = some (lst va na)) (hrb : s.heap.get? rb = some (lst vb nb)) (hva : IntsAre va xs) (hvb : IntsAre vb bs) (hd2 : s.heap.get? d2 = some o2) (hkv : o2.IsDictOf (intKind PW w) kvs) (hd4 : s.heap.get? d4 = some (setO led)) (alo ahi blo bhi : Int) (s0 s1 s2 s3 : Tok) (b0 : 0 ≤ alo) (b1 : alo ≤ ahi) (b2 : ahi ≤ 2) (b3 : 0 ≤ blo) (b4 : blo ≤ bhi) (b5 : bhi ≤ 2) (hB : B2J s.heap kvs bs) (hlo2 : (d2 == sysModules) = false) (hxl : xs.length = 2) (hbl : bs.length = 2) (hres : ∀ f bi bj bs', flmOut (idxs bs) xs blo bhi alo (ahi - alo).toNat (fun _ => 0, alo, blo, 0) = (f, bi, bj, bs') -> 0 ≤ bi ∧ bi ≤ 2 ∧ 0 ≤ bj ∧ bj ≤ 2 ∧ 0 ≤ bs' ∧ (alo < bi -> blo < bj -> xs.getD (bi - 1).toNat 0 ≠ bs.getD (bj - 1).toNat 0) ∧ (bi + bs' < ahi -> bj + bs' < bhi -> xs.getD (bi + bs').toNat 0 ≠ bs.getD (bj + bs').toNat 0)) (hun : un < 480) (ret : ∀ D dd h' tk' f bi bj bs' u1 u2 u3, Fr h₀ L h' m -> Keeps s.heap h' -> s.heap.get? D = none -> h'.get? D = some (matchO [.int bi u1, .int bj u2, .int bs' u3] dd) -> flmOut (idxs bs) xs blo bhi alo (ahi - alo).toNat (fun _ => 0, alo, blo, 0) = (f, bi, bj, bs') -> Q (.ref D) { s with heap := h', toks := tk' }) :
 wpAny (model PW w) (ktrTop 306 un gd cn cs L a ccd cl outer) (call (.ref 196) [.ref sm, .int alo s0, .int ahi s1, .int blo s2, .int bhi s3]) Q E s :=
 drink nflm_spec Pflm_spec (by with_unfolding_all exact Cflm_spec.main) ((((((w, loose), (mean, mg)), ((mb, un), gd)), (((cn, cs), (a, ccd)), ((cl, outer), A₀))), ((((base, h₀), (L, m)), ((s, Q), E)), (((sm, dx), (ra, rb)), ((d2, d4), d5)))), (((((t0, t1), (t2, t3)), ((t4, t5), t6)), (((t7, t8), (t9, mbv)), ((opv, nd), na))), ((((nb, va), (vb, xs)), ((bs, o2), kvs)), (((led, blo), (bhi, s0)), ((s1, s2), s3))))) B F X T hk hsm hdx hra hrb hva hvb hd2 hkv hd4 alo ahi b0 b1 b2 b3 b4 b5 hB hlo2 hxl hbl hres hun ret
end
end Mine
end
noncomputable section
example : True := by w_top off; trivial
namespace Mine
open AutoSeq1 (wpAny_loadPart')
open MeetsSeq MeetsSeq2 MeetsSeq3 SeqRoads2 SeqAt
noncomputable abbrev lobj (xs : Array Value) (n : Nat) (dd : Option Addr) (sl : Array (Option Value)) : Obj := { cls := .type "list", dict := dd, data := .seq xs n, slots := sl }
def LtS (l b : Addr) (xs ys : Array Value) (n n2 : Nat) (dd dd2 : Option Addr) (sl sl2 : Array (Option Value)) (r : Bool) (_ : Around) (R : Result -> Shared -> Prop) (s : Shared) : Prop :=
 s.heap.get? l = some (lobj xs n dd sl) ∧ s.heap.get? b = some (lobj ys n2 dd2 sl2) ∧ R (.ok (.ret (.bool r))) s
section
variable {l b : Addr} {xs ys : Array Value} {n n2 : Nat} {dd dd2 : Option Addr} {sl sl2 : Array (Option Value)}
theorem lt_end {i : Nat} (hx : xs[i]? = none) (hs : xs.size = ys.size) :
   Meets (Builtin.«list.__eq__.loop» ⟨[.ref l, .ref b, rawInt i, rawInt 0], []⟩) (LtS l b xs ys n n2 dd dd2 sl sl2 false) := by
 intro prog w A R s h
 obtain ⟨hp, g, dr, tk, os⟩ := s; obtain ⟨hl, hb, h⟩ := h
 have hx' : xs[((i : Nat) : Int).toNat]? = none := by simpa using hx
 have hy' : ys[((i : Nat) : Int).toNat]? = none := by simp at hx ⊢; lia
 wp_walk using wpAny_loadPart' hl, wpAny_loadPart' hb
 rw [hx', hy']
 wp_walk using wpAny_loadPart' hl, wpAny_loadPart' hb
 show R (.ok (.ret (.bool (decide (xs.size < ys.size))))) _
 rw [hs]
 simpa using h
theorem lt_step {i : Nat} {v u : Int} {tv tu : Tok} {r : Bool} (hx : xs[i]? = some (.int v tv)) (hy : ys[i]? = some (.int u tu))
   (h1 : v = u -> Meets (Builtin.«list.__eq__.loop» ⟨[.ref l, .ref b, rawInt ((i + 1 : Nat) : Int), rawInt 0], []⟩) (LtS l b xs ys n n2 dd dd2 sl sl2 r)) (h2 : v ≠ u -> r = decide (v < u)) :
   Meets (Builtin.«list.__eq__.loop» ⟨[.ref l, .ref b, rawInt i, rawInt 0], []⟩) (LtS l b xs ys n n2 dd dd2 sl sl2 r) := by
 intro prog w A R s h
 obtain ⟨hp, g, dr, tk, os⟩ := s; obtain ⟨hl, hb, h⟩ := h
 have hx' : xs[((i : Nat) : Int).toNat]? = some (.int v tv) := by simpa using hx
 have hy' : ys[((i : Nat) : Int).toNat]? = some (.int u tu) := by simpa using hy
 have hc : ((i : Int) + 1) = ((i + 1 : Nat) : Int) := by push_cast; rfl
 wp_walk using wpAny_loadPart' hl, wpAny_loadPart' hb
 rw [hx', hy']
 refine wpAny_bind ((EqGives.int v u tv tu).at _ _ prog w _ _ ?_)
 by_cases e : v = u
 . rw [beq_iff_eq.mpr e]
   wp_walk
   rw [hc]
   exact ⟨plainId_quiet plain_eq_loop _, codeAny_builtin entry_eq_loop (by
     rw [Around.under_plainId plain_eq_loop _]
     exact h1 e prog w A R _ ⟨hl, hb, h⟩)⟩
 . rw [beq_eq_false_iff_ne.mpr e]
   wp_walk using wpAny_loadPart' hl, wpAny_loadPart' hb
   rw [hx', hy']
   have hr := h2 e
   subst hr
   refine wpAny_bind ?_
   show wpAny (model prog w) A.in1 (compareOp .Lt (.int v tv) (.int u tu)) _ _ _
   refine wpAny_lt_int ?_
   wp_walk
   exact h
theorem list_lt2 {x y c d : Int} {tx ty tc td : Tok} :
   Meets (Builtin.«list.__lt__» ⟨[.ref l, .ref b], []⟩) (LtS l b #[.int x tx, .int y ty] #[.int c tc, .int d td] n n2 dd dd2 sl sl2 (decide (x < c ∨ (x = c ∧ y < d)))) := by
 have main : Meets (Builtin.«list.__eq__.loop» ⟨[.ref l, .ref b, rawInt ((0 : Nat) : Int), rawInt 0], []⟩) (LtS l b #[.int x tx, .int y ty] #[.int c tc, .int d td] n n2 dd dd2 sl sl2 (decide (x < c ∨ (x = c ∧ y < d)))) := by
   refine lt_step (v := x) (u := c) rfl rfl (fun e => ?_) fun e => by simp [e]
   have e2 : decide (x < c ∨ (x = c ∧ y < d)) = decide (y < d) := by simp [e]
   rw [e2]
   refine lt_step (v := y) (u := d) rfl rfl (fun e => ?_) fun _ => rfl
   have e3 : decide (y < d) = false := by simp [e]
   rw [e3]
   exact lt_end rfl rfl
 intro prog w A R s h
 obtain ⟨hp, g, dr, tk, os⟩ := s; obtain ⟨hl, hb, h⟩ := h
 have f3 := AutoSeq1.sub_list_list
 wp_walk using wpAny_loadPart' hl, wpAny_loadPart' hb
 exact ⟨plainId_quiet plain_eq_loop _, codeAny_builtin entry_eq_loop (by
   rw [Around.under_plainId plain_eq_loop _]
   exact main prog w A R _ ⟨hl, hb, h⟩)⟩
end
section
variable {prog : Program} {w : World} {A : Around} {E : Value -> Shared -> Prop} {s : Shared}
theorem key_lt {l b : Addr} {x y c d : Int} {tx ty tc td : Tok} {n n2 : Nat} {Q : Bool -> Shared -> Prop} (hl : s.heap.get? l = some (lst [.int x tx, .int y ty] n)) (hb : s.heap.get? b = some (lst [.int c tc, .int d td] n2)) (hu : A.units < cLine)
   (h : Q (decide (x < c ∨ (x = c ∧ y < d))) s) : wpAny (model prog w) A (keyLt' oneType' (.ref l) (.ref b)) Q E s := by
 rw [keyLt'_oneType, oneLt'_eq]
 simp only [if_true]
 refine wpAny_bind (wpAny_cRoomFor hu ?_)
 refine wpAny_bind (wpAny_callSpecialIfBound?_slot ⟨_, hl, rfl⟩ PySem.F.slot_list_lt (call_meets PySem.F.slot_list_lt ⟨_, hl, rfl⟩ PySem.F.entry_list_lt (PySem.F.args_list_lt_2 _ _) list_lt2 ⟨hl, hb, ?_⟩))
 exact wpAny_truthy_bool h
end
end Mine
end
noncomputable section
example : True := by w_top off; trivial
namespace Mine
noncomputable def runT {α : Type} (n : Nat) (lt : Nat -> Nat -> Bool) : KasT α -> Option α
 | .ret a => some a
 | .ask i j k => if i < n ∧ j < n then runT n lt (k (lt i j)) else none
theorem kas_det {α : Type} {n : Nat} {lt : Nat -> Nat -> Bool} {cmp : Nat -> Nat -> (Bool -> Shared -> Prop) -> Shared -> Prop} {Q : α -> Shared -> Prop} {s : Shared} {a : α}
   (h : ∀ i j C, i < n -> j < n -> C (lt i j) s -> cmp i j C s) (hq : Q a s) : ∀ t : KasT α, runT n lt t = some a -> t.kasWp cmp Q s
 | .ret b, hr => by
   have : b = a := Option.some.inj hr
   rw [this]; exact hq
 | .ask i j k, hr => by
   unfold runT at hr
   by_cases c : i < n ∧ j < n
   . rw [if_pos c] at hr
     exact h i j _ c.1 c.2 (kas_det h hq (k (lt i j)) hr)
   . rw [if_neg c] at hr; cases hr
def KeyAt (h : Heap) (v : Value) (k : Int × Int) : Prop := ∃ p t u n, v = .ref p ∧ h.get? p = some (lst [.int k.1 t, .int k.2 u] n)
theorem KeyAt.keep {h h' : Heap} {v : Value} {k : Int × Int} (H : KeyAt h v k) (kk : Keeps h h') : KeyAt h' v k := Exists.imp (fun _ => Exists.imp fun _ => Exists.imp fun _ => Exists.imp fun _ => And.imp_right (kk _ _)) H
noncomputable def klt (kz : List (Int × Int)) (i j : Nat) : Bool := decide ((kz.getD i (0, 0)).1 < (kz.getD j (0, 0)).1 ∨ ((kz.getD i (0, 0)).1 = (kz.getD j (0, 0)).1 ∧ (kz.getD i (0, 0)).2 < (kz.getD j (0, 0)).2))
section
variable {prog : Program} {w : World} {A : Around} {E : Value -> Shared -> Prop} {s : Shared} {h₀ : Heap} {L : Addr} {m : Str -> Option Value} {news : List (Addr × Obj)} {vs : List Value} {kz : List (Int × Int)} {f : Value}
def KeyTurn (prog : Program) (w : World) (A : Around) (h₀ : Heap) (L : Addr) (m : Str -> Option Value) (s : Shared) (f : Value) (vs : List Value) (kz : List (Int × Int)) (news : List (Addr × Obj)) : Prop :=
 ∀ (i : Nat) (v : Value) (a b : Int) (kS : Addr) (ks : List Value) (e : Nat) (D : Addr) (e1 : Nat) (made : List (Addr × Obj)) (h : Heap) (tk : Nat), vs[i]? = some v -> kz[i]? = some (a, b) -> Fr h₀ L h m -> News h₀ L h ((kS, seqObj "list" (List.toArray ks) e) :: (D, seqObj "list" #[] e1) :: (news ++ made)) ->
   wpAny (model prog w) A (call f [v]) (fun k s' => Halt (∃ p t u n h' tk', k = .ref p ∧ s' = { s with heap := h', toks := tk' } ∧ Fr h₀ L h' m ∧ @Ne Nat p kS ∧ @Ne Nat p D ∧
     News h₀ L h' ((kS, seqObj "list" (List.toArray ks) e) :: (D, seqObj "list" #[] e1) :: (p, lst [.int a t, .int b u] n) :: (news ++ made)))) (fun _ _ => False) { s with heap := h, toks := tk }
theorem katKeys_J {kS D : Addr} {e1 : Nat} {Fin : List Value -> Nat -> Shared -> Prop} (hlen : kz.length = vs.length) (hDk : @Ne Nat D kS) (hnk : ∀ p ∈ news, p.1 ≠ kS) (turn : KeyTurn prog w A h₀ L m s f vs kz news)
   (fin : ∀ ks e made h tk, (∀ h, Has made h -> AllAt KeyAt h ks kz) -> (∀ p ∈ made, p.1 ≠ kS ∧ p.1 ≠ D) -> Fr h₀ L h m -> News h₀ L h ((kS, seqObj "list" (List.toArray ks) e) :: (D, seqObj "list" #[] e1) :: (news ++ made)) -> Fin ks e { s with heap := h, toks := tk }) :
   ∀ (r : List Value) (i : Nat) (ks : List Value) (e : Nat) (made : List (Addr × Obj)) (h : Heap) (tk : Nat), vs.drop i = r -> i ≤ vs.length -> (∀ h, Has made h -> AllAt KeyAt h ks (kz.take i)) -> (∀ p ∈ made, p.1 ≠ kS ∧ p.1 ≠ D) -> Fr h₀ L h m ->
     News h₀ L h ((kS, seqObj "list" (List.toArray ks) e) :: (D, seqObj "list" #[] e1) :: (news ++ made)) -> KatKeys prog w A h₀ L m kS f Fin r ks e { s with heap := h, toks := tk } := by
 intro r
 induction r with
 | nil =>
   intro i ks e made h tk hr hi hk hm F N
   have : i = vs.length := by
     have := congrArg List.length hr
     simp at this; lia
   rw [this, ← hlen, List.take_length] at hk
   exact fin ks e made h tk hk hm F N
 | cons v r ih =>
   intro i ks e made h tk hr hi hk hm F N
   have hlt : i < vs.length := by
     have := congrArg List.length hr
     simp at this; lia
   have hv : vs[i]? = some v := by
     have := congrArg (·[0]?) hr
     simpa using this
   have hr' : vs.drop (i + 1) = r := by
     have := congrArg List.tail hr
     simpa using this
   have hz : kz[i]? = some (kz[i]'(by lia)) := List.getElem?_eq_getElem _
   refine KatKeys.cons (wpAny_mono (turn i v _ _ kS ks e D e1 made h tk hv hz F N) (fun k s' h' => ?_) fun _ _ x => x)
   obtain ⟨p, t, u, n, h1, tk1, rfl, rfl, F1, hpk, hpD, N1⟩ := h'
   have N2 : News h₀ L h1 ((kS, seqObj "list" (List.toArray ks) e) :: (D, seqObj "list" #[] e1) :: (news ++ (p, lst [.int (kz[i]'(by lia)).1 t, .int (kz[i]'(by lia)).2 u] n) :: made)) :=
     List.forall_mem_cons.mpr ⟨N1 _ (.head _), List.forall_mem_cons.mpr ⟨N1 _ (.tail _ (.head _)), fun q hq => N1 q (.tail _ (.tail _ (List.perm_middle.mem_iff.mp hq)))⟩⟩
   have off : ∀ q ∈ (D, seqObj "list" #[] e1) :: (news ++ (p, lst [.int (kz[i]'(by lia)).1 t, .int (kz[i]'(by lia)).2 u] n) :: made), q.1 ≠ kS :=
     List.forall_mem_cons.mpr ⟨hDk, List.forall_mem_append.mpr ⟨hnk, List.forall_mem_cons.mpr ⟨hpk, fun q q1 => (hm q q1).1⟩⟩⟩
   refine KatBack.intro F1 N2 (.head off) fun h2 c F2 N3 => ?_
   refine ih (i + 1) _ c ((p, _) :: made) h2 tk1 hr' hlt (fun g hg => ?_) (fun q hq => ?_) F2 N3
   . have hz2 : kz.take (i + 1) = kz.take i ++ [kz[i]'(by lia)] := by rw [List.take_add_one, hz]; rfl
     rw [hz2]
     exact (hk g fun q hq => hg q (.tail _ hq)).push ⟨p, t, u, n, rfl, hg _ (.head _)⟩
   . exact (List.forall_mem_cons.mpr ⟨⟨hpk, hpD⟩, hm⟩) q hq
open SeqAt in
theorem sorted_pairs {l q : Addr} {p : Array Nat} {Q : Value -> Shared -> Prop} (F : Fr h₀ L s.heap m) (N : News h₀ L s.heap news) (hl : s.heap.IsList l vs.toArray) (h2 : 2 ≤ vs.length) (h64 : vs.length < 64) (hlen : kz.length = vs.length)
   (hu : A.in1.in1.units < cLine) (hrun : runT vs.length (klt kz) (kas_sort vs.length) = some p) (turn : KeyTurn prog w A.in1.in1 h₀ L m s (.ref q) vs kz news)
   (h : ∀ D h' c made tk, Fr h₀ L h' m -> News h₀ L h' ((D, lst (p.toList.map fun i => vs.getD i .none) c) :: (news ++ made)) -> (∀ x ∈ news, x.1 < D) -> Q (.ref D) { s with heap := h', toks := tk }) :
   wpAny (model prog w) A (call (.builtin "sorted") [.ref l] [(oS "key", .ref q)]) Q E s := by
 refine kat_sortedK (b := false) F N hl h2 h64 (ksk_s1 _ _) (fun x => ksk_l1 _ _) (fun x => ksk_t1 _ _) fun D kS e1 h' F' N' l0 l1 => ?_
 refine katKeys_J (made := []) (s := s) (kz := kz) hlen (Nat.ne_of_lt l0) (fun x hx => Nat.ne_of_lt (Nat.lt_trans (l1 x hx) l0)) turn ?_ vs 0 [] 0 h' s.toks rfl (Nat.zero_le _) (fun _ _ => AllAt.nil) (fun _ hx => by cases hx) F' (by simpa using N')
 intro ks e made h1 tk hk hm F1 N1
 have hkk := hk h1 fun x hx => (N1 x (.tail _ (.tail _ (List.mem_append_right _ hx)))).1
 have hkl : ks.length = vs.length := hkk.1.trans hlen
 refine kas_kind (by lia) (T := .type "list") (fun v hv => ?_) rfl rfl (kas_det (lt := klt kz) (n := vs.length) (fun i j C hi hj hC => ?_) ?_ _ hrun)
 . obtain ⟨i, hi, e⟩ := List.getElem_of_mem hv
   obtain ⟨a, t, u, n, rfl, g⟩ := hkk.2 i v _ (by rw [List.getElem?_eq_getElem hi, e]) (List.getElem?_eq_getElem (by lia))
   exact (Looks.ld g).andThen .now
 . obtain ⟨a, t, u, n, ea, ga⟩ := hkk.2 i _ _ (List.getElem?_eq_getElem (by lia)) (List.getElem?_eq_getElem (by lia : i < kz.length))
   obtain ⟨b, t', u', n', eb, gb⟩ := hkk.2 j _ _ (List.getElem?_eq_getElem (by lia)) (List.getElem?_eq_getElem (by lia : j < kz.length))
   have q1 : (katRev false ks).getD i .none = .ref a := by rw [← ea]; simp [katRev, List.getD, List.getElem?_eq_getElem (by lia : i < ks.length)]
   have q2 : (katRev false ks).getD j .none = .ref b := by rw [← eb]; simp [katRev, List.getD, List.getElem?_eq_getElem (by lia : j < ks.length)]
   show wpAny _ _ (keyLt' oneType' ((katRev false ks).getD i .none) ((katRev false ks).getD j .none)) C _ _
   rw [q1, q2]
   refine key_lt ga gb hu ?_
   have z : klt kz i j = decide (kz[i].1 < kz[j].1 ∨ (kz[i].1 = kz[j].1 ∧ kz[i].2 < kz[j].2)) := by
     simp [klt, List.getD, List.getElem?_eq_getElem (by lia : i < kz.length), List.getElem?_eq_getElem (by lia : j < kz.length)]
   rw [← z]; exact hC
 . refine KatFin.intro F1 N1 (.head fun x hx => ?_) fun h3 c F3 N3 => ?_
   . simp only [List.mem_cons, List.mem_append] at hx
     rcases hx with rfl | q1 | q1
     . exact Nat.ne_of_lt l0
     . exact Nat.ne_of_lt (Nat.lt_trans (l1 x q1) l0)
     . exact (hm x q1).1
   . have N4 : News h₀ L h3 ((D, seqObj "list" #[] e1) :: (news ++ made)) := fun x hx => N3 x (.tail _ hx)
     refine KasFin.intro F3 N4 (.head fun x hx => ?_) fun h4 c4 F4 N5 => h D h4 c4 made tk F4 N5 l1
     rcases List.mem_append.mp hx with q1 | q1
     . exact Nat.ne_of_lt (l1 x q1)
     . exact (hm x q1).2
end
end Mine
end
noncomputable section
example : True := by w_top off; trivial
namespace Mine
def Nn (d : Int) (u : Wd) : Prop := 0 ≤ u.1 ∧ 0 ≤ u.2.1 ∧ 0 ≤ u.2.2 ∧ u.1 + u.2.1 + u.2.2 = d
def Keys (i0 d0 i1 d1 : Int) : Prop := (0 ≤ i0 ∧ i0 < 3) ∧ (0 ≤ i1 ∧ i1 < 3) ∧ i0 ≠ i1 ∧ (d0 = 1 ∨ d0 = -1) ∧ (d1 = 1 ∨ d1 = -1)
def RuleOk (i0 d0 i1 d1 e : Int) (r : Rl) : Prop := Nn e r.1 ∧ Nn e r.2 ∧ 0 < cmpP i0 d0 i1 d1 r.1 r.2
noncomputable def mu (i0 d0 i1 d1 : Int) (u : Wd) : Nat := ((d0 * Wd.at u i0 + 4) * 16 + (d1 * Wd.at u i1 + 4)).toNat
variable {i0 d0 i1 d1 d e : Int} {u v : Wd} {r : Rl} {rs rs' : List Rl}
theorem at_cases {i : Int} (h : 0 ≤ i ∧ i < 3) (u : Wd) : (∀ v : Wd, Wd.at v i = v.1) ∨ (∀ v : Wd, Wd.at v i = v.2.1) ∨ (∀ v : Wd, Wd.at v i = v.2.2) := by
 have : i = 0 ∨ i = 1 ∨ i = 2 := by lia
 rcases this with rfl | rfl | rfl
 . exact .inl fun _ => rfl
 . exact .inr (.inl fun _ => rfl)
 . exact .inr (.inr fun _ => rfl)
theorem at_le {i : Int} (h : 0 ≤ i ∧ i < 3) (n : Nn d u) : 0 ≤ Wd.at u i ∧ Wd.at u i ≤ d := by
 obtain ⟨a, b, c, s⟩ := n
 rcases at_cases h u with k | k | k <;> rw [k] <;> constructor <;> omega
theorem at_swap {i : Int} (h : 0 ≤ i ∧ i < 3) (u a b : Wd) : Wd.at (Wd.swap u a b) i = Wd.at u i - Wd.at a i + Wd.at b i := by
 rcases at_cases h u with k | k | k <;> simp only [k, Wd.swap]
theorem nn_swap (n : Nn d u) (n1 : Nn e r.1) (n2 : Nn e r.2) (f : Fits u r.1) : Nn d (u.swap r.1 r.2) := by
 obtain ⟨a, b, c, s⟩ := n
 obtain ⟨a1, b1, c1, s1⟩ := n1
 obtain ⟨a2, b2, c2, s2⟩ := n2
 obtain ⟨f1, f2, f3⟩ := f
 refine ⟨?_, ?_, ?_, ?_⟩ <;> simp only [Wd.swap] <;> lia
theorem cmp_pos (K : Keys i0 d0 i1 d1) : 0 < cmpP i0 d0 i1 d1 u v ↔ (d0 * Wd.at v i0 < d0 * Wd.at u i0 ∨ (Wd.at u i0 = Wd.at v i0 ∧ d1 * Wd.at v i1 < d1 * Wd.at u i1)) := by
 obtain ⟨-, -, -, k0, k1⟩ := K
 unfold cmpP
 generalize Wd.at u i0 = p, Wd.at v i0 = p', Wd.at u i1 = q, Wd.at v i1 = q'
 rcases k0 with rfl | rfl <;> rcases k1 with rfl | rfl <;> (repeat' split) <;> lia
theorem cmp_anti : cmpP i0 d0 i1 d1 v u = -cmpP i0 d0 i1 d1 u v := by
 unfold cmpP
 generalize Wd.at u i0 = p, Wd.at v i0 = p', Wd.at u i1 = q, Wd.at v i1 = q'
 (repeat' split) <;> lia
theorem cmp_neg (K : Keys i0 d0 i1 d1) : cmpP i0 d0 i1 d1 u v < 0 ↔ 0 < cmpP i0 d0 i1 d1 v u := by
 rw [cmp_anti (u := u) (v := v)]
 generalize cmpP i0 d0 i1 d1 u v = x
 lia
theorem mu_core {x y x' y' : Int} (a : -3 ≤ x ∧ x ≤ 3) (b : -3 ≤ y ∧ y ≤ 3) (a' : -3 ≤ x' ∧ x' ≤ 3) (b' : -3 ≤ y' ∧ y' ≤ 3) :
   ((x' + 4) * 16 + (y' + 4)).toNat < ((x + 4) * 16 + (y + 4)).toNat ↔ x' < x ∨ x' = x ∧ y' < y := by lia
theorem sg_le {d x : Int} (k : d = 1 ∨ d = -1) (h : 0 ≤ x ∧ x ≤ 3) : -3 ≤ d * x ∧ d * x ≤ 3 := by rcases k with rfl | rfl <;> lia
theorem mu_step (K : Keys i0 d0 i1 d1) (hd : d ≤ 3) (n : Nn d u) (ok : RuleOk i0 d0 i1 d1 e r) (f : Fits u r.1) : Nn d (u.swap r.1 r.2) ∧ mu i0 d0 i1 d1 (u.swap r.1 r.2) < mu i0 d0 i1 d1 u := by
 obtain ⟨n1, n2, c⟩ := ok
 have ns := nn_swap n n1 n2 f
 refine ⟨ns, ?_⟩
 rw [cmp_pos K] at c
 obtain ⟨h0, h1, -, k0, k1⟩ := K
 have le : ∀ {w : Wd}, Nn d w -> ∀ {i : Int}, 0 ≤ i ∧ i < 3 -> 0 ≤ Wd.at w i ∧ Wd.at w i ≤ 3 := fun n i h => ⟨(at_le h n).1, Int.le_trans (at_le h n).2 hd⟩
 refine (mu_core (sg_le k0 (le n h0)) (sg_le k1 (le n h1)) (sg_le k0 (le ns h0)) (sg_le k1 (le ns h1))).mpr ?_
 rw [at_swap h0, at_swap h1, Int.mul_add, Int.mul_sub, Int.mul_add, Int.mul_sub]
 generalize d0 * Wd.at u i0 = p
 generalize d1 * Wd.at u i1 = q
 rcases c with c | ⟨c, c'⟩
 . exact .inl (by lia)
 . rw [c]; exact .inr (by lia)
theorem led_nn (ok : ∀ r ∈ rs, ∃ e, RuleOk i0 d0 i1 d1 e r) (n : Nn d u) (l : Led rs u v) : Nn d v := by
 induction l with
 | nil => exact n
 | step _ hr f ih =>
   obtain ⟨e, o⟩ := ok _ hr
   exact nn_swap ih o.1 o.2.1 f
def Learn (i0 d0 i1 d1 : Int) (rs : List Rl) (u1 u2 : Wd) (rs' : List Rl) : Prop :=
 ∃ v1 v2, Down rs u1 v1 ∧ Down rs u2 v2 ∧ rs' = (if 0 < cmpP i0 d0 i1 d1 v1 v2 then rs ++ [(v1, v2)] else if cmpP i0 d0 i1 d1 v1 v2 < 0 then rs ++ [(v2, v1)] else rs)
theorem learn_new {u1 u2 : Wd} (K : Keys i0 d0 i1 d1) (ok : ∀ r ∈ rs, ∃ e, RuleOk i0 d0 i1 d1 e r) (n1 : Nn d u1) (n2 : Nn d u2) (h : Learn i0 d0 i1 d1 rs u1 u2 rs') :
   rs' = rs ∨ ∃ r, rs' = rs ++ [r] ∧ RuleOk i0 d0 i1 d1 d r ∧ Done rs r.1 := by
 obtain ⟨v1, v2, h1, h2, rfl⟩ := h
 have m1 := led_nn ok n1 h1.1
 have m2 := led_nn ok n2 h2.1
 split
 . exact .inr ⟨_, rfl, ⟨m1, m2, by assumption⟩, h1.2⟩
 . split
   . rename_i c
     exact .inr ⟨_, rfl, ⟨m2, m1, (cmp_neg K).mp c⟩, h2.2⟩
   . exact .inl rfl
inductive LearnAll (i0 d0 i1 d1 : Int) : List (Wd × Wd) -> List Rl -> Prop
 | nil : LearnAll i0 d0 i1 d1 [] []
 | snoc {ts rs t rs'} : LearnAll i0 d0 i1 d1 ts rs -> Learn i0 d0 i1 d1 rs t.1 t.2 rs' -> LearnAll i0 d0 i1 d1 (ts ++ [t]) rs'
def Ok2 (i0 d0 i1 d1 : Int) (rs : List Rl) : Prop := (∀ r ∈ rs, RuleOk i0 d0 i1 d1 2 r) ∧ rs.Pairwise fun a b => a.1 ≠ b.1
theorem fits_self (u : Wd) : Fits u u := ⟨Int.le_refl _, Int.le_refl _, Int.le_refl _⟩
theorem Ok2.step {u1 u2 : Wd} (K : Keys i0 d0 i1 d1) (o : Ok2 i0 d0 i1 d1 rs) (n1 : Nn 2 u1) (n2 : Nn 2 u2) (h : Learn i0 d0 i1 d1 rs u1 u2 rs') : Ok2 i0 d0 i1 d1 rs' ∧ rs'.length ≤ rs.length + 1 := by
 rcases learn_new K (fun r hr => ⟨2, o.1 r hr⟩) n1 n2 h with rfl | ⟨r, rfl, ro, dn⟩
 . exact ⟨o, by lia⟩
 . refine ⟨⟨fun r' hr => ?_, ?_⟩, by simp⟩
   . rcases List.mem_append.mp hr with q | q
     . exact o.1 _ q
     . rw [List.mem_singleton.mp q]; exact ro
   . refine List.pairwise_append.mpr ⟨o.2, List.pairwise_singleton _ _, fun a ha b hb q => ?_⟩
     rw [List.mem_singleton.mp hb] at q
     exact dn a ha (q ▸ fits_self _)
end Mine
end
noncomputable section
example : True := by w_top off; trivial
namespace Mine
noncomputable def w16 : List Wd := rowsP 2 3 ++ rowsP 3 4
noncomputable def kf (i0 d0 i1 d1 : Int) (u : Wd) : Int × Int := (d0 * Wd.at u i0, d1 * Wd.at u i1)
noncomputable def okP (kz : List (Int × Int)) (p : Array Nat) : Bool :=
 p.size == 16 && p.toList.all (fun i => decide (i < 16)) && (List.range 16).all (fun i => p.toList.contains i) && (List.range 16).all fun a => (List.range a).all fun b => ! klt kz (p.getD a 0) (p.getD b 0)
noncomputable def sortK (i0 d0 i1 d1 : Int) : Option (Array Nat) := runT 16 (klt (w16.map (kf i0 d0 i1 d1))) (PySem.W.kas_sort 16)
noncomputable def chk (i0 d0 i1 d1 : Int) : Bool := match sortK i0 d0 i1 d1 with | some p => okP (w16.map (kf i0 d0 i1 d1)) p | none => false
theorem chk_all : ([0, 1, 2].all fun i0 => [0, 1, 2].all fun i1 => i0 == i1 || [1, -1].all fun d0 => [1, -1].all fun d1 => chk i0 d0 i1 d1) = true := by decide +kernel
theorem sort_ok {i0 d0 i1 d1 : Int} (K : Keys i0 d0 i1 d1) : ∃ p, sortK i0 d0 i1 d1 = some p ∧ okP (w16.map (kf i0 d0 i1 d1)) p = true := by
 have h := chk_all
 obtain ⟨⟨a, b⟩, ⟨c, d⟩, e, f, g⟩ := K
 have m3 : ∀ i : Int, 0 ≤ i -> i < 3 -> i ∈ ([0, 1, 2] : List Int) := fun i a b => by
   rw [List.mem_cons, List.mem_cons, List.mem_singleton]; lia
 have m2 : ∀ d : Int, d = 1 ∨ d = -1 -> d ∈ ([1, -1] : List Int) := fun d a => by
   rw [List.mem_cons, List.mem_singleton]; exact a
 have q := List.all_eq_true.mp (List.all_eq_true.mp h i0 (m3 i0 a b)) i1 (m3 i1 c d)
 rcases Bool.or_eq_true_iff.mp q with q | q
 . exact absurd (eq_of_beq q) e
 have q : chk i0 d0 i1 d1 = true := List.all_eq_true.mp (List.all_eq_true.mp q d0 (m2 d0 f)) d1 (m2 d1 g)
 unfold chk at q
 split at q
 . exact ⟨_, by assumption, q⟩
 . cases q
end Mine
namespace Mine
noncomputable def fstK (ks : List Int) (ps : List Nat) (k : Int) : Option Nat := ps.find? fun i => ks.getD i 0 == k
theorem fstK_snoc {ks : List Int} {ps : List Nat} {i : Nat} {k : Int} : fstK ks (ps ++ [i]) k = match fstK ks ps k with | some j => some j | none => if ks.getD i 0 = k then some i else none := by
 unfold fstK
 rw [List.find?_append]
 cases List.find? (fun i => ks.getD i 0 == k) ps with
 | some j => rfl
 | none =>
   by_cases h : ks.getD i 0 = k
   . simp [h]
   . simp [h]
theorem idx16 : ∀ i, i < 16 -> w16.idxOf (w16.getD i (0, 0, 0)) = i := by decide +kernel
noncomputable def leastP (ks : List Int) (ps : List Nat) : List Wd := (List.range 16).map fun j => w16.getD ((fstK ks ps (ks.getD j 0)).getD 0) (0, 0, 0)
theorem okP_lt {kz : List (Int × Int)} {p : Array Nat} (h : okP kz p = true) : ∀ i ∈ p.toList, i < 16 := by
 simp only [okP, Bool.and_eq_true] at h
 intro i hi
 have := List.all_eq_true.mp h.1.1.2 i hi
 simpa using this
theorem okP_mem {kz : List (Int × Int)} {p : Array Nat} (h : okP kz p = true) : ∀ i, i < 16 -> i ∈ p.toList := by
 simp only [okP, Bool.and_eq_true] at h
 intro i hi
 have := List.all_eq_true.mp h.1.2 i (List.mem_range.mpr hi)
 simpa using this
theorem okP_len {kz : List (Int × Int)} {p : Array Nat} (h : okP kz p = true) : p.toList.length = 16 := by
 simp only [okP, Bool.and_eq_true] at h
 simpa using h.1.1.1
theorem fstK_some {ks : List Int} {ps : List Nat} {j : Nat} (h : j ∈ ps) : ∃ i, fstK ks ps (ks.getD j 0) = some i ∧ i ∈ ps ∧ ks.getD i 0 = ks.getD j 0 := by
 unfold fstK
 cases q : List.find? (fun i => ks.getD i 0 == ks.getD j 0) ps with
 | none => exact absurd (List.find?_eq_none.mp q j h) (by simp)
 | some i => exact ⟨i, rfl, List.mem_of_find?_eq_some q, by simpa using List.find?_some q⟩
end Mine
end
noncomputable section
example : True := by w_top off; trivial
namespace Mine
noncomputable section
local macro_rules | `(tactic| omega) => `(tactic| walk_at "p")
local macro_rules | `(tactic| walk_at "getMethod ref") => `(tactic| (k_dflt (refine getMethod_list_of PySem.F.slot_list_count PySem.F.type_list_count (by is_list) (by exact nodict_of (by assumption) (by assumption)) ?_)))
local macro_rules | `(tactic| walk_at "call builtin:list.count") => `(tactic| (k_dflt (refine count_list_ints (by walk_at "l") (by assumption) ?_)))
section
variable (w : World) (loose : List Str) (mean : ExcName -> Option Value) (mg mb : Str -> Option Value) (dp un : Nat) (gd : Option (List Code)) (cn : Str) (cs : Scope) (a : Addr) (ccd : Value) (cl : List (Str × Addr)) (outer : List Env) (A₀ : Around) (base h₀ : Heap) (L : Addr) (m : Str -> Option Value) (s : Shared) (Q E : Value -> Shared -> Prop) (aw al : Addr) (x y z : Int) (vs us : List Value) (ys : List Int) (nl : Nat)
def Qwith_spec : Prop :=
 ∀ (hlo : s.heap.get? al = some (lst us nl)),
 ∀ (hl : s.heap.IsList al us.toArray),
 ∀ (hli : IntsAre us ys),
 ∀ (hdp : dp < 500),
 ∀ (hun : un < 500),
 ∀ (ret : ∀ D h' tk', Fr h₀ L h' m -> Keeps s.heap h' -> s.heap.get? D = none -> IsW h' D (x + ys.count 0) (y + ys.count 1) (z + ys.count 2) -> Q (.ref D) { s with heap := h', toks := tk' }),
 wpAny (model PW w) (ktrTop dp un gd cn cs L a ccd cl outer) (call (.ref 320) [.ref aw, .ref al]) Q E s
def Swith_spec : Prop :=
 ∀ (B : Below A₀ base outer h₀),
 ∀ (F : Fr h₀ L s.heap m),
 ∀ (X : (Mine.KR w.params).In h₀),
 ∀ (T : Top topProg loose mean mg mb h₀),
 ∀ (hk : cs.kind = .function),
 ∀ (hw : s.heap.IsList aw vs.toArray),
 ∀ (hwi : IntsAre vs [x, y, z]),
 Qwith_spec w dp un gd cn cs a ccd cl outer h₀ L m s Q E aw al x y z us ys nl
end
abbrev Twith_spec : Type := ((((World × (List Str)) × ((ExcName -> Option Value) × (Str -> Option Value))) × (((Str -> Option Value) × Nat) × (Nat × (Option (List Code))))) × (((Str × Scope) × (Addr × Value)) × (((List (Str × Addr)) × (List Env)) × (Around × Heap)))) × ((((Heap × Addr) × ((Str -> Option Value) × Shared)) × (((Value -> Shared -> Prop) × (Value -> Shared -> Prop)) × (Addr × Addr))) × (((Int × Int) × (Int × (List Value))) × (((List Value) × (List Int)) × Nat)))
def Pwith_spec (p : Twith_spec) : Prop := Swith_spec p.1.1.1.1.1 p.1.1.1.1.2 p.1.1.1.2.1 p.1.1.1.2.2 p.1.1.2.1.1 p.1.1.2.1.2 p.1.1.2.2.1 p.1.1.2.2.2 p.1.2.1.1.1 p.1.2.1.1.2 p.1.2.1.2.1 p.1.2.1.2.2 p.1.2.2.1.1 p.1.2.2.1.2 p.1.2.2.2.1 p.1.2.2.2.2 p.2.1.1.1.1 p.2.1.1.1.2 p.2.1.1.2.1 p.2.1.1.2.2 p.2.1.2.1.1 p.2.1.2.1.2 p.2.1.2.2.1 p.2.1.2.2.2 p.2.2.1.1.1 p.2.2.1.1.2 p.2.2.1.2.1 p.2.2.1.2.2 p.2.2.2.1.1 p.2.2.2.1.2 p.2.2.2.2
theorem nwith_spec : Nonempty Twith_spec := ⟨(((((Classical.choice neW, default), default), default), (default, (default, (callerA, default)))), (((default, (default, {})), default), default))⟩
namespace Cwith_spec
def pt := ep nwith_spec Pwith_spec
@[irreducible] def w := pt.1.1.1.1.1
@[irreducible] def loose := pt.1.1.1.1.2
@[irreducible] def mean := pt.1.1.1.2.1
@[irreducible] def mg := pt.1.1.1.2.2
@[irreducible] def mb := pt.1.1.2.1.1
@[irreducible] def dp := pt.1.1.2.1.2
@[irreducible] def un := pt.1.1.2.2.1
@[irreducible] def gd := pt.1.1.2.2.2
@[irreducible] def cn := pt.1.2.1.1.1
@[irreducible] def cs := pt.1.2.1.1.2
@[irreducible] def a := pt.1.2.1.2.1
@[irreducible] def ccd := pt.1.2.1.2.2
@[irreducible] def cl := pt.1.2.2.1.1
@[irreducible] def outer := pt.1.2.2.1.2
@[irreducible] def A₀ := pt.1.2.2.2.1
@[irreducible] def base := pt.1.2.2.2.2
@[irreducible] def h₀ := pt.2.1.1.1.1
@[irreducible] def L := pt.2.1.1.1.2
@[irreducible] def m := pt.2.1.1.2.1
@[irreducible] def s := pt.2.1.1.2.2
@[irreducible] def Q := pt.2.1.2.1.1
@[irreducible] def E := pt.2.1.2.1.2
@[irreducible] def aw := pt.2.1.2.2.1
@[irreducible] def al := pt.2.1.2.2.2
@[irreducible] def x := pt.2.2.1.1.1
@[irreducible] def y := pt.2.2.1.1.2
@[irreducible] def z := pt.2.2.1.2.1
@[irreducible] def vs := pt.2.2.1.2.2
@[irreducible] def us := pt.2.2.2.1.1
@[irreducible] def ys := pt.2.2.2.1.2
@[irreducible] def nl := pt.2.2.2.2
@[irreducible] def L' : Addr := s.heap.objs.size
theorem hLc : s.heap.objs.size = L' := by delta L'; rfl
theorem main : Swith_spec w loose mean mg mb dp un gd cn cs a ccd cl outer A₀ base h₀ L m s Q E aw al x y z vs us ys nl := by
 unfold Swith_spec Qwith_spec
 intro B F X T hk hw hwi hlo hl hli hdp hun ret
 refine wpAny_call ?_
 k_dflt (refine' enter_cellsC (L' := L') (hL := ?hL) ?k1 ?k2 ?k3 ?k5 ?kA ?kF ?kK ?k6 ?k7 ?k8 ?k9 ?kB ?kD ?_ ?c2 ?c3 ?c4; (case kA | kF => exact rfl); (case kK => assumption); (case k1 | k2 => k_asm); (case hL => exact hLc); (case k3 | k5 => k_asm); (case k6 | k7 => k_is); (case k8 => ktr_room); (case k9 => exact BindsTo.of_eq rfl); (case kB => exact rfl); (case kD => decide +kernel); (case c2 | c3 | c4 => exact rfl); intro h' tk' cells' F' N' Y' B' X' T'; k_cells Y'; (try dsimp only); (try k_fold))
 k_steps
 rename News s.heap _ _ _ => N9
 rename Fr s.heap _ _ _ => F9
 rename Fr h₀ L _ m => kF9
 rename IntsAre _ _ => hI9
 obtain ⟨u0, u1, u2, rfl⟩ := ints3 hI9
 have hD := N9 _ (.head _)
 exact ret _ _ _ kF9 (fun b o e => F9.keep b o e) hD.2.2 ⟨u0, u1, u2, _, hD.1⟩
end Cwith_spec
theorem with_spec : ∀ w loose mean mg mb dp un gd cn cs a ccd cl outer A₀ base h₀ L m s Q E (B : Below A₀ base outer h₀) (F : Fr h₀ L s.heap m) (X : (Mine.KR w.params).In h₀) (T : Top topProg loose mean mg mb h₀) (hk : cs.kind = .function) aw al x y z vs us ys (hw : s.heap.IsList aw vs.toArray) (hwi : IntsAre vs [x, y, z]) nl, Qwith_spec w dp un gd cn cs a ccd cl outer h₀ L m s Q E aw al x y z us ys nl :=
 fun w loose mean mg mb dp un gd cn cs a ccd cl outer A₀ base h₀ L m s Q E B F X T hk aw al x y z vs us ys hw hwi nl => drink nwith_spec Pwith_spec (by with_unfolding_all exact Cwith_spec.main) (((((w, loose), (mean, mg)), ((mb, dp), (un, gd))), (((cn, cs), (a, ccd)), ((cl, outer), (A₀, base)))), ((((h₀, L), (m, s)), ((Q, E), (aw, al))), (((x, y), (z, vs)), ((us, ys), nl)))) B F X T hk hw hwi
end
end Mine
end
noncomputable section
example : True := by w_top off; trivial
namespace Mine
section
variable {prog : Program} {w : World} {A : Around} {E : Value -> Shared -> Prop} {s : Shared} {t : Addr} {env : Env} {h₀ : Heap} {L : Addr} {m : Str -> Option Value} {news : List (Addr × Obj)} {a b : Value}
theorem unpack_l2 {Q : List Value -> Shared -> Prop} (hh : A.handled = none) (ht : s.heap.IsList t #[a, b]) (hQ : ∀ h', Heap.ExtBut s.heap.objs.size s.heap h' -> Q [a, b] { s with heap := h' }) :
   wpAny (model prog w) A (unpackItems (.ref t) 2 none) Q E s := by
 have hlt : t ≠ s.heap.objs.size := by obtain ⟨o, ho, _⟩ := ht; exact Nat.ne_of_lt (Heap.lt_size ho)
 unfold unpackItems
 refine wpAny_bind ?_
 unfold notIterableAtAll
 refine wpAny_bind (wpAny_specialOf ht.typeIs slot_list_iter.lookup ?_)
 refine wpAny_pure ?_
 simp only [Bool.false_eq_true, if_false]
 refine wpAny_bind (wpAny_holding (wpAny_pyIter_list ht ?_))
 have ht0 : (s.heap.push { cls := .type "list_iterator", data := .fields #[.ref t, .int 0 0] }).IsList t #[a, b] := ht.at fun o e => Heap.get?_push_of_some _ e
 refine wpAny_bind (wpAny_holding ?_)
 show wpAny _ _ (pyNext (.ref s.heap.objs.size) >>= _) _ _ _
 refine wpAny_bind (wpAny_pyNext_list_item (i := 0) (x := a) ⟨_, Heap.get?_push_size _ rfl, rfl, rfl⟩ ht0 rfl fun h₁ hit₁ hs₁ => ?_)
 have ht1 : h₁.IsList t #[a, b] := ht0.at fun o e => hs₁.extBut t o hlt e
 dsimp only
 refine wpAny_bind (wpAny_holding ?_)
 show wpAny _ _ (pyNext (.ref s.heap.objs.size) >>= _) _ _ _
 refine wpAny_bind (wpAny_pyNext_list_item (i := 1) (x := b) hit₁ ht1 rfl fun h₂ hit₂ hs₂ => ?_)
 have ht2 : h₂.IsList t #[a, b] := ht1.at fun o e => hs₂.extBut t o hlt e
 dsimp only
 refine wpAny_bind (wpAny_holding ?_)
 show wpAny _ _ (pure []) _ _ _
 refine wpAny_pure (wpAny_pure (wpAny_pure ?_))
 rw [if_neg (by simp)]
 refine wpAny_bind (wpAny_holding (wpAny_pyNext_list_end hh hit₂ ht2 rfl fun h₃ he₃ => ?_))
 simp only [Option.isSome_none, Bool.false_eq_true, if_false]
 exact wpAny_pure (hQ h₃ fun b o hb e => he₃ b o hb (hs₂.extBut b o hb (hs₁.extBut b o hb (Heap.get?_push_of_some _ e))))
theorem unpackL {elts : List Expr} {k} {pos : Pos} {Q : Unit -> Shared -> Prop} (F : Fr h₀ L s.heap m) (N : News h₀ L s.heap news) (ht : s.heap.IsList t #[a, b]) (hh : A.handled = none) (hn : (assignEach elts env).length = 2) (hstar : (assignEach elts env).findIdx? (·.1) = none)
   (h : ∀ h', Fr h₀ L h' m -> News h₀ L h' news -> wpAny (model prog w) A (assignInOrder ((assignEach elts env).map (·.2)) [a, b]) Q E { s with heap := h' }) :
   wpAny (model prog w) A (assign (.Tuple elts k pos) env (.ref t)) Q E s := by
 rw [arm_assign_Tuple]
 refine wpAny_bind (wpAny_standAt ?_)
 unfold unpack
 rw [hn, hstar]
 exact wpAny_bind (wpAny_holding (unpack_l2 hh ht fun h' he => h h' (F.extBut he (Nat.le_refl _)) (N.extBut he (Nat.le_refl _))))
end
end Mine
end
noncomputable section
example : True := by w_top off; trivial
namespace Mine
def Pat (x y u v : Int) (l0 l1 : List Int) : Prop :=
 (FlmIs [x, y] [u, v] 0 2 0 2 0 0 0 ∧ l0 = [x, y] ∧ l1 = [u, v]) ∨
 (FlmIs [x, y] [u, v] 0 2 0 2 0 0 1 ∧ FlmIs [x, y] [u, v] 1 2 1 2 1 1 0 ∧ l0 = [y] ∧ l1 = [v]) ∨
 (FlmIs [x, y] [u, v] 0 2 0 2 1 0 1 ∧ l0 = [x] ∧ l1 = [v]) ∨
 (FlmIs [x, y] [u, v] 0 2 0 2 1 1 1 ∧ FlmIs [x, y] [u, v] 0 1 0 1 0 0 0 ∧ l0 = [x] ∧ l1 = [u]) ∨
 (FlmIs [x, y] [u, v] 0 2 0 2 0 1 1 ∧ l0 = [y] ∧ l1 = [u])
noncomputable def hit (p c : Int) : Int := if p = c then 1 else 0
def RestsOk (a b : Int × Int × Int) (l0 l1 : List Int) : Prop :=
 (l0.length = 2 ∧ l1.length = 2 ∧ (a.1 = 0 ∨ b.1 = 0) ∧ (a.2.1 = 0 ∨ b.2.1 = 0) ∧ (a.2.2 = 0 ∨ b.2.2 = 0)) ∨ ∃ p q, l0 = [p] ∧ l1 = [q] ∧ (p = 0 ∨ p = 1 ∨ p = 2) ∧ (q = 0 ∨ q = 1 ∨ q = 2) ∧
   a.1 + hit q 0 = b.1 + hit p 0 ∧ a.2.1 + hit q 1 = b.2.1 + hit p 1 ∧ a.2.2 + hit q 2 = b.2.2 + hit p 2
theorem flmIs_of {xs bs : List Int} {alo ahi blo bhi bi bj k : Int} (e : (flmOut (idxs bs) xs blo bhi alo (ahi - alo).toNat (fun _ => 0, alo, blo, 0)).2 = (bi, bj, k))
   (h : 0 ≤ bi ∧ bi ≤ 2 ∧ 0 ≤ bj ∧ bj ≤ 2 ∧ 0 ≤ k ∧ (alo < bi -> blo < bj -> xs.getD (bi - 1).toNat 0 ≠ bs.getD (bj - 1).toNat 0) ∧ (bi + k < ahi -> bj + k < bhi -> xs.getD (bi + k).toNat 0 ≠ bs.getD (bj + k).toNat 0)) :
   FlmIs xs bs alo ahi blo bhi bi bj k := fun f a b c e' => by
 rw [e'] at e
 cases e
 exact ⟨rfl, rfl, rfl, h⟩
noncomputable def rowOf (x0 x1 x2 : Int) : List Int := List.replicate x0.toNat 0 ++ List.replicate x1.toNat 1 ++ List.replicate x2.toNat 2
noncomputable def chkF (xs bs : List Int) (alo ahi blo bhi bi bj k : Int) : Bool :=
 decide ((flmOut (idxs bs) xs blo bhi alo (ahi - alo).toNat (fun _ => 0, alo, blo, 0)).2 = (bi, bj, k)) && decide (0 ≤ bi ∧ bi ≤ 2 ∧ 0 ≤ bj ∧ bj ≤ 2 ∧ 0 ≤ k ∧ (alo < bi -> blo < bj -> xs.getD (bi - 1).toNat 0 ≠ bs.getD (bj - 1).toNat 0) ∧ (bi + k < ahi -> bj + k < bhi -> xs.getD (bi + k).toNat 0 ≠ bs.getD (bj + k).toNat 0))
theorem chkF_is {xs bs : List Int} {alo ahi blo bhi bi bj k : Int} (h : chkF xs bs alo ahi blo bhi bi bj k = true) : FlmIs xs bs alo ahi blo bhi bi bj k := by
 simp only [chkF, Bool.and_eq_true, decide_eq_true_eq] at h
 exact flmIs_of h.1 h.2
noncomputable def restB (a b : Int × Int × Int) (p q : Int) : Bool := decide ((p = 0 ∨ p = 1 ∨ p = 2) ∧ (q = 0 ∨ q = 1 ∨ q = 2) ∧ a.1 + hit q 0 = b.1 + hit p 0 ∧ a.2.1 + hit q 1 = b.2.1 + hit p 1 ∧ a.2.2 + hit q 2 = b.2.2 + hit p 2)
theorem restB_is {a b : Int × Int × Int} {p q : Int} (h : restB a b p q = true) : RestsOk a b [p] [q] := .inr ⟨p, q, rfl, rfl, of_decide_eq_true h⟩
noncomputable def patB (a b : Int × Int × Int) (x y u v : Int) : Bool :=
 (chkF [x, y] [u, v] 0 2 0 2 0 0 0 && decide ((a.1 = 0 ∨ b.1 = 0) ∧ (a.2.1 = 0 ∨ b.2.1 = 0) ∧ (a.2.2 = 0 ∨ b.2.2 = 0))) ||
 (chkF [x, y] [u, v] 0 2 0 2 0 0 1 && chkF [x, y] [u, v] 1 2 1 2 1 1 0 && restB a b y v) ||
 (chkF [x, y] [u, v] 0 2 0 2 1 0 1 && restB a b x v) ||
 (chkF [x, y] [u, v] 0 2 0 2 1 1 1 && chkF [x, y] [u, v] 0 1 0 1 0 0 0 && restB a b x u) ||
 (chkF [x, y] [u, v] 0 2 0 2 0 1 1 && restB a b y u)
theorem patB_is {a b : Int × Int × Int} {x y u v : Int} (h : patB a b x y u v = true) : ∃ l0 l1, Pat x y u v l0 l1 ∧ RestsOk a b l0 l1 := by
 simp only [patB, Bool.or_eq_true, Bool.and_eq_true] at h
 rcases h with ((((⟨c, d⟩ | ⟨⟨c, c2⟩, d⟩) | ⟨c, d⟩) | ⟨⟨c, c2⟩, d⟩) | ⟨c, d⟩)
 . exact ⟨_, _, .inl ⟨chkF_is c, rfl, rfl⟩, .inl ⟨rfl, rfl, of_decide_eq_true d⟩⟩
 . exact ⟨_, _, .inr (.inl ⟨chkF_is c, chkF_is c2, rfl, rfl⟩), restB_is d⟩
 . exact ⟨_, _, .inr (.inr (.inl ⟨chkF_is c, rfl, rfl⟩)), restB_is d⟩
 . exact ⟨_, _, .inr (.inr (.inr (.inl ⟨chkF_is c, chkF_is c2, rfl, rfl⟩))), restB_is d⟩
 . exact ⟨_, _, .inr (.inr (.inr (.inr ⟨chkF_is c, rfl, rfl⟩))), restB_is d⟩
noncomputable def sixes : List (Int × Int × Int) := [(2, 0, 0), (1, 1, 0), (1, 0, 1), (0, 2, 0), (0, 1, 1), (0, 0, 2)]
noncomputable def rowW (a : Int × Int × Int) : List Int := rowOf a.1 a.2.1 a.2.2
theorem pat_all : (sixes.all fun a => sixes.all fun b => decide (a = b) || patB a b ((rowW a).getD 0 0) ((rowW a).getD 1 0) ((rowW b).getD 0 0) ((rowW b).getD 1 0)) = true := by decide +kernel
theorem six_mem {x y z : Int} (a : 0 ≤ x) (b : 0 ≤ y) (c : 0 ≤ z) (s : x + y + z = 2) : (x, y, z) ∈ sixes := by
 have k : ∀ x ∈ ([0, 1, 2] : List Int), ∀ y ∈ ([0, 1, 2] : List Int), x + y ≤ 2 -> (x, y, 2 - x - y) ∈ sixes := by decide +kernel
 have m : ∀ i : Int, 0 ≤ i -> i ≤ 2 -> i ∈ ([0, 1, 2] : List Int) := fun i a b => by
   rw [List.mem_cons, List.mem_cons, List.mem_singleton]; lia
 obtain rfl : z = 2 - x - y := by lia
 exact k x (m x a (by lia)) y (m y b (by lia)) (by lia)
theorem pats {x0 x1 x2 y0 y1 y2 x y u v : Int} (a0 : 0 ≤ x0) (a1 : 0 ≤ x1) (a2 : 0 ≤ x2) (as : x0 + x1 + x2 = 2) (b0 : 0 ≤ y0) (b1 : 0 ≤ y1) (b2 : 0 ≤ y2) (bs : y0 + y1 + y2 = 2)
   (ne : ¬ (x0 = y0 ∧ x1 = y1 ∧ x2 = y2)) (e1 : rowOf x0 x1 x2 = [x, y]) (e2 : rowOf y0 y1 y2 = [u, v]) : ∃ l0 l1, Pat x y u v l0 l1 ∧ RestsOk (x0, x1, x2) (y0, y1, y2) l0 l1 := by
 have h := List.all_eq_true.mp (List.all_eq_true.mp pat_all _ (six_mem a0 a1 a2 as)) _ (six_mem b0 b1 b2 bs)
 have n : ¬ (x0, x1, x2) = (y0, y1, y2) := fun e => ne (by simpa only [Prod.mk.injEq] using e)
 simp only [decide_eq_false n, Bool.false_or, rowW, e1, e2] at h
 exact patB_is h
end Mine
end
noncomputable section
example : True := by w_top off; trivial
namespace Mine
noncomputable def ipr (k j : Nat) : List (Nat × Nat) := (List.range j).map fun m => (k, m)
noncomputable def ips (n : Nat) : List (Nat × Nat) := (List.range n).flatMap fun k => ipr k k
theorem ipr_succ (k j : Nat) : ipr k (j + 1) = ipr k j ++ [(k, j)] := by simp [ipr, List.range_succ]
theorem ips_succ (n : Nat) : ips (n + 1) = ips n ++ ipr n n := by simp [ips, List.range_succ]
theorem ips_mem {n k m : Nat} (h : (k, m) ∈ ips n) : m < k ∧ k < n := by
 simp only [ips, ipr, List.mem_flatMap, List.mem_map, List.mem_range, Prod.mk.injEq] at h
 obtain ⟨a, ha, b, hb, rfl, rfl⟩ := h
 exact ⟨hb, ha⟩
theorem ips_len {n : Nat} (h : n ≤ 3) : (ips n).length ≤ 3 := by
 have : n = 0 ∨ n = 1 ∨ n = 2 ∨ n = 3 := by lia
 rcases this with rfl | rfl | rfl | rfl <;> decide
noncomputable def wth (u : Wd) (ys : List Int) : Wd := (u.1 + ys.count 0, u.2.1 + ys.count 1, u.2.2 + ys.count 2)
def PairStep (i0 d0 i1 d1 : Int) (rs : List Rl) (a b : Rl) (rs' : List Rl) : Prop :=
 ∃ l0 l1, RestsOk a.1 b.1 l0 l1 ∧ ((l0.length = 1 ∧ l1.length = 1 ∧ Learn i0 d0 i1 d1 rs (wth a.2 l1) (wth b.2 l0) rs') ∨ (l0.length = 2 ∧ l1.length = 2 ∧ rs' = rs))
inductive PairsAll (i0 d0 i1 d1 : Int) (rs0 : List Rl) : List (Nat × Nat) -> List Rl -> Prop
 | nil : PairsAll i0 d0 i1 d1 rs0 [] rs0
 | snoc {ps rs k m a b rs'} : PairsAll i0 d0 i1 d1 rs0 ps rs -> rs0[k]? = some a -> rs0[m]? = some b -> PairStep i0 d0 i1 d1 rs a b rs' -> PairsAll i0 d0 i1 d1 rs0 (ps ++ [(k, m)]) rs'
def OkR (i0 d0 i1 d1 : Int) (rs : List Rl) : Prop := ∀ r ∈ rs, ∃ e, RuleOk i0 d0 i1 d1 e r
def RulesP (i0 d0 i1 d1 : Int) (ties : List (Wd × Wd)) (rs : List Rl) : Prop :=
 ∃ rs0, LearnAll i0 d0 i1 d1 ties rs0 ∧ Ok2 i0 d0 i1 d1 rs0 ∧ PairsAll i0 d0 i1 d1 rs0 (ips rs0.length) rs
variable {i0 d0 i1 d1 d e : Int} {u v : Wd} {r : Rl} {rs rs' : List Rl}
theorem count1 (p q : Int) : (([p] : List Int).count q : Int) = hit p q := by
 by_cases h : p = q <;> simp [hit, h, List.count_cons]
theorem nn_wth1 {q : Int} (n : Nn 2 u) (hq : q = 0 ∨ q = 1 ∨ q = 2) : Nn 3 (wth u [q]) := by
 obtain ⟨a, b, c, s⟩ := n
 unfold wth
 rw [count1, count1, count1]
 rcases hq with rfl | rfl | rfl <;> simp [hit, Nn] <;> lia
theorem Ok2.okR (h : Ok2 i0 d0 i1 d1 rs) : OkR i0 d0 i1 d1 rs := fun r hr => ⟨2, h.1 r hr⟩
theorem OkR.step {u1 u2 : Wd} (K : Keys i0 d0 i1 d1) (o : OkR i0 d0 i1 d1 rs) (n1 : Nn d u1) (n2 : Nn d u2) (h : Learn i0 d0 i1 d1 rs u1 u2 rs') : OkR i0 d0 i1 d1 rs' ∧ rs'.length ≤ rs.length + 1 := by
 rcases learn_new K o n1 n2 h with rfl | ⟨r, rfl, ro, dn⟩
 . exact ⟨o, by lia⟩
 . refine ⟨fun r' hr => ?_, by simp⟩
   rcases List.mem_append.mp hr with q | q
   . exact o _ q
   . rw [List.mem_singleton.mp q]; exact ⟨d, ro⟩
end Mine
end
noncomputable section
example : True := by w_top off; trivial
namespace Mine
noncomputable def relab (h t : Int) (ks : List Int) : List Int := ks.map fun k => if k = t then h else k
noncomputable def kstep (ws : List Wd) (t : Wd × Wd) (ks : List Int) (more : List Int) : List Int := relab (ks.getD (ws.idxOf (wth t.1 more)) 0) (ks.getD (ws.idxOf (wth t.2 more)) 0) ks
noncomputable def mores : List (List Int) := [[], [0], [1], [2]]
noncomputable def ktie (ws : List Wd) (ks : List Int) (t : Wd × Wd) : List Int := mores.foldl (kstep ws t) ks
noncomputable def kindsP (ws : List Wd) (ties : List (Wd × Wd)) : List Int := ties.foldl (ktie ws) ((List.range ws.length).map fun n : Nat => (n : Int))
theorem relab_length {h t : Int} {ks : List Int} : (relab h t ks).length = ks.length := by simp [relab]
theorem kstep_length {ws : List Wd} {t : Wd × Wd} {ks : List Int} {more : List Int} : (kstep ws t ks more).length = ks.length := by simp [kstep, relab]
theorem fold_take {α β : Type} (f : β -> α -> β) (b : β) (l : List α) {n : Nat} {x : α} (h : l[n]? = some x) : (l.take (n + 1)).foldl f b = f ((l.take n).foldl f b) x := by
 rw [List.take_add_one, h]; simp
end Mine
end
noncomputable section
example : True := by w_top off; trivial
namespace Mine
noncomputable section
local macro_rules | `(tactic| omega) => `(tactic| walk_at "p")
local macro_rules | `(tactic| walk_at "exec While Compare cons nil") => `(tactic| ((with_reducible show wpAny _ _ (exec (Stmt.While _ _ _ _) _) _ _ _); refine Halt.go ?_))
local macro_rules | `(tactic| walk_at "WhileStep2") => `(tactic| (refine Halt.go ?_))
local macro_rules | `(tactic| walk_at "subscriptTail Name Name ref int") => `(tactic| (with_unfolding_all refine itN (by walk_at "l") (by assumption) (by omega) ?_))
local macro_rules | `(tactic| walk_at "call builtin:len") => `(tactic| (k_dflt (refine len_lst (by walk_at "l") (by omega) ?_)))
local macro_rules | `(tactic| walk_at "assign Tuple") => `(tactic| (k_here; k_dflt (refine unpackN_ (by k_asm) (by k_asm) (by exact tup_of (by assumption) (by assumption)) (by exact rfl) (by exact rfl) (by exact rfl) ?_); intro h' F' N'; (try k_sweep)))
theorem haltCell {M : Model} {A : Around} {E : Value -> Shared -> Prop} {s : Shared} {x : Str} {v : Value} {name : Str} {scope : Scope} {L a : Addr} {cd : Value} {Q : Unit -> Shared -> Prop} (_ : (envOfC name scope L a cd).kindOf x = some .cell)
   (h : Halt (wpAny M A (storeName (envOfC name scope L a cd) x v) Q E s)) : wpAny M A (storeName (envOfC name scope L a cd) x v) Q E s := Halt.go h
def WordAt (g : Heap) (L' : Addr) (tl : List (Addr × Obj)) (a' : Addr) (ws : List Value) (nw : Nat) : Prop := ∀ h m, Fr g L' h m -> News g L' h tl -> h.get? a' = some (lst ws nw)
theorem wordL {g h : Heap} {L' a' : Addr} {tl l : List (Addr × Obj)} {ws : List Value} {nw : Nat} {m : Str -> Option Value} (H : WordAt g L' tl a' ws nw) (F : Fr g L' h m) (N : News g L' h l) (t : ∀ p ∈ tl, p ∈ l) : h.IsList a' ws.toArray := isl0 (H h m F fun p hp => N p (t p hp))
theorem sub_up {α : Type} {a : α} {t l : List α} (h : ∀ p ∈ t, p ∈ l) : ∀ p ∈ t, p ∈ a :: l := fun p hp => .tail _ (h p hp)
def Tl3 (L' : Addr) (tl : List (Addr × Obj)) : Prop := ApartOr (L' + 1) tl ∧ ApartOr (L' + 1 + 1) tl ∧ ApartOr (L' + 1 + 1 + 1) tl
def downJ (g : Heap) (aw L' ar : Addr) (vs : List Value) (rs : List Rl) (P : Wd -> Prop) (μ : Wd -> Nat) (u₀ : Wd) (n : Nat) (m₁ : Str -> Option Value) (news₁ : List (Addr × Obj)) : Prop :=
 ∃ (u : Wd) (k : Nat) (tk : Tok) (a' : Addr) (o1 o2 o3 : Obj) (v1 v2 : Option Value) (tl : List (Addr × Obj)) (ws : List Value) (nw : Nat), o1.data = .cell v1 ∧ o2.data = .cell v2 ∧ o3.data = .cell (some (.ref a'))
   ∧ m₁ = (fun y => if y = oS "k" then some (.int (k : Int) tk) else if y = oS "rules" then some (.ref ar) else none)
   ∧ WordAt g L' tl a' ws nw ∧ (a' = aw ∨ g.get? a' = none) ∧ IntsAre ws [u.1, u.2.1, u.2.2] ∧ Tl3 L' tl ∧ news₁ = (L' + 1 + 1 + 1, o1) :: (L' + 1 + 1, o2) :: (L' + 1, o3) :: tl
   ∧ k ≤ vs.length ∧ n = μ u * (vs.length + 1) + (vs.length - k) ∧ P u ∧ Led rs u₀ u ∧ ∀ j r, j < k -> rs[j]? = some r -> ¬ Fits u r.1
theorem two_k {v w : Option Value} {m : Str -> Option Value} : (fun y => if y = oS "k" then v else if y = oS "k" then w else m y) = fun y => if y = oS "k" then v else m y := by
 funext y
 by_cases h : y = oS "k" <;> simp [h]
theorem ap1 {c D : Addr} {ys : List Value} {o : Obj} (e : o = LCg.lst ys) : ApartOr c [(D, o)] := ⟨.inr (fun v h => by rw [e] at h; cases h), trivial⟩
theorem down_hit {g h : Heap} {aw L' ar D : Addr} {vs ys : List Value} {rs : List Rl} {P : Wd -> Prop} {μ : Wd -> Nat} {u₀ u : Wd} {k : Nat} {r : Rl} {s : Shared} {tk : Nat} {Q : Flow -> Shared -> Prop} {o1 o2 o3 : Obj} {v1 v2 : Option Value} {tt : Tok} {news : List (Addr × Obj)}
   (hP : ∀ u r, P u -> r ∈ rs -> Fits u r.1 -> P (u.swap r.1 r.2) ∧ μ (u.swap r.1 r.2) < μ u) (e2 : rs[k]? = some r) (hPu : P u) (hled : Led rs u₀ u)
   (hf : Fits u r.1) (hys : IntsAre ys [u.1 - r.1.1 + r.2.1, u.2.1 - r.1.2.1 + r.2.2.1, u.2.2 - r.1.2.2 + r.2.2.2])
   (d1 : o1.data = .cell v1) (d2 : o2.data = .cell v2) (d3 : o3.data = .cell (some (.ref D)))
   (F : Fr g L' h (fun y => if y = oS "k" then some (.int 0 tt) else if y = oS "rules" then some (.ref ar) else none))
   (N : News g L' h news) (hs : [(L' + 1 + 1 + 1, o1), (L' + 1 + 1, o2), (L' + 1, o3), (D, LCg.lst ys)] ⊆ news) :
   WhileStep2 g L' s (downJ g aw L' ar vs rs P μ u₀) Q (μ u * (vs.length + 1) + (vs.length - k)) .next { s with heap := h, toks := tk } := by
 have hr : r ∈ rs := List.mem_of_getElem? e2
 obtain ⟨p1, p2⟩ := hP u r hPu hr hf
 refine ⟨h, tk, _, _, _, rfl, F, fun q hq => N q (hs hq), ?_, u.swap r.1 r.2, 0, tt, D, o1, o2, o3, v1, v2, [(D, LCg.lst ys)], ys, _, d1, d2, d3, rfl, (fun h m F N => (N _ (.head _)).1), .inr (N _ (hs (.tail _ (.tail _ (.tail _ (.head _)))))).2.2, hys, ⟨ap1 rfl, ap1 rfl, ap1 rfl⟩, rfl, Nat.zero_le _, rfl, p1, .step hled hr hf, fun j r h => absurd h (Nat.not_lt_zero _)⟩
 have : (μ (u.swap r.1 r.2) + 1) * (vs.length + 1) ≤ μ u * (vs.length + 1) := Nat.mul_le_mul_right _ p2
 rw [Nat.add_mul, Nat.one_mul] at this
 omega
theorem down_miss {g h : Heap} {aw L' ar a' : Addr} {vs ws : List Value} {rs : List Rl} {P : Wd -> Prop} {μ : Wd -> Nat} {u₀ u : Wd} {k nw : Nat} {r : Rl} {s : Shared} {tk : Nat} {Q : Flow -> Shared -> Prop} {o1 o2 o3 : Obj} {v1 v2 : Option Value} {tt : Tok} {tl : List (Addr × Obj)}
   (hlt : k < vs.length) (e2 : rs[k]? = some r) (hPu : P u) (hled : Led rs u₀ u) (hno : ∀ j r, j < k -> rs[j]? = some r -> ¬ Fits u r.1)
   (hf : ¬ Fits u r.1)
   (d1 : o1.data = .cell v1) (d2 : o2.data = .cell v2) (d3 : o3.data = .cell (some (.ref a')))
   (hw : WordAt g L' tl a' ws nw) (hD : a' = aw ∨ g.get? a' = none) (hi : IntsAre ws [u.1, u.2.1, u.2.2]) (h3 : Tl3 L' tl)
   (F : Fr g L' h (fun y => if y = oS "k" then some (.int ((k : Int) + 1) tt) else if y = oS "rules" then some (.ref ar) else none))
   (N : News g L' h ((L' + 1 + 1 + 1, o1) :: (L' + 1 + 1, o2) :: (L' + 1, o3) :: tl)) :
   WhileStep2 g L' s (downJ g aw L' ar vs rs P μ u₀) Q (μ u * (vs.length + 1) + (vs.length - k)) .next { s with heap := h, toks := tk } := by
 refine ⟨h, tk, _, _, _, rfl, F, N, ?_, u, k + 1, tt, a', o1, o2, o3, v1, v2, tl, ws, nw, d1, d2, d3, rfl, hw, hD, hi, h3, rfl, hlt, rfl, hPu, hled, fun j r' hj e => ?_⟩
 . omega
 . rcases Nat.lt_or_ge j k with h | h
   . exact hno j r' h e
   . have : j = k := by omega
     subst this
     rw [e2] at e
     cases e
     exact hf
local macro_rules | `(tactic| is_list) => `(tactic| walk_at "l")
local macro_rules | `(tactic| cells_apart) => `(tactic| repeat (first | exact trivial | assumption | refine ⟨.inl (by omega), ?_⟩))
local macro_rules | `(tactic| walk_at "l") => `(tactic| exact wordL (by assumption) (by k_asm) (by k_asm) (by repeat first | exact fun _ h => h | refine sub_up ?_))
local macro_rules | `(tactic| walk_at "storeName") => `(tactic| (with_reducible refine haltCell (by with_unfolding_all rfl) ?_))
def Sdown_spec (w : World) (loose : List Str) (mean : ExcName -> Option Value) (mg : Str -> Option Value) (mb : Str -> Option Value) (dp : Nat) (un : Nat) (gd : Option (List Code)) (cn : Str) (cs : Scope) (a : Addr) (ccd : Value) (cl : List (Str × Addr)) (outer : List Env) (A₀ : Around) (base : Heap) (h₀ : Heap) (L : Addr) (m : Str -> Option Value) (s : Shared) (Q : Value -> Shared -> Prop) (E : Value -> Shared -> Prop) (ar : Addr) (u₀ : Wd) (vs : List Value) (nr : Nat) (rs : List Rl) (P : Wd -> Prop) (μ : Wd -> Nat) : Prop :=
 ∀ (B : Below A₀ base outer h₀),
 ∀ (F : Fr h₀ L s.heap m),
 ∀ (X : (Mine.KR w.params).In h₀),
 ∀ (T : Top topProg loose mean mg mb h₀),
 ∀ (hk : cs.kind = .function),
 ∀ (aw : Addr),
 ∀ (hw : IsW s.heap aw u₀.1 u₀.2.1 u₀.2.2),
 ∀ (hr : s.heap.get? ar = some (lst vs nr)),
 ∀ (hrs : AllAt RlAt s.heap vs rs),
 ∀ (hvs : vs.length ≤ 1000),
 ∀ (hP₀ : P u₀),
 ∀ (hP : ∀ u r, P u -> r ∈ rs -> Fits u r.1 -> P (u.swap r.1 r.2) ∧ μ (u.swap r.1 r.2) < μ u),
 ∀ (hdp : dp < 500),
 ∀ (hun : un < 500),
 ∀ (ret : ∀ D h' tk' u, Fr h₀ L h' m -> Keeps s.heap h' -> (D = aw ∨ s.heap.get? D = none) -> Down rs u₀ u -> IsW h' D u.1 u.2.1 u.2.2 -> Q (.ref D) { s with heap := h', toks := tk' }),
 wpAny (model PW w) (ktrTop dp un gd cn cs L a ccd cl outer) (call (.ref 301) [.ref aw, .ref ar]) Q E s
abbrev Tdown_spec : Type := ((((World × (List Str)) × ((ExcName -> Option Value) × (Str -> Option Value))) × (((Str -> Option Value) × Nat) × (Nat × (Option (List Code))))) × (((Str × Scope) × (Addr × Value)) × (((List (Str × Addr)) × (List Env)) × Around))) × ((((Heap × Heap) × (Addr × (Str -> Option Value))) × ((Shared × (Value -> Shared -> Prop)) × (Value -> Shared -> Prop))) × (((Addr × Wd) × ((List Value) × Nat)) × (((List Rl) × (Wd -> Prop)) × (Wd -> Nat))))
def Pdown_spec (p : Tdown_spec) : Prop := Sdown_spec p.1.1.1.1.1 p.1.1.1.1.2 p.1.1.1.2.1 p.1.1.1.2.2 p.1.1.2.1.1 p.1.1.2.1.2 p.1.1.2.2.1 p.1.1.2.2.2 p.1.2.1.1.1 p.1.2.1.1.2 p.1.2.1.2.1 p.1.2.1.2.2 p.1.2.2.1.1 p.1.2.2.1.2 p.1.2.2.2 p.2.1.1.1.1 p.2.1.1.1.2 p.2.1.1.2.1 p.2.1.1.2.2 p.2.1.2.1.1 p.2.1.2.1.2 p.2.1.2.2 p.2.2.1.1.1 p.2.2.1.1.2 p.2.2.1.2.1 p.2.2.1.2.2 p.2.2.2.1.1 p.2.2.2.1.2 p.2.2.2.2
theorem ndown_spec : Nonempty Tdown_spec := ⟨(((((Classical.choice neW, default), default), default), (default, (default, callerA))), ((default, (({}, default), default)), default))⟩
namespace Cdown_spec
def pt := ep ndown_spec Pdown_spec
@[irreducible] def w := pt.1.1.1.1.1
@[irreducible] def loose := pt.1.1.1.1.2
@[irreducible] def mean := pt.1.1.1.2.1
@[irreducible] def mg := pt.1.1.1.2.2
@[irreducible] def mb := pt.1.1.2.1.1
@[irreducible] def dp := pt.1.1.2.1.2
@[irreducible] def un := pt.1.1.2.2.1
@[irreducible] def gd := pt.1.1.2.2.2
@[irreducible] def cn := pt.1.2.1.1.1
@[irreducible] def cs := pt.1.2.1.1.2
@[irreducible] def a := pt.1.2.1.2.1
@[irreducible] def ccd := pt.1.2.1.2.2
@[irreducible] def cl := pt.1.2.2.1.1
@[irreducible] def outer := pt.1.2.2.1.2
@[irreducible] def A₀ := pt.1.2.2.2
@[irreducible] def base := pt.2.1.1.1.1
@[irreducible] def h₀ := pt.2.1.1.1.2
@[irreducible] def L := pt.2.1.1.2.1
@[irreducible] def m := pt.2.1.1.2.2
@[irreducible] def s := pt.2.1.2.1.1
@[irreducible] def Q := pt.2.1.2.1.2
@[irreducible] def E := pt.2.1.2.2
@[irreducible] def ar := pt.2.2.1.1.1
@[irreducible] def u₀ := pt.2.2.1.1.2
@[irreducible] def vs := pt.2.2.1.2.1
@[irreducible] def nr := pt.2.2.1.2.2
@[irreducible] def rs := pt.2.2.2.1.1
@[irreducible] def P := pt.2.2.2.1.2
@[irreducible] def μ := pt.2.2.2.2
@[irreducible] def L' : Addr := s.heap.objs.size
theorem hLc : s.heap.objs.size = L' := by delta L'; rfl
noncomputable def sg0 : (P0 : Heap -> Nat -> Heap -> Nat -> Prop) ×' ((∀ x0 x1 x2 x3, P0 x0 x1 x2 x3) -> Sdown_spec w loose mean mg mb dp un gd cn cs a ccd cl outer A₀ base h₀ L m s Q E ar u₀ vs nr rs P μ) := by
 apply PSigma.mk
 case snd =>
   intro hP0
   unfold Sdown_spec
   intro B F X T hk aw hw hr hrs hvs hP₀ hP hdp hun ret
   refine wpAny_call ?_
   k_dflt (refine' enter_cellsC (L' := L') (hL := ?hL) ?k1 ?k2 ?k3 ?k5 ?kA ?kF ?kK ?k6 ?k7 ?k8 ?k9 ?kB ?kD ?_ ?c2 ?c3 ?c4; (case kA | kF => exact rfl); (case kK => assumption); (case k1 | k2 => k_asm); (case hL => exact hLc); (case k3 | k5 => k_asm); (case k6 | k7 => k_is); (case k8 => ktr_room); (case k9 => exact BindsTo.of_eq rfl); (case kB => exact rfl); (case kD => decide +kernel); (case c2 | c3 | c4 => exact rfl); intro h' tk' cells' F' N' Y' B' X' T'; k_cells Y'; (try dsimp only); (try k_fold))
   rename_i o1 o2 o3 d1 d2 d3
   rename Fr s.heap L' _ _ => F1
   replace d1 : o1.data = .cell none := by with_unfolding_all exact d1
   replace d2 : o2.data = .cell none := by with_unfolding_all exact d2
   replace d3 : o3.data = .cell (some (.ref aw)) := by with_unfolding_all exact d3
   replace F1 : Fr s.heap L' h' (fun y => if y = oS "rules" then some (.ref ar) else none) := by with_unfolding_all exact F1
   k_steps
   rename News s.heap L' _ _ => N1
   rename Fr s.heap L' _ _ => F2
   refine While_inv2 (n₀ := μ u₀ * (vs.length + 1) + vs.length) (downJ s.heap aw L' ar vs rs P μ u₀) F2 N1 ?_ ?_
   . obtain ⟨ws, nw, g1, g2, g3⟩ := hw.out
     exact ⟨u₀, 0, _, aw, o1, o2, o3, _, _, [], ws, nw, d1, d2, d3, rfl, (fun h m F N => F.keep _ _ g1), .inl rfl, g3, ⟨trivial, trivial, trivial⟩, rfl, Nat.zero_le _, by simp, hP₀, .nil _, fun j r h => absurd h (Nat.not_lt_zero _)⟩
   . clear N1 F2 d1 d2 d3
     rintro n m₁ news₁ h₁ tk₁ F1 N1 JJ
     revert JJ; revert N1; revert F1; revert news₁; revert m₁; revert n; revert T'; revert X'; revert B'; revert ret; revert hun; revert hdp; revert hP; revert hP₀; revert hvs; revert hrs; revert hr; revert hw; revert hk; revert T; revert X; revert F; revert B; revert aw
     rename_i vv0
     exact hP0 vv0 tk h₁ tk₁
namespace K0_0
abbrev TT : Type := (Heap × Nat) × (Heap × Nat)
def PP (p : TT) : Prop := sg0.1 p.1.1 p.1.2 p.2.1 p.2.2
def pt := ep ⟨default⟩ PP
@[irreducible] def vv0 := pt.1.1
@[irreducible] def tk := pt.1.2
@[irreducible] def h₁ := pt.2.1
@[irreducible] def tk₁ := pt.2.2
theorem sg1 : sg0.1 vv0 tk h₁ tk₁ := by
 unfold sg0
 dsimp only
 intro aw B F X T hk hw hr hrs hvs hP₀ hP hdp hun ret B' X' T' n m₁ news₁ F1 N1 JJ
 obtain ⟨u, k, tk, a', o1, o2, o3, v1, v2, tl, ws, nw, d1, d2, d3, rfl, hW, hD, g2, ⟨p1, p2, p3⟩, rfl, hkl, rfl, hPu, hled, hno⟩ := JJ
 rcases Nat.lt_or_ge k vs.length with hlt | hge
 . obtain ⟨v, r, e1, e2, p, va, vb, np, rfl, g4, ⟨ah, rfl, hh⟩, ⟨at', rfl, ht⟩⟩ := hrs.get hlt
   obtain ⟨hs, nh, g5, g6, g7⟩ := hh.out
   obtain ⟨ts, nt, g8, g9, g10⟩ := ht.out
   have e1' : vs.toArray[(k : Int).toNat]? = some (.ref p) := by simpa using e1
   clear ret
   k_steps
   refine Halt.mk ?_
   rename Fr _ _ _ _ => F'
   rename News _ _ _ _ => N'
   with_unfolding_all refine stCNk (own := [_]) (rest := _ :: tl) F' N' rfl (by assumption) (by cells_apart) (by cells_apart) ?_
   intro _ _ _ NC _
   simp only [List.cons_append, List.nil_append] at NC
   clear F' N'
   try dsimp only
   k_steps
   refine Halt.mk ?_
   rename Fr _ _ _ _ => F'
   rename News _ _ _ _ => N'
   with_unfolding_all refine stCNk (own := []) (rest := _ :: _ :: tl) F' N' rfl (by assumption) (by cells_apart) (by cells_apart) ?_
   intro _ _ _ NC _
   simp only [List.cons_append, List.nil_append] at NC
   clear F' N'
   try dsimp only
   k_steps
   . refine Halt.mk ?_
     rename Fr _ _ _ _ => F'
     rename News _ _ _ _ => N'
     with_unfolding_all refine stCNk (own := [_, _, _]) (rest := tl) F' N' rfl (by assumption) (by cells_apart) (by cells_apart) ?_
     intro _ _ _ NC _
     simp only [List.cons_append, List.nil_append] at NC
     clear F' N'
     try dsimp only
     k_steps
     rename Fr s.heap L' _ _ => F9
     rename News s.heap L' _ _ => N9
     rw [two_k] at F9
     exact down_hit (v1 := some (.ref at')) (v2 := some (.ref ah)) hP e2 hPu hled ⟨by assumption, by assumption, by assumption⟩ (by assumption) (by assumption) (by assumption) (by assumption) F9 N9 (by simp)
   all_goals (rename Fr s.heap L' _ _ => F9; rename News s.heap L' _ _ => N9; rw [two_k] at F9)
   . exact down_miss hlt e2 hPu hled hno (fun hf => absurd hf.2.2 (by assumption)) (by assumption) (by assumption) d3 hW hD g2 ⟨p1, p2, p3⟩ F9 N9
   . exact down_miss hlt e2 hPu hled hno (fun hf => absurd hf.2.1 (by assumption)) (by assumption) (by assumption) d3 hW hD g2 ⟨p1, p2, p3⟩ F9 N9
   . exact down_miss hlt e2 hPu hled hno (fun hf => absurd hf.1 (by assumption)) (by assumption) (by assumption) d3 hW hD g2 ⟨p1, p2, p3⟩ F9 N9
 . have hdone : Done rs u := fun r hr => by
     obtain ⟨j, hj⟩ := List.getElem?_of_mem hr
     have hjl : j < rs.length := by
       rcases Nat.lt_or_ge j rs.length with h | h
       . exact h
       . rw [List.getElem?_eq_none h] at hj; cases hj
     exact hno j r (by have := hrs.1; omega) hj
   clear hP
   k_steps
   rename Fr s.heap L' _ _ => F9
   rename Fr h₀ L _ m => kF9
   rename News s.heap L' _ _ => N9
   exact ret _ _ _ u kF9 (fun b o e => F9.keep b o e) hD ⟨hled, hdone⟩ (IsW.of (hW _ _ F9 fun p hp => N9 p (by repeat (first | exact hp | apply List.Mem.tail))) g2)
theorem fin : ∀ x, PP x := drink ⟨default⟩ PP (by with_unfolding_all exact sg1)
end K0_0
theorem main : Sdown_spec w loose mean mg mb dp un gd cn cs a ccd cl outer A₀ base h₀ L m s Q E ar u₀ vs nr rs P μ := sg0.2 (by intros; exact K0_0.fin ((_, _), (_, _)))
end Cdown_spec
theorem down_spec (w : World) (loose : List Str) (mean : ExcName -> Option Value) (mg mb : Str -> Option Value) (dp un : Nat) (gd : Option (List Code)) (cn : Str) (cs : Scope) (a : Addr) (ccd : Value) (cl : List (Str × Addr)) (outer : List Env) (A₀ : Around) (base h₀ : Heap) (L : Addr) (m : Str -> Option Value) (s : Shared) (Q E : Value -> Shared -> Prop) (B : Below A₀ base outer h₀) (F : Fr h₀ L s.heap m) (X : (Mine.KR w.params).In h₀) (T : Top topProg loose mean mg mb h₀) (hk : cs.kind = .function) (aw ar : Addr) (u₀ : Wd) (vs : List Value) (nr : Nat) (rs : List Rl) (P : Wd -> Prop) (μ : Wd -> Nat) (hw : IsW s.heap aw u₀.1 u₀.2.1 u₀.2.2) (hr : s.heap.get? ar = some (lst vs nr)) (hrs : AllAt RlAt s.heap vs rs) (hvs : vs.length ≤ 1000) (hP₀ : P u₀) (hP : ∀ u r, P u -> r ∈ rs -> Fits u r.1 -> P (u.swap r.1 r.2) ∧ μ (u.swap r.1 r.2) < μ u) (hdp : dp < 500) (hun : un < 500) (ret : ∀ D h' tk' u, Fr h₀ L h' m -> Keeps s.heap h' -> (D = aw ∨ s.heap.get? D = none) -> Down rs u₀ u -> IsW h' D u.1 u.2.1 u.2.2 -> Q (.ref D) { s with heap := h', toks := tk' }) :
 wpAny (model PW w) (ktrTop dp un gd cn cs L a ccd cl outer) (call (.ref 301) [.ref aw, .ref ar]) Q E s :=
 drink ndown_spec Pdown_spec (by with_unfolding_all exact Cdown_spec.main) (((((w, loose), (mean, mg)), ((mb, dp), (un, gd))), (((cn, cs), (a, ccd)), ((cl, outer), A₀))), ((((base, h₀), (L, m)), ((s, Q), E)), (((ar, u₀), (vs, nr)), ((rs, P), μ)))) B F X T hk aw hw hr hrs hvs hP₀ hP hdp hun ret
end
end Mine
end
noncomputable section
example : True := by w_top off; trivial
namespace Mine
noncomputable section
local macro_rules | `(tactic| omega) => `(tactic| walk_at "p")
local macro_rules | `(tactic| k_inst) => `(tactic| exact inst_of (by assumption) (by assumption) (by assumption))
local macro_rules | `(tactic| walk_at "exec For Tuple Attribute") => `(tactic| (k_here; (rename Fr _ _ _ _ => lF'); (with_unfolding_all refine' For_turns lF' ?_; k_whole)))
local macro_rules | `(tactic| walk_at "pyIter ref") => `(tactic| refine Halt.go ?_)
local macro_rules | `(tactic| walk_at "assign Tuple") => `(tactic| (k_here; k_dflt (refine unpackN_ (by k_asm) (by k_asm) (by exact tup_of (by assumption) (by assumption)) (by exact rfl) (by exact rfl) (by exact rfl) ?_); intro h' F' N'; (try k_sweep)))
section
variable (w : World) (loose : List Str) (mean : ExcName -> Option Value) (mg mb : Str -> Option Value) (dp un : Nat) (gd : Option (List Code)) (cn : Str) (cs : Scope) (a : Addr) (ccd : Value) (cl : List (Str × Addr)) (outer : List Env) (A₀ : Around) (base h₀ : Heap) (L : Addr) (m : Str -> Option Value) (s : Shared) (Q E : Value -> Shared -> Prop) (ao dx lk p0 p1 : Addr) (hsh : Int) (tc : Tok) (no nk n0 n1 : Nat) (i0 d0 i1 d1 : Int) (u0 u1 u2 u3 : Tok) (al ar : Addr) (x y z x' y' z' : Int) (vs us : List Value)
def Qcmp_spec : Prop :=
 ∀ (hw : s.heap.IsList al vs.toArray),
 ∀ (hwi : IntsAre vs [x, y, z]),
 ∀ (hl : s.heap.IsList ar us.toArray),
 ∀ (hli : IntsAre us [x', y', z']),
 ∀ (hdp : dp < 500),
 ∀ (ret : ∀ v t h' tk', v = cmpP i0 d0 i1 d1 (x, y, z) (x', y', z') -> Fr h₀ L h' m -> Keeps s.heap h' -> Q (.int v t) { s with heap := h', toks := tk' }),
 wpAny (model PW w) (ktrTop dp un gd cn cs L a ccd cl outer) (call (.ref 267) [.ref ao, .ref al, .ref ar]) Q E s
def Scmp_spec : Prop :=
 ∀ (B : Below A₀ base outer h₀),
 ∀ (F : Fr h₀ L s.heap m),
 ∀ (X : (Mine.KR w.params).In h₀),
 ∀ (T : Top topProg loose mean mg mb h₀),
 ∀ (hk : cs.kind = .function),
 ∀ (ho : s.heap.get? ao = some (instObj 270 dx)),
 ∀ (hdx : s.heap.get? dx = some (dictOf [⟨hsh, .str (oS "comp_select_list") tc, .ref lk⟩] no)),
 ∀ (hlk : s.heap.get? lk = some (lst [.ref p0, .ref p1] nk)),
 ∀ (hp0 : s.heap.get? p0 = some (tup [.int i0 u0, .int d0 u1] n0)),
 ∀ (hp1 : s.heap.get? p1 = some (tup [.int i1 u2, .int d1 u3] n1)),
 ∀ (hi0 : 0 ≤ i0 ∧ i0 < 3),
 ∀ (hi1 : 0 ≤ i1 ∧ i1 < 3),
 Qcmp_spec w dp un gd cn cs a ccd cl outer h₀ L m s Q E ao i0 d0 i1 d1 al ar x y z x' y' z' vs us
end
abbrev Tcmp_spec : Type := (((((World × (List Str)) × ((ExcName -> Option Value) × (Str -> Option Value))) × (((Str -> Option Value) × Nat) × Nat)) × ((((Option (List Code)) × Str) × Scope) × ((Addr × Value) × (List (Str × Addr))))) × (((((List Env) × Around) × (Heap × Heap)) × ((Addr × (Str -> Option Value)) × Shared)) × ((((Value -> Shared -> Prop) × (Value -> Shared -> Prop)) × Addr) × ((Addr × Addr) × Addr)))) × (((((Addr × Int) × (Tok × Nat)) × ((Nat × Nat) × Nat)) × (((Int × Int) × Int) × ((Int × Tok) × Tok))) × ((((Tok × Tok) × Addr) × ((Addr × Int) × Int)) × (((Int × Int) × Int) × ((Int × (List Value)) × (List Value)))))
def Pcmp_spec (p : Tcmp_spec) : Prop := Scmp_spec p.1.1.1.1.1.1 p.1.1.1.1.1.2 p.1.1.1.1.2.1 p.1.1.1.1.2.2 p.1.1.1.2.1.1 p.1.1.1.2.1.2 p.1.1.1.2.2 p.1.1.2.1.1.1 p.1.1.2.1.1.2 p.1.1.2.1.2 p.1.1.2.2.1.1 p.1.1.2.2.1.2 p.1.1.2.2.2 p.1.2.1.1.1.1 p.1.2.1.1.1.2 p.1.2.1.1.2.1 p.1.2.1.1.2.2 p.1.2.1.2.1.1 p.1.2.1.2.1.2 p.1.2.1.2.2 p.1.2.2.1.1.1 p.1.2.2.1.1.2 p.1.2.2.1.2 p.1.2.2.2.1.1 p.1.2.2.2.1.2 p.1.2.2.2.2 p.2.1.1.1.1.1 p.2.1.1.1.1.2 p.2.1.1.1.2.1 p.2.1.1.1.2.2 p.2.1.1.2.1.1 p.2.1.1.2.1.2 p.2.1.1.2.2 p.2.1.2.1.1.1 p.2.1.2.1.1.2 p.2.1.2.1.2 p.2.1.2.2.1.1 p.2.1.2.2.1.2 p.2.1.2.2.2 p.2.2.1.1.1.1 p.2.2.1.1.1.2 p.2.2.1.1.2 p.2.2.1.2.1.1 p.2.2.1.2.1.2 p.2.2.1.2.2 p.2.2.2.1.1.1 p.2.2.2.1.1.2 p.2.2.2.1.2 p.2.2.2.2.1.1 p.2.2.2.2.1.2 p.2.2.2.2.2
theorem ncmp_spec : Nonempty Tcmp_spec := ⟨((((((Classical.choice neW, default), default), default), default), ((((default, callerA), default), (default, {})), default)), default)⟩
namespace Ccmp_spec
def pt := ep ncmp_spec Pcmp_spec
@[irreducible] def w := pt.1.1.1.1.1.1
@[irreducible] def loose := pt.1.1.1.1.1.2
@[irreducible] def mean := pt.1.1.1.1.2.1
@[irreducible] def mg := pt.1.1.1.1.2.2
@[irreducible] def mb := pt.1.1.1.2.1.1
@[irreducible] def dp := pt.1.1.1.2.1.2
@[irreducible] def un := pt.1.1.1.2.2
@[irreducible] def gd := pt.1.1.2.1.1.1
@[irreducible] def cn := pt.1.1.2.1.1.2
@[irreducible] def cs := pt.1.1.2.1.2
@[irreducible] def a := pt.1.1.2.2.1.1
@[irreducible] def ccd := pt.1.1.2.2.1.2
@[irreducible] def cl := pt.1.1.2.2.2
@[irreducible] def outer := pt.1.2.1.1.1.1
@[irreducible] def A₀ := pt.1.2.1.1.1.2
@[irreducible] def base := pt.1.2.1.1.2.1
@[irreducible] def h₀ := pt.1.2.1.1.2.2
@[irreducible] def L := pt.1.2.1.2.1.1
@[irreducible] def m := pt.1.2.1.2.1.2
@[irreducible] def s := pt.1.2.1.2.2
@[irreducible] def Q := pt.1.2.2.1.1.1
@[irreducible] def E := pt.1.2.2.1.1.2
@[irreducible] def ao := pt.1.2.2.1.2
@[irreducible] def dx := pt.1.2.2.2.1.1
@[irreducible] def lk := pt.1.2.2.2.1.2
@[irreducible] def p0 := pt.1.2.2.2.2
@[irreducible] def p1 := pt.2.1.1.1.1.1
@[irreducible] def hsh := pt.2.1.1.1.1.2
@[irreducible] def tc := pt.2.1.1.1.2.1
@[irreducible] def no := pt.2.1.1.1.2.2
@[irreducible] def nk := pt.2.1.1.2.1.1
@[irreducible] def n0 := pt.2.1.1.2.1.2
@[irreducible] def n1 := pt.2.1.1.2.2
@[irreducible] def i0 := pt.2.1.2.1.1.1
@[irreducible] def d0 := pt.2.1.2.1.1.2
@[irreducible] def i1 := pt.2.1.2.1.2
@[irreducible] def d1 := pt.2.1.2.2.1.1
@[irreducible] def u0 := pt.2.1.2.2.1.2
@[irreducible] def u1 := pt.2.1.2.2.2
@[irreducible] def u2 := pt.2.2.1.1.1.1
@[irreducible] def u3 := pt.2.2.1.1.1.2
@[irreducible] def al := pt.2.2.1.1.2
@[irreducible] def ar := pt.2.2.1.2.1.1
@[irreducible] def x := pt.2.2.1.2.1.2
@[irreducible] def y := pt.2.2.1.2.2
@[irreducible] def z := pt.2.2.2.1.1.1
@[irreducible] def x' := pt.2.2.2.1.1.2
@[irreducible] def y' := pt.2.2.2.1.2
@[irreducible] def z' := pt.2.2.2.2.1.1
@[irreducible] def vs := pt.2.2.2.2.1.2
@[irreducible] def us := pt.2.2.2.2.2
@[irreducible] def L' : Addr := s.heap.objs.size
theorem hLc : s.heap.objs.size = L' := by delta L'; rfl
theorem main : Scmp_spec w loose mean mg mb dp un gd cn cs a ccd cl outer A₀ base h₀ L m s Q E ao dx lk p0 p1 hsh tc no nk n0 n1 i0 d0 i1 d1 u0 u1 u2 u3 al ar x y z x' y' z' vs us := by
 unfold Scmp_spec Qcmp_spec
 intro B F X T hk ho hdx hlk hp0 hp1 hi0 hi1 hw hwi hl hli hdp ret
 refine wpAny_call ?_
 k_dflt (refine' enter_plainC (L' := L') (hL := ?hL) ?k1 ?k2 ?k3 ?k5 ?kA ?kF ?kK ?k6 ?k7 ?k8 ?k9 ?kB ?_ ?c2 ?c3 ?c4 ?c5; (case kA | kF => exact rfl); (case kK => assumption); (case k1 | k2 => k_asm); (case hL => exact hLc); (case k3 | k5 => k_asm); (case k6 | k7 => k_is); (case k8 => ktr_room); (case k9 => exact BindsTo.of_eq rfl); (case kB => exact locs rfl); (case c2 | c3 | c4 => exact rfl); (case c5 => decide); intro h' F' N' B' X' T'; (try dsimp only); (try k_fold))
 k_steps
 refine Halt.mk ?_
 rename Fr _ _ _ _ => lF'
 rename News _ _ _ _ => lN'
 with_unfolding_all refine' turns_base (by rfl) lF' lN' (isl0 (by assumption)) ?_
 clear lF' lN'
 intro i' l1
 k_lt l1
 k_steps
 all_goals (rename Fr s.heap _ _ _ => F9; rename Fr h₀ L _ m => kF9; refine ret _ _ _ _ ?_ kF9 (fun b o e => F9.keep b o e); unfold cmpP Wd.at; (repeat (first | rw [if_pos (by assumption)] | rw [if_neg (by assumption)])))
end Ccmp_spec
theorem cmp_spec : ∀ w loose mean mg mb dp un gd cn cs a ccd cl outer A₀ base h₀ L m s Q E (B : Below A₀ base outer h₀) (F : Fr h₀ L s.heap m) (X : (Mine.KR w.params).In h₀) (T : Top topProg loose mean mg mb h₀) (hk : cs.kind = .function) ao dx lk p0 p1 hsh tc no nk n0 n1 i0 d0 i1 d1 u0 u1 u2 u3 (ho : s.heap.get? ao = some (instObj 270 dx)) (hdx : s.heap.get? dx = some (dictOf [⟨hsh, .str (oS "comp_select_list") tc, .ref lk⟩] no)) (hlk : s.heap.get? lk = some (lst [.ref p0, .ref p1] nk)) (hp0 : s.heap.get? p0 = some (tup [.int i0 u0, .int d0 u1] n0)) (hp1 : s.heap.get? p1 = some (tup [.int i1 u2, .int d1 u3] n1)) (hi0 : 0 ≤ i0 ∧ i0 < 3) (hi1 : 0 ≤ i1 ∧ i1 < 3) al ar x y z x' y' z' vs us, Qcmp_spec w dp un gd cn cs a ccd cl outer h₀ L m s Q E ao i0 d0 i1 d1 al ar x y z x' y' z' vs us :=
 fun w loose mean mg mb dp un gd cn cs a ccd cl outer A₀ base h₀ L m s Q E B F X T hk ao dx lk p0 p1 hsh tc no nk n0 n1 i0 d0 i1 d1 u0 u1 u2 u3 ho hdx hlk hp0 hp1 hi0 hi1 al ar x y z x' y' z' vs us => drink ncmp_spec Pcmp_spec (by with_unfolding_all exact Ccmp_spec.main) ((((((w, loose), (mean, mg)), ((mb, dp), un)), (((gd, cn), cs), ((a, ccd), cl))), ((((outer, A₀), (base, h₀)), ((L, m), s)), (((Q, E), ao), ((dx, lk), p0)))), (((((p1, hsh), (tc, no)), ((nk, n0), n1)), (((i0, d0), i1), ((d1, u0), u1))), ((((u2, u3), al), ((ar, x), y)), (((z, x'), y'), ((z', vs), us))))) B F X T hk ho hdx hlk hp0 hp1 hi0 hi1
end
end Mine
end
noncomputable section
example : True := by w_top off; trivial
namespace Mine
noncomputable section
local macro_rules | `(tactic| omega) => `(tactic| walk_at "p")
def OrdAt (h : Heap) (ao : Addr) (i0 d0 i1 d1 : Int) : Prop :=
 ∃ (dx lk p0 p1 : Addr) (hsh : Int) (tc u0 u1 u2 u3 : Tok) (no nk n0 n1 : Nat), h.get? ao = some (instObj 270 dx) ∧ h.get? dx = some (dictOf [⟨hsh, .str (oS "comp_select_list") tc, .ref lk⟩] no)
   ∧ h.get? lk = some (lst [.ref p0, .ref p1] nk) ∧ h.get? p0 = some (tup [.int i0 u0, .int d0 u1] n0) ∧ h.get? p1 = some (tup [.int i1 u2, .int d1 u3] n1)
theorem OrdAt.keep {h h' : Heap} {ao : Addr} {i0 d0 i1 d1 : Int} (H : OrdAt h ao i0 d0 i1 d1) (k : Keeps h h') : OrdAt h' ao i0 d0 i1 d1 :=
 Exists.imp (fun _ => Exists.imp fun _ => Exists.imp fun _ => Exists.imp fun _ => Exists.imp fun _ => Exists.imp fun _ => Exists.imp fun _ => Exists.imp fun _ => Exists.imp fun _ => Exists.imp fun _ => Exists.imp fun _ => Exists.imp fun _ => Exists.imp fun _ => Exists.imp fun _ => And.imp (k _ _) (And.imp (k _ _) (And.imp (k _ _) (And.imp (k _ _) (k _ _))))) H
theorem toHide {g h : Heap} {L a : Addr} {m : Str -> Option Value} (n : g.get? a = none) (F : Fr g L h m) : Keeps g (hideAll h [a]) := fun b o e =>
 hideAll_get _ (F.keep _ _ e) fun q => by rw [List.mem_singleton.mp q, n] at e; cases e
theorem learn_push {g h h2 : Heap} {L ar D D1 D2 : Addr} {m : Str -> Option Value} {tl : List (Addr × Obj)} {vs : List Value} {nr : Nat} {rs : List Rl} {v1 v2 : Wd} {R : Prop} (harg : g.get? ar = none) (hrs : AllAt RlAt g vs rs) (F : Fr g L h m)
   (N : News g L h ((D, tup [.ref D1, .ref D2]) :: (ar, W.listOf (vs.toArray.push (.ref D)) (nr + 1)) :: tl)) (l : ar < D ∧ R) (kp : ∀ h₂, Keeps g h₂ -> Has tl h₂ -> KeepsSeq [ar] h2 h₂)
   (hW1 : IsW (hideAll h2 [ar]) D1 v1.1 v1.2.1 v1.2.2) (hW2 : IsW (hideAll h2 [ar]) D2 v2.1 v2.2.1 v2.2.2) :
   ∃ vs', vs'.length ≤ vs.length + 1 ∧ h.get? ar = some (lst vs' (nr + 1)) ∧ AllAt RlAt (hideAll h [ar]) vs' (rs ++ [(v1, v2)]) ∧ ∀ v ∈ vs', v ∈ vs ∨ ∃ D, v = .ref D ∧ g.get? D = none := by
 have kk := kp _ F.keep fun q hq => (N q (.tail _ (.tail _ hq))).1
 have hg9 := toHide harg F
 refine ⟨vs ++ [.ref D], by simp, ?_, (hrs.keep fun v x q => q.ks (KS.of hg9)).push ⟨D, .ref D1, .ref D2, 0, rfl, hideAll_get _ (N _ (.head _)).1 (by simpa using Nat.ne_of_gt l.1), ⟨D1, rfl, hW1.ks kk.hide⟩, ⟨D2, rfl, hW2.ks kk.hide⟩⟩, fun v hv => (List.mem_append.mp hv).imp id fun q => ⟨D, List.mem_singleton.mp q, (N _ (.head _)).2.2⟩⟩
 have := (N _ (.tail _ (.head _))).1
 simpa [W.listOf] using this
local macro_rules | `(tactic| walk_at "call ref") => `(tactic| (refine Halt.go ?_))
local macro_rules | `(tactic| k_inst) => `(tactic| exact inst_of (by assumption) (by assumption) (by assumption))
local macro_rules | `(tactic| k_all) => `(tactic| assumption)
section
variable (w : World) (loose : List Str) (mean : ExcName -> Option Value) (mg mb : Str -> Option Value) (dp un : Nat) (gd : Option (List Code)) (cn : Str) (cs : Scope) (a : Addr) (ccd : Value) (cl : List (Str × Addr)) (outer : List Env) (A₀ : Around) (base h₀ : Heap) (L : Addr) (m : Str -> Option Value) (s : Shared) (Q E : Value -> Shared -> Prop) (ar a1 a2 ao : Addr) (u1 u2 : Wd) (vs : List Value) (nr : Nat) (rs : List Rl) (P : Wd -> Prop) (μ : Wd -> Nat) (i0 d0 i1 d1 : Int)
def Qlearn_spec : Prop :=
 ∀ (N : News h₀ L s.heap [(ar, lst vs nr)]),
 ∀ (hrs : AllAt RlAt (hideAll s.heap [ar]) vs rs),
 ∀ (hvs : vs.length ≤ 900),
 ∀ (h1 : IsW (hideAll s.heap [ar]) a1 u1.1 u1.2.1 u1.2.2),
 ∀ (h2 : IsW (hideAll s.heap [ar]) a2 u2.1 u2.2.1 u2.2.2),
 ∀ (ho : OrdAt (hideAll s.heap [ar]) ao i0 d0 i1 d1),
 ∀ (hi0 : 0 ≤ i0 ∧ i0 < 3),
 ∀ (hi1 : 0 ≤ i1 ∧ i1 < 3),
 ∀ (hP1 : P u1),
 ∀ (hP2 : P u2),
 ∀ (hP : ∀ u r, P u -> r ∈ rs -> Fits u r.1 -> P (u.swap r.1 r.2) ∧ μ (u.swap r.1 r.2) < μ u),
 ∀ (hdp : dp < 490),
 ∀ (hun : un < 480),
 ∀ (ret : ∀ h' tk' vs' n' rs', Fr h₀ L h' m -> Keeps (hideAll s.heap [ar]) h' -> h'.get? ar = some (lst vs' n') -> AllAt RlAt (hideAll h' [ar]) vs' rs' -> Learn i0 d0 i1 d1 rs u1 u2 rs' -> vs'.length ≤ vs.length + 1 -> (∀ v ∈ vs', v ∈ vs ∨ ∃ D, v = .ref D ∧ (hideAll s.heap [ar]).get? D = none) -> Q .none { s with heap := h', toks := tk' }),
 wpAny (model PW w) (ktrTop dp un gd cn cs L a ccd cl outer) (call (.ref 308) [.ref ar, .ref a1, .ref a2, .ref ao]) Q E s
def Slearn_spec : Prop :=
 ∀ (B : Below A₀ base outer h₀),
 ∀ (F : Fr h₀ L s.heap m),
 ∀ (X : (Mine.KR w.params).In h₀),
 ∀ (T : Top topProg loose mean mg mb h₀),
 ∀ (hk : cs.kind = .function),
 Qlearn_spec w dp un gd cn cs a ccd cl outer h₀ L m s Q E ar a1 a2 ao u1 u2 vs nr rs P μ i0 d0 i1 d1
end
abbrev Tlearn_spec : Type := (((((World × (List Str)) × (ExcName -> Option Value)) × ((Str -> Option Value) × (Str -> Option Value))) × (((Nat × Nat) × (Option (List Code))) × (Str × Scope))) × ((((Addr × Value) × (List (Str × Addr))) × ((List Env) × Around)) × ((Heap × Heap) × (Addr × (Str -> Option Value))))) × (((((Shared × (Value -> Shared -> Prop)) × (Value -> Shared -> Prop)) × (Addr × Addr)) × ((Addr × Addr) × (Wd × Wd))) × (((((List Value) × Nat) × (List Rl)) × ((Wd -> Prop) × (Wd -> Nat))) × ((Int × Int) × (Int × Int))))
def Plearn_spec (p : Tlearn_spec) : Prop := Slearn_spec p.1.1.1.1.1.1 p.1.1.1.1.1.2 p.1.1.1.1.2 p.1.1.1.2.1 p.1.1.1.2.2 p.1.1.2.1.1.1 p.1.1.2.1.1.2 p.1.1.2.1.2 p.1.1.2.2.1 p.1.1.2.2.2 p.1.2.1.1.1.1 p.1.2.1.1.1.2 p.1.2.1.1.2 p.1.2.1.2.1 p.1.2.1.2.2 p.1.2.2.1.1 p.1.2.2.1.2 p.1.2.2.2.1 p.1.2.2.2.2 p.2.1.1.1.1.1 p.2.1.1.1.1.2 p.2.1.1.1.2 p.2.1.1.2.1 p.2.1.1.2.2 p.2.1.2.1.1 p.2.1.2.1.2 p.2.1.2.2.1 p.2.1.2.2.2 p.2.2.1.1.1.1 p.2.2.1.1.1.2 p.2.2.1.1.2 p.2.2.1.2.1 p.2.2.1.2.2 p.2.2.2.1.1 p.2.2.2.1.2 p.2.2.2.2.1 p.2.2.2.2.2
theorem nlearn_spec : Nonempty Tlearn_spec := ⟨((((((Classical.choice neW, default), default), default), default), ((default, (default, callerA)), default)), ((((({}, default), default), default), default), default))⟩
namespace Clearn_spec
def pt := ep nlearn_spec Plearn_spec
@[irreducible] def w := pt.1.1.1.1.1.1
@[irreducible] def loose := pt.1.1.1.1.1.2
@[irreducible] def mean := pt.1.1.1.1.2
@[irreducible] def mg := pt.1.1.1.2.1
@[irreducible] def mb := pt.1.1.1.2.2
@[irreducible] def dp := pt.1.1.2.1.1.1
@[irreducible] def un := pt.1.1.2.1.1.2
@[irreducible] def gd := pt.1.1.2.1.2
@[irreducible] def cn := pt.1.1.2.2.1
@[irreducible] def cs := pt.1.1.2.2.2
@[irreducible] def a := pt.1.2.1.1.1.1
@[irreducible] def ccd := pt.1.2.1.1.1.2
@[irreducible] def cl := pt.1.2.1.1.2
@[irreducible] def outer := pt.1.2.1.2.1
@[irreducible] def A₀ := pt.1.2.1.2.2
@[irreducible] def base := pt.1.2.2.1.1
@[irreducible] def h₀ := pt.1.2.2.1.2
@[irreducible] def L := pt.1.2.2.2.1
@[irreducible] def m := pt.1.2.2.2.2
@[irreducible] def s := pt.2.1.1.1.1.1
@[irreducible] def Q := pt.2.1.1.1.1.2
@[irreducible] def E := pt.2.1.1.1.2
@[irreducible] def ar := pt.2.1.1.2.1
@[irreducible] def a1 := pt.2.1.1.2.2
@[irreducible] def a2 := pt.2.1.2.1.1
@[irreducible] def ao := pt.2.1.2.1.2
@[irreducible] def u1 := pt.2.1.2.2.1
@[irreducible] def u2 := pt.2.1.2.2.2
@[irreducible] def vs := pt.2.2.1.1.1.1
@[irreducible] def nr := pt.2.2.1.1.1.2
@[irreducible] def rs := pt.2.2.1.1.2
@[irreducible] def P := pt.2.2.1.2.1
@[irreducible] def μ := pt.2.2.1.2.2
@[irreducible] def i0 := pt.2.2.2.1.1
@[irreducible] def d0 := pt.2.2.2.1.2
@[irreducible] def i1 := pt.2.2.2.2.1
@[irreducible] def d1 := pt.2.2.2.2.2
@[irreducible] def g : Heap := hideAll s.heap [ar]
theorem hgc : hideAll s.heap [ar] = g := by delta g; rfl
@[irreducible] def L' : Addr := s.heap.objs.size
theorem hLc : s.heap.objs.size = L' := by delta L'; rfl
theorem main : Slearn_spec w loose mean mg mb dp un gd cn cs a ccd cl outer A₀ base h₀ L m s Q E ar a1 a2 ao u1 u2 vs nr rs P μ i0 d0 i1 d1 := by
 unfold Slearn_spec Qlearn_spec
 intro B F X T hk N hrs hvs h1 h2 ho hi0 hi1 hP1 hP2 hP hdp hun ret
 refine wpAny_call ?_
 k_dflt (refine' enter_plainMC (g := g) (L' := L') (hg := ?hg) (hL := ?hL) ?k1 ?k2 ?kN ?k3 ?k5 ?kA ?kF ?kK ?k6 ?k7 ?k8 ?k9 ?kB ?_ ?c2 ?c3 ?c4 ?c5; (case kA | kF => exact rfl); (case kK => assumption); (case k1 | k2 => k_asm); (case kN => exact N); (case hg => exact hgc); (case hL => exact hLc); (case k3 | k5 => k_asm); (case k6 | k7 => k_is); (case k8 => ktr_room); (case k9 => exact BindsTo.of_eq rfl); (case kB => exact locs rfl); (case c2 | c3 | c4 => exact rfl); (case c5 => decide); intro h' hg F' N' B' X' T'; (try dsimp only); (try k_fold))
 have hg' : g = hideAll s.heap [ar] := hg
 rw [← hg'] at hrs h1 h2 ho ret
 have harg : g.get? ar = none := by rw [hg']; exact hideAll_none _ (.head _)
 replace F' : Fr g L' h' (fun y => List.lookup y [(oS "order", .ref ao), (oS "two", .ref a2), (oS "one", .ref a1), (oS "rules", .ref ar)]) := by with_unfolding_all exact F'
 k_steps
 rename Fr g L' _ _ => F9
 rename News g L' _ _ => N9
 refine down_spec w loose mean mg mb _ _ _ _ _ _ _ _ _ _ _ _ _ _ _ _ _ B' F9 X' T' rfl a1 ar u1 vs nr rs P μ (h1.ks (KS.of F9.keep)) (N9 _ (.head _)).1 (hrs.keep fun v x q => q.ks (KS.of F9.keep)) (by omega) hP1 hP (by show dp + 1 < 500; omega) (by show un + 3 < 500; omega) ?_
 intro D1 hh1 tk1 v1 G1 K1 hD1 hdn1 hW1
 obtain ⟨tl1, NT1, off1, kp1⟩ := swallow G1 [ar]
 have NN : News g L' hh1 ((ar, lst vs nr) :: tl1) := by
   intro q hq
   rcases List.mem_cons.mp hq with rfl | hq
   . exact ⟨K1 _ _ (N9 _ (.head _)).1, (N9 _ (.head _)).2⟩
   . exact NT1 q hq
 have hD1' : D1 ≠ ar := by
   rcases hD1 with rfl | hD1
   . exact h1.ne harg
   . intro q; rw [q, (N9 _ (.head _)).1] at hD1; cases hD1
 clear N9 F9 NT1 K1
 try dsimp only
 k_steps
 rename Fr g L' _ _ => F9
 rename News g L' _ _ => N9
 refine down_spec w loose mean mg mb _ _ _ _ _ _ _ _ _ _ _ _ _ _ _ _ _ B' F9 X' T' rfl a2 ar u2 vs nr rs P μ (h2.ks (KS.of F9.keep)) (N9 _ (.head _)).1 (hrs.keep fun v x q => q.ks (KS.of F9.keep)) (by omega) hP2 hP (by show dp + 1 < 500; omega) (by show un + 3 < 500; omega) ?_
 intro D2 hh2 tk2 v2 G2 K2 hD2 hdn2 hW2
 obtain ⟨tl2, NT2, off2, kp2⟩ := swallow G2 [ar]
 have hW1 : IsW (hideAll hh2 [ar]) D1 v1.1 v1.2.1 v1.2.2 :=
   ((hW1.hide (by simpa using hD1')).ks (kp1 _ F9.keep fun q hq => (N9 q (.tail _ hq)).1).hide).ks (KeepsSeq.hide fun b o _ _ e => K2 b o e)
 have hD2' : D2 ≠ ar := by
   rcases hD2 with rfl | hD2
   . exact h2.ne harg
   . intro q; rw [q, (N9 _ (.head _)).1] at hD2; cases hD2
 have hW2 : IsW (hideAll hh2 [ar]) D2 v2.1 v2.2.1 v2.2.2 := hW2.hide (by simpa using hD2')
 have NN : News g L' hh2 ((ar, lst vs nr) :: tl2) := by
   intro q hq
   rcases List.mem_cons.mp hq with rfl | hq
   . exact ⟨K2 _ _ (N9 _ (.head _)).1, (N9 _ (.head _)).2⟩
   . exact NT2 q hq
 clear N9 F9 NT2 K2 kp1 off1 hD1 hD2
 obtain ⟨dx, lk, p0, p1, hsh, tc, t0, t1, t2, t3, no, nk, n0, n1, b1, b2, b3, b4, b5⟩ := ho
 try dsimp only
 k_steps
 rename Fr g L' _ _ => F9
 rename News g L' _ _ => N9
 have kk := kp2 _ F9.keep fun q hq => (N9 q (.tail _ hq)).1
 obtain ⟨ws1, m1, _, gl1, gi1⟩ := (hW1.ks (kk.hide.trans KS.hidden)).out
 obtain ⟨ws2, m2, _, gl2, gi2⟩ := (hW2.ks (kk.hide.trans KS.hidden)).out
 refine cmp_spec w loose mean mg mb _ _ _ _ _ _ _ _ _ _ _ _ _ _ _ _ _ B' F9 X' T' rfl ao dx lk p0 p1 hsh tc no nk n0 n1 i0 d0 i1 d1 t0 t1 t2 t3 (F9.keep _ _ b1) (F9.keep _ _ b2) (F9.keep _ _ b3) (F9.keep _ _ b4) (F9.keep _ _ b5) hi0 hi1 D1 D2 v1.1 v1.2.1 v1.2.2 v2.1 v2.2.1 v2.2.2 ws1 ws2 gl1 gi1 gl2 gi2 (by show dp + 1 < 500; omega) ?_
 intro cv ct hh3 tk3 hcv G3 K3
 have NN := News.keep N9 K3
 have off3 : ∀ p ∈ tl2, p.1 ≠ ar := fun p hp q => off2 p hp (by simp [q])
 clear kk N9 F9 K3 gl1 gi1 gl2 gi2
 try dsimp only
 k_steps
 all_goals (have hcv' : cv = cmpP i0 d0 i1 d1 v1 v2 := hcv; clear hcv; subst hcv')
 . rename Fr g L' _ _ => F9
   rename News g L' _ _ => N9
   rename Fr h₀ L _ m => kF9
   rename AllLt _ ((ar, _) :: _) => l9; simp only [AllLt, and_true] at l9
   obtain ⟨vs', q1, q2, q3, q4⟩ := learn_push harg hrs F9 N9 l9 kp2 hW1 hW2
   exact ret _ _ vs' _ _ kF9 F9.keep q2 q3 ⟨v1, v2, hdn1, hdn2, by rw [if_pos (by assumption)]⟩ q1 q4
 . rename Fr g L' _ _ => F9
   rename News g L' _ _ => N9
   rename Fr h₀ L _ m => kF9
   rename AllLt _ ((ar, _) :: _) => l9; simp only [AllLt, and_true] at l9
   obtain ⟨vs', q1, q2, q3, q4⟩ := learn_push harg hrs F9 N9 l9 kp2 hW2 hW1
   exact ret _ _ vs' _ _ kF9 F9.keep q2 q3 ⟨v1, v2, hdn1, hdn2, by rw [if_neg (by assumption), if_pos (by assumption)]⟩ q1 q4
 . rename Fr g L' _ _ => F9
   rename News g L' _ _ => N9
   rename Fr h₀ L _ m => kF9
   have hg9 := toHide harg F9
   refine ret _ _ vs nr rs kF9 F9.keep (N9 _ (.head _)).1 (hrs.keep fun v x q => q.ks (KS.of hg9)) ⟨v1, v2, hdn1, hdn2, ?_⟩ (by simp) (fun v hv => .inl hv)
   rw [if_neg (by assumption), if_neg (by assumption)]
end Clearn_spec
theorem learn_spec : ∀ w loose mean mg mb dp un gd cn cs a ccd cl outer A₀ base h₀ L m s Q E (B : Below A₀ base outer h₀) (F : Fr h₀ L s.heap m) (X : (Mine.KR w.params).In h₀) (T : Top topProg loose mean mg mb h₀) (hk : cs.kind = .function) ar a1 a2 ao u1 u2 vs nr rs P μ i0 d0 i1 d1, Qlearn_spec w dp un gd cn cs a ccd cl outer h₀ L m s Q E ar a1 a2 ao u1 u2 vs nr rs P μ i0 d0 i1 d1 :=
 fun w loose mean mg mb dp un gd cn cs a ccd cl outer A₀ base h₀ L m s Q E B F X T hk ar a1 a2 ao u1 u2 vs nr rs P μ i0 d0 i1 d1 => drink nlearn_spec Plearn_spec (by with_unfolding_all exact Clearn_spec.main) ((((((w, loose), mean), (mg, mb)), (((dp, un), gd), (cn, cs))), ((((a, ccd), cl), (outer, A₀)), ((base, h₀), (L, m)))), (((((s, Q), E), (ar, a1)), ((a2, ao), (u1, u2))), ((((vs, nr), rs), (P, μ)), ((i0, d0), (i1, d1))))) B F X T hk
end
end Mine
end
noncomputable section
example : True := by w_top off; trivial
namespace Mine
def MtAt (h : Heap) (t : Addr) (items : Array Value) : Prop := ∃ o, h.get? t = some o ∧ o.cls = .ref 135 ∧ ∃ n, o.data = .seq items n
theorem MtAt.ext {h h' : Heap} {a b : Addr} {items : Array Value} (x : MtAt h a items) (hs : Heap.ExtBut b h h') (hab : a ≠ b) : MtAt h' a items := let ⟨o, ho, r⟩ := x; ⟨o, hs a o hab ho, r⟩
theorem MtAt.push {h : Heap} {a : Addr} {items : Array Value} (x : MtAt h a items) (o : Obj) : MtAt (h.push o) a items := let ⟨o', ho, r⟩ := x; ⟨o', Heap.get?_push_of_some o ho, r⟩
theorem kind_tuple_iter : builtinKind "tuple.__iter__" = some .slot := by decide +kernel
theorem split_tuple_iter : splitId "tuple.__iter__" = some ("tuple", "__iter__") := by decide +kernel
section
variable {prog : Program} {w : World} {M : Model} {A : Around} {E : Value -> Shared -> Prop} {s : Shared} {P : Params} {t it : Addr} {items : Array Value} {i : Nat}
theorem mt_type (ht : MtAt s.heap t items) : Looks M s.heap (typeOf (.ref t)) (.ref 135) := by
 obtain ⟨o, ho, hc, _⟩ := ht
 rw [← hc]
 exact (Looks.ld ho).andThen .now
theorem mt_iter (X : (KR P).In s.heap) (ht : MtAt s.heap t items) : Looks M s.heap (specialOf (.ref t) "__iter__") (some (.builtin "tuple.__iter__")) :=
 (mt_type ht).andThen (looks_findIn X (by k_is))
theorem mt_tuple (X : (KR P).In s.heap) (ht : MtAt s.heap t items) : Looks M s.heap (isInstance (.ref t) (.type "tuple")) true :=
 (mt_type ht).andThen (looks_subIn X (by k_is))
theorem pyIter_mt {Q : Value -> Shared -> Prop} (X : (KR P).In s.heap) (ht : MtAt s.heap t items) (hQ : Q (.ref s.heap.objs.size) { s with heap := s.heap.push { cls := .type "tuple_iterator", data := .fields #[.ref t, .int 0 0] } }) :
   wpAny (model prog w) A (pyIter (.ref t)) Q E s := by
 have L1 := mt_iter (M := model prog w) X ht
 have hc : wpAny (model prog w) A (call (.builtin "tuple.__iter__") [.ref t]) (fun v s' => (match (some v : Option Value) with
     | some it => wpAny (model prog w) A (specialOf it "__next__") (fun r s'' => r.isSome = true ∧ Q it s'') E s' | none => True)) E s := by
   refine wpAny_call (codeAny_call_builtin F.slot_tuple_iter.plain F.entry_tuple_iter (check_slot kind_tuple_iter split_tuple_iter (mt_tuple X ht) (F.args_tuple_iter_1 _) ?_))
   show wpAny _ _ (do ret (← newFields "tuple_iterator" [.ref t, rawInt 0])) _ _ s
   exact wpAny_bind (wpAny_newObj_type (wpAny_pure (wpAny_specialOf (T := "tuple_iterator") ⟨_, Heap.get?_push_size _ rfl, rfl⟩ F.slot_tuple_iterator_next.lookup ⟨rfl, hQ⟩)))
 unfold pyIter
 refine wpAny_bind (L1.here ?_)
 show wpAny _ _ (callSpecialIfBoundUnlessNone? (.ref t) "__iter__" _ >>= _) _ _ _
 refine wpAny_bind ?_
 simp only [callSpecialIfBoundUnlessNone?, bindSpecialIfBound?]
 refine wpAny_holding (wpAny_bind (wpAny_bind (L1.here ?_)))
 simp only [F.slot_tuple_iter.bind]
 refine wpAny_bind (wpAny_askSetting (wpAny_ite ?_))
 have fin : ∀ (refuse : Sem Value), wpAny (model prog w) A (if (Value.builtin "tuple.__iter__" == Value.none) = true then (refuse >>= fun v => pure (some v)) else (call (.builtin "tuple.__iter__") [.ref t] >>= fun v => pure (some v)))
     (fun a s' => wpAny (model prog w) A (match a with
       | some it => specialOf it "__next__" >>= fun r => match r with
           | none => rule "iter.non-iterator" >>= fun _ => PySem.typeNameOf it >>= fun n => raiseError "TypeError" s!"iter() returned non-iterator of type '{n}'"
           | some _ => pure it
       | none => bindSpecialIfBound? (.ref t) "__getitem__" >>= fun r => match r with
           | none => rule "iter.not-iterable" >>= fun _ => PySem.typeNameOf (.ref t) >>= fun n => raiseError "TypeError" s!"'{n}' object is not iterable"
           | some _ => rule "iter.getitem-fallback" >>= fun _ => mkInt 0 >>= fun z => newFields "iterator" [.ref t, z]) Q E s') E s := by
   intro refuse
   rw [if_neg (by decide)]
   refine wpAny_bind (wpAny_mono hc (fun v s' h' => wpAny_pure ?_) fun _ _ h' => h')
   dsimp only
   refine wpAny_bind (wpAny_mono h' (fun r s'' h'' => ?_) fun _ _ h'' => h'')
   obtain ⟨h1, h2⟩ := h''
   cases r with
   | none => cases h1
   | some r => exact wpAny_pure h2
 split
 . exact wpAny_bind (wpAny_pure (wpAny_pure (fin _)))
 . exact wpAny_tryCatch (wpAny_bind (wpAny_pure (wpAny_pure (fin _))))
theorem next_mt {x : Value} {Q : Option Value -> Shared -> Prop} (hit : s.heap.IsTupleIter it t i) (ht : MtAt s.heap t items) (hx : items[i]? = some x)
   (hQ : ∀ h', h'.IsTupleIter it t (i + 1) -> Heap.SameBut it s.heap h' -> Q (some x) { s with heap := h' }) : wpAny (model prog w) A (pyNext (.ref it)) Q E s := by
 obtain ⟨o, ho, hc, hd⟩ := id hit
 obtain ⟨ol, hol, _, nl, hdl⟩ := ht
 unfold pyNext
 refine wpAny_bind (wpAny_attempt (wpAny_callSpecial?_slot (name := oS "__next__") hit.typeIs F.slot_tuple_iterator_next
   (wpAny_call_entry F.slot_tuple_iterator_next hit.typeIs F.entry_tuple_iterator_next ?_ (F.args_tuple_iterator_next_1 _))))
 show wpAny _ _ (field (.ref it) 0 >>= _) _ _ s
 refine wpAny_bind (wpAny_field ho hd (x := .ref t) rfl ?_)
 show wpAny _ _ (if (Value.ref t == Value.none) = true then _ else _) _ _ s
 rw [if_neg (show ¬ ((Value.ref t == Value.none) = true) from Bool.false_ne_true)]
 show wpAny _ _ (field (.ref it) 1 >>= _) _ _ s
 refine wpAny_bind (wpAny_field ho hd (x := .int i 0) rfl ?_)
 show wpAny _ _ (seqItems? (.ref t) >>= _) _ _ s
 refine wpAny_bind (wpAny_seqItems hol hdl ?_)
 simp only [Int.toNat_natCast, hx]
 refine wpAny_bind (wpAny_setField ho hd (by simp) (wpAny_pure ⟨x, rfl, wpAny_pure (hQ _ ?_ (Heap.SameBut.update ..))⟩))
 exact ⟨_, Heap.get?_update_self _ ho (Obj.isFreed_of_fields (Obj.data_mapFields hd _)), (Obj.cls_mapFields ..).trans hc, by
   rw [Obj.data_mapFields hd]; simp [rawInt]⟩
theorem stop_mt {Q : Option Value -> Shared -> Prop} (hh : A.handled = none) (hit : s.heap.IsTupleIter it t i) (ht : MtAt s.heap t items) (hx : items[i]? = none)
   (hQ : ∀ h', Heap.ExtBut it s.heap h' -> Q none { s with heap := h' }) : wpAny (model prog w) A (pyNext (.ref it)) Q E s := by
 obtain ⟨o, ho, hc, hd⟩ := id hit
 obtain ⟨ol, hol, _, nl, hdl⟩ := ht
 unfold pyNext
 refine wpAny_bind (wpAny_attempt (wpAny_callSpecial?_slot (name := oS "__next__") hit.typeIs F.slot_tuple_iterator_next
   (wpAny_call_entry F.slot_tuple_iterator_next hit.typeIs F.entry_tuple_iterator_next ?_ (F.args_tuple_iterator_next_1 _))))
 show wpAny _ _ (field (.ref it) 0 >>= _) _ _ s
 refine wpAny_bind (wpAny_field ho hd (x := .ref t) rfl ?_)
 show wpAny _ _ (if (Value.ref t == Value.none) = true then _ else _) _ _ s
 rw [if_neg (show ¬ ((Value.ref t == Value.none) = true) from Bool.false_ne_true)]
 show wpAny _ _ (field (.ref it) 1 >>= _) _ _ s
 refine wpAny_bind (wpAny_field ho hd (x := .int i 0) rfl ?_)
 show wpAny _ _ (seqItems? (.ref t) >>= _) _ _ s
 refine wpAny_bind (wpAny_seqItems hol hdl ?_)
 simp only [Int.toNat_natCast, hx]
 refine wpAny_bind (wpAny_rule (wpAny_bind (wpAny_setField ho hd (by simp) ?_)))
 show wpAny _ _ (newExc (.type "StopIteration") [] >>= _) _ _ _
 refine wpAny_bind ?_
 simp only [newExc, newTuple]
 refine wpAny_bind (wpAny_newObj_type ?_ (by size_fits))
 refine wpAny_bind (m := firstArgMember _ _) (wpAny_of_eq (a := Value.none) (by first | rfl | (simp only [firstArgMember]; rfl)) ?_)
 refine wpAny_newObj_type ?_ (by size_fits)
 simp only [raiseNew]
 refine wpAny_bind (wpAny_handled ?_)
 first | rw [show A.in1.handled = none from hh] | rw [hh]
 refine wpAny_bind (wpAny_pure (wpAny_throw ?_))
 refine wpAny_bind (wpAny_isInstance (T := "StopIteration") (b := true) ⟨_, Heap.get?_push_size _ rfl, rfl⟩ isSubtype_stop ?_)
 exact wpAny_pure (hQ _ (((Heap.SameBut.update ..).extBut.push _).push _))
theorem unpack_mt {a b c : Value} {Q : List Value -> Shared -> Prop} (hh : A.handled = none) (X : (KR P).In s.heap) (ht : MtAt s.heap t #[a, b, c]) (hQ : ∀ h', Heap.ExtBut s.heap.objs.size s.heap h' -> Q [a, b, c] { s with heap := h' }) :
   wpAny (model prog w) A (unpackItems (.ref t) 3 none) Q E s := by
 have hlt : t ≠ s.heap.objs.size := by obtain ⟨o, ho, _⟩ := ht; exact Nat.ne_of_lt (Heap.lt_size ho)
 have L1 := mt_iter (M := model prog w) X ht
 unfold unpackItems
 refine wpAny_bind ?_
 unfold notIterableAtAll
 refine wpAny_bind (L1.here ?_)
 refine wpAny_pure ?_
 simp only [Bool.false_eq_true, if_false]
 refine wpAny_bind (wpAny_holding (pyIter_mt X ht ?_))
 have ht0 := ht.push { cls := .type "tuple_iterator", data := .fields #[.ref t, .int 0 0] }
 refine wpAny_bind (wpAny_holding ?_)
 show wpAny _ _ (pyNext (.ref s.heap.objs.size) >>= _) _ _ _
 refine wpAny_bind (next_mt (i := 0) (x := a) ⟨_, Heap.get?_push_size _ rfl, rfl, rfl⟩ ht0 rfl fun h₁ hit₁ hs₁ => ?_)
 have ht1 := ht0.ext hs₁.extBut hlt
 dsimp only
 refine wpAny_bind (wpAny_holding ?_)
 show wpAny _ _ (pyNext (.ref s.heap.objs.size) >>= _) _ _ _
 refine wpAny_bind (next_mt (i := 1) (x := b) hit₁ ht1 rfl fun h₂ hit₂ hs₂ => ?_)
 have ht2 := ht1.ext hs₂.extBut hlt
 dsimp only
 refine wpAny_bind (wpAny_holding ?_)
 show wpAny _ _ (pyNext (.ref s.heap.objs.size) >>= _) _ _ _
 refine wpAny_bind (next_mt (i := 2) (x := c) hit₂ ht2 rfl fun h₃ hit₃ hs₃ => ?_)
 have ht3 := ht2.ext hs₃.extBut hlt
 dsimp only
 refine wpAny_bind (wpAny_holding ?_)
 show wpAny _ _ (pure []) _ _ _
 refine wpAny_pure (wpAny_pure (wpAny_pure (wpAny_pure ?_)))
 rw [if_neg (by simp)]
 refine wpAny_bind (wpAny_holding (stop_mt hh hit₃ ht3 rfl fun h₄ he => ?_))
 simp only [Option.isSome_none, Bool.false_eq_true, if_false]
 exact wpAny_pure (hQ h₄ fun b o hb e => he b o hb (hs₃.extBut b o hb (hs₂.extBut b o hb (hs₁.extBut b o hb (Heap.get?_push_of_some _ e)))))
end
section
variable {prog : Program} {w : World} {A : Around} {E : Value -> Shared -> Prop} {s : Shared} {P : Params} {t : Addr} {env : Env} {h₀ : Heap} {L : Addr} {m : Str -> Option Value} {news : List (Addr × Obj)} {a b c : Value}
theorem unpackM {elts : List Expr} {k} {pos : Pos} {Q : Unit -> Shared -> Prop} (F : Fr h₀ L s.heap m) (N : News h₀ L s.heap news) (X : (KR P).In h₀) (ht : MtAt s.heap t #[a, b, c]) (hh : A.handled = none) (hn : (assignEach elts env).length = 3) (hstar : (assignEach elts env).findIdx? (·.1) = none)
   (h : ∀ h', Fr h₀ L h' m -> News h₀ L h' news -> wpAny (model prog w) A (assignInOrder ((assignEach elts env).map (·.2)) [a, b, c]) Q E { s with heap := h' }) :
   wpAny (model prog w) A (assign (.Tuple elts k pos) env (.ref t)) Q E s := by
 rw [arm_assign_Tuple]
 refine wpAny_bind (wpAny_standAt ?_)
 unfold unpack
 rw [hn, hstar]
 exact wpAny_bind (wpAny_holding (unpack_mt hh (X.keeps F.keep) ht fun h' he => h h' (F.extBut he (Nat.le_refl _)) (N.extBut he (Nat.le_refl _))))
theorem mt_base {vs : List Value} {dd : Addr} (F : Fr h₀ L s.heap m) (e : h₀.get? t = some (matchO vs dd)) : MtAt s.heap t vs.toArray := ⟨_, F.keep _ _ e, rfl, _, rfl⟩
theorem mt_news {vs : List Value} {dd : Addr} (N : News h₀ L s.heap news) (e : (t, matchO vs dd) ∈ news) : MtAt s.heap t vs.toArray := ⟨_, (N _ e).1, rfl, _, rfl⟩
end
end Mine
end
noncomputable section
example : True := by w_top off; trivial
namespace Mine
section
variable {prog : Program} {w : World} {A : Around} {E : Value -> Shared -> Prop} {s : Shared} {h₀ : Heap} {L : Addr} {m : Str -> Option Value} {news rest : List (Addr × Obj)}
theorem sort_small {a : Addr} {vs : List Value} {n : Nat} {P : Fin -> Shared -> Prop} (ho : s.heap.get? a = some (seqObj "list" vs.toArray n)) (h2 : vs.length < 2)
   (h : P (.done (.ret .none)) { s with heap := sortedHeap s.heap a vs vs.toArray }) : wpAny (model prog w) A (Builtin.«list.sort» ⟨[.ref a], []⟩) P E s := by
 rw [list_sort_plain]
 have ha : a < s.heap.objs.size := Heap.lt_size ho
 refine wpAny_bind (listItems_at ho rfl ?_)
 refine wpAny_bind (listUpdate_at ho rfl ?_ (by rw [List.size_toArray, sizeLine_eq]; lia))
 obtain ⟨e1, ho1⟩ : ∃ e1, (s.heap.update a (Obj.mapSeq fun _ => #[])).get? a = some (seqObj "list" #[] e1) := ⟨_, get?_update_seq ho (fun _ => #[])⟩
 refine wpAny_bind (seqEpoch_at ho1 rfl ?_)
 refine wpAny_bind (wpAny_newTuple ?_)
 refine wpAny_bind (wpAny_newList ?_)
 refine wpAny_holding ?_
 have ho6 : (((s.heap.update a (Obj.mapSeq fun _ => #[])).push (seqObj "tuple" vs.toArray 0)).push (seqObj "list" #[] 0)).get? a = some (seqObj "list" #[] e1) := by
   rw [Heap.get?_push_ne _ _ _ (by rw [size_push', Heap.size_update]; exact Nat.ne_of_lt (Nat.lt_succ_of_lt ha)), Heap.get?_push_ne _ _ _ (by rw [Heap.size_update]; exact Nat.ne_of_lt ha)]
   exact ho1
 show wpAny (model prog w) A _ P E { s with heap := ((s.heap.update a (Obj.mapSeq fun _ => #[])).push (seqObj "tuple" vs.toArray 0)).push (seqObj "list" #[] 0) }
 dsimp only
 have hv : vs.toArray.size < 2 := by simpa using h2
 rw [if_pos hv, if_pos hv]
 refine wpAny_bind (wpAny_pure ?_)
 rw [StateT.run_pure]
 refine wpAny_bind (wpAny_pure ?_)
 dsimp only
 refine wpAny_bind (seqEpoch_at ho6 rfl ?_)
 have hout : (arrOf (SortSt.mk' general' (vs.toArray.zip vs.toArray) #[] 7 none)).map (·.2) = vs.toArray := by
   show (vs.toArray.zip vs.toArray).map (·.2) = vs.toArray
   match vs, h2 with
   | [], _ => simp
   | [x], _ => simp
   | x :: y :: l, h => simp at h; lia
 rw [hout]
 refine wpAny_bind (listUpdate_at ho6 rfl ?_ (hsz2 := by rw [List.size_toArray, sizeLine_eq]; lia))
 simp only [bne_self_eq_false, Bool.false_eq_true, if_false]
 exact wpAny_pure h
theorem sort_K {D : Addr} {vs : List Value} {n : Nat} {g : Obj -> List (Addr × Obj)} {Q : Value -> Shared -> Prop} (F : Fr h₀ L s.heap m) (N : News h₀ L s.heap news) (U : UpdF D (PySem.W.listOf vs.toArray n) news g) (h2 : vs.length < 2)
   (h : ∀ h' n', Fr h₀ L h' m -> News h₀ L h' (g (PySem.W.listOf vs.toArray n')) -> Q .none { s with heap := h' }) : wpAny (model prog w) A (call (.builtin "list.sort") [.ref D]) Q E s := by
 obtain ⟨pre, post, rfl, hg, a, b⟩ := U.split
 have z := N (D, PySem.W.listOf vs.toArray n) (List.mem_append_right _ (.head _))
 have ha : D < s.heap.objs.size := Heap.lt_size z.1
 refine wpAny_call_entry PyProof.Rows.slot_list_sort ⟨_, z.1, rfl⟩ PyProof.Rows.entry_list_sort (sort_small (vs := vs) (n := n) z.1 h2 ⟨.none, rfl, ?_⟩) (PyProof.Rows.args_list_sort _)
 have ho1 : (((s.heap.update D (Obj.mapSeq fun _ => #[])).push (seqObj "tuple" vs.toArray 0)).push (seqObj "list" #[] 0)).get? D = some (seqObj "list" #[] (if (#[] : Array Value).size == vs.toArray.size then n else n + 1)) := by
   rw [Heap.get?_push_ne _ _ _ (by rw [size_push', Heap.size_update]; exact Nat.ne_of_lt (Nat.lt_succ_of_lt ha)), Heap.get?_push_ne _ _ _ (by rw [Heap.size_update]; exact Nat.ne_of_lt ha)]
   exact get?_update_seq z.1 (fun _ => #[])
 have hD := get?_update_seq ho1 (fun _ => vs.toArray)
 have hk : ∀ b o, b ∉ [D] -> s.heap.get? b = some o -> (sortedHeap s.heap D vs vs.toArray).get? b = some o := by
   intro b o hb e
   have hb' : b ≠ D := by simpa using hb
   unfold sortedHeap
   rw [Heap.get?_update_ne _ _ _ _ hb']
   exact Heap.get?_push_of_some _ (Heap.get?_push_of_some _ (by rw [Heap.get?_update_ne _ _ _ _ hb']; exact e))
 obtain ⟨n', hD'⟩ : ∃ n', (sortedHeap s.heap D vs vs.toArray).get? D = some (seqObj "list" vs.toArray n') := ⟨_, hD⟩
 refine h _ n' (LCg.fr_but F hk (Ne.symm z.2.1) z.2.2) ?_
 rw [hg]
 intro p hp
 rcases List.mem_append.mp hp with hp | hp
 . exact LCg.news_but (fun q hq => N q (List.mem_append_left _ hq)) hk a p hp
 . rcases List.mem_cons.mp hp with rfl | hp
   . exact ⟨hD', z.2⟩
   . exact LCg.news_but (fun q hq => N q (List.mem_append_right _ (.tail _ hq))) hk b p hp
end
end Mine
end
noncomputable section
example : True := by w_top off; trivial
namespace Mine
noncomputable section
theorem slot_map_next : Slot "map" "__next__" "map.__next__" :=
 .of (owner := "map") (n := "__next__") (by rw [typeLookup_type, builtinLookup_eq_fast]; kernel_rfl) (by decide +kernel) (by decide +kernel) (by decide +kernel)
   (by first | exact .inl (by decide +kernel) | exact .inr (by decide +kernel)) (by rw [isSubtype_type]; kernel_rfl)
theorem slot_map_iter : Slot "map" "__iter__" "map.__iter__" :=
 .of (owner := "map") (n := "__iter__") (by rw [typeLookup_type, builtinLookup_eq_fast]; kernel_rfl) (by decide +kernel) (by decide +kernel) (by decide +kernel)
   (by first | exact .inl (by decide +kernel) | exact .inr (by decide +kernel)) (by rw [isSubtype_type]; kernel_rfl)
theorem entry_map_next : entryFor table "map.__next__" = some Builtin.«map.__next__» := entryFor_of_fast (by kernel_rfl)
theorem entry_map_iter : entryFor table "map.__iter__" = some Builtin.«dict_keyiterator.__iter__» :=
 entryFor_alias (id' := "dict_keyiterator.__iter__") (by kernel_rfl) rfl (by decide +kernel) (by kernel_rfl)
theorem args_map_next (a : Value) : argsOk "map.__next__" ⟨[a], []⟩ := by unfold argsOk; kernel_rfl
theorem args_map_iter (a : Value) : argsOk "map.__iter__" ⟨[a], []⟩ := by unfold argsOk; kernel_rfl
theorem map_no_len : typeLookup (.type "map") "__len__" = pure none := by rw [typeLookup_type, builtinLookup_eq_fast]; kernel_rfl
theorem map_no_hint : typeLookup (.type "map") "__length_hint__" = pure none := by rw [typeLookup_type, builtinLookup_eq_fast]; kernel_rfl
noncomputable abbrev mapO (T : Addr) (q : Addr) : Obj := { cls := .type "map", data := .fields #[.ref T, .ref q] }
section
variable {prog : Program} {w : World} {A : Around} {E : Value -> Shared -> Prop} {s : Shared} {M T it l q : Addr} {i : Nat} {items : Array Value}
theorem map_self {Q : Value -> Shared -> Prop} (hM : s.heap.get? M = some (mapO T q)) (h : Q (.ref M) s) : wpAny (model prog w) A (pyIter (.ref M)) Q E s := by
 refine wpAny_pyIter_slot (T := "map") ⟨_, hM, rfl⟩ slot_map_iter (wpAny_call_entry slot_map_iter ⟨_, hM, rfl⟩ entry_map_iter ?_ (args_map_iter _))
 show wpAny _ _ (ret (.ref M)) _ _ s
 exact wpAny_pure ⟨_, rfl, "map", _, ⟨_, hM, rfl⟩, slot_map_next.lookup, h⟩
theorem nextOf_item {x : Value} {Q : Value -> Shared -> Prop} (hit : s.heap.IsListIter it l i)
   (hl : s.heap.IsList l items) (hx : items[i]? = some x)
   (hQ : ∀ h', h'.IsListIter it l (i + 1) -> Heap.SameBut it s.heap h' -> Q x { s with heap := h' }) :
   wpAny (model prog w) A (PySem.Builtin.SmallTypes.nextOf (.ref it)) Q E s := by
 obtain ⟨o, ho, hc, hd⟩ := id hit
 obtain ⟨ol, hol, _, nl, hdl⟩ := hl
 unfold PySem.Builtin.SmallTypes.nextOf
 refine wpAny_bind (wpAny_callSpecial?_slot (name := oS "__next__") hit.typeIs slot_listiter_next
   (wpAny_call_entry slot_listiter_next hit.typeIs entry_listiter_next ?_ (args_listiter_next _)))
 show wpAny _ _ (field (.ref it) 0 >>= _) _ _ s
 refine wpAny_bind (wpAny_field ho hd (x := .ref l) rfl ?_)
 show wpAny _ _ (if (Value.ref l == Value.none) = true then _ else _) _ _ s
 rw [if_neg (show ¬ ((Value.ref l == Value.none) = true) from Bool.false_ne_true)]
 show wpAny _ _ (field (.ref it) 1 >>= _) _ _ s
 refine wpAny_bind (wpAny_field ho hd (x := .int i 0) rfl ?_)
 show wpAny _ _ (seqItems? (.ref l) >>= _) _ _ s
 refine wpAny_bind (wpAny_seqItems hol hdl ?_)
 simp only [Int.toNat_natCast, hx]
 refine wpAny_bind (wpAny_setField ho hd (by simp) (wpAny_pure ⟨x, rfl, wpAny_pure (hQ _ ?_ (Heap.SameBut.update ..))⟩))
 exact ⟨_, Heap.get?_update_self _ ho (Obj.isFreed_of_fields (Obj.data_mapFields hd _)), (Obj.cls_mapFields ..).trans hc, by
   rw [Obj.data_mapFields hd]; simp [rawInt]⟩
theorem nextOf_end {Q : Value -> Shared -> Prop} (hh : A.handled = none) (hit : s.heap.IsListIter it l i)
   (hl : s.heap.IsList l items) (hx : items[i]? = none)
   (hQ : ∀ h' e, Heap.ExtBut it s.heap h' -> ({ s with heap := h' } : Shared).TypeIs e "StopIteration" -> E e { s with heap := h' }) :
   wpAny (model prog w) A (PySem.Builtin.SmallTypes.nextOf (.ref it)) Q E s := by
 obtain ⟨o, ho, hc, hd⟩ := id hit
 obtain ⟨ol, hol, _, nl, hdl⟩ := hl
 unfold PySem.Builtin.SmallTypes.nextOf
 refine wpAny_bind (wpAny_callSpecial?_slot (name := oS "__next__") hit.typeIs slot_listiter_next
   (wpAny_call_entry slot_listiter_next hit.typeIs entry_listiter_next ?_ (args_listiter_next _)))
 show wpAny _ _ (field (.ref it) 0 >>= _) _ _ s
 refine wpAny_bind (wpAny_field ho hd (x := .ref l) rfl ?_)
 show wpAny _ _ (if (Value.ref l == Value.none) = true then _ else _) _ _ s
 rw [if_neg (show ¬ ((Value.ref l == Value.none) = true) from Bool.false_ne_true)]
 show wpAny _ _ (field (.ref it) 1 >>= _) _ _ s
 refine wpAny_bind (wpAny_field ho hd (x := .int i 0) rfl ?_)
 show wpAny _ _ (seqItems? (.ref l) >>= _) _ _ s
 refine wpAny_bind (wpAny_seqItems hol hdl ?_)
 simp only [Int.toNat_natCast, hx]
 refine wpAny_bind (wpAny_rule (wpAny_bind (wpAny_setField ho hd (by simp) ?_)))
 show wpAny _ _ (newExc (.type "StopIteration") [] >>= _) _ _ _
 refine wpAny_bind ?_
 simp only [newExc, newTuple]
 refine wpAny_bind (wpAny_newObj_type ?_ (by size_fits))
 refine wpAny_bind (m := firstArgMember _ _) (wpAny_of_eq (a := Value.none) (by first | rfl | (simp only [firstArgMember]; rfl)) ?_)
 refine wpAny_newObj_type ?_ (by size_fits)
 simp only [raiseNew]
 refine wpAny_bind (wpAny_handled ?_)
 rw [show A.in1.handled = none from hh]
 refine wpAny_bind (wpAny_pure (wpAny_throw ?_))
 exact hQ _ _ (((Heap.SameBut.update ..).extBut.push _).push _) ⟨_, Heap.get?_push_size _ rfl, rfl⟩
theorem next_map {x : Value} {Q : Option Value -> Shared -> Prop} (hM : s.heap.get? M = some (mapO T q)) (hT : s.heap.get? T = some (tup [.ref it])) (hMi : M ≠ it) (hit : s.heap.IsListIter it l i)
   (hl : s.heap.IsList l items) (hx : items[i]? = some x)
   (hQ : ∀ h' E', h'.IsListIter it l (i + 1) -> Heap.SameBut it s.heap h' -> wpAny (model prog w) A.in1 (call (.ref q) [x]) (fun v s' => Q (some v) s') E' { s with heap := h' }) :
   wpAny (model prog w) A (pyNext (.ref M)) Q E s := by
 unfold pyNext
 refine wpAny_bind (wpAny_attempt (wpAny_callSpecial?_slot (name := oS "__next__") (T := "map") ⟨_, hM, rfl⟩ slot_map_next
   (wpAny_call_entry slot_map_next ⟨_, hM, rfl⟩ entry_map_next ?_ (args_map_next _))))
 show wpAny _ _ (field (.ref M) 0 >>= _) _ _ s
 refine wpAny_bind (wpAny_field hM rfl (x := .ref T) rfl ?_)
 refine wpAny_bind (wpAny_seqItems hT rfl ?_)
 simp only [List.forIn_toArray, List.forIn_cons, List.forIn_nil]
 refine wpAny_bind (wpAny_bind (wpAny_bind (wpAny_holding (nextOf_item hit hl hx fun h' hit' hs => ?_))))
 refine wpAny_pure (wpAny_pure ?_)
 have hM' : h'.get? M = some (mapO T q) := (hs.2 _ hMi).trans hM
 refine wpAny_bind (wpAny_field hM' rfl (x := .ref q) rfl ?_)
 refine wpAny_bind (wpAny_holding (wpAny_mono (hQ h' _ hit' hs) (fun v s' hv => ?_) fun _ _ e => e))
 exact wpAny_bind (wpAny_letGo (wpAny_pure ⟨v, rfl, wpAny_pure hv⟩))
theorem next_map_end {Q : Option Value -> Shared -> Prop} (hh : A.handled = none) (hM : s.heap.get? M = some (mapO T q)) (hT : s.heap.get? T = some (tup [.ref it])) (hit : s.heap.IsListIter it l i)
   (hl : s.heap.IsList l items) (hx : items[i]? = none)
   (hQ : ∀ h', Heap.ExtBut it s.heap h' -> Q none { s with heap := h' }) :
   wpAny (model prog w) A (pyNext (.ref M)) Q E s := by
 unfold pyNext
 refine wpAny_bind (wpAny_attempt (wpAny_callSpecial?_slot (name := oS "__next__") (T := "map") ⟨_, hM, rfl⟩ slot_map_next
   (wpAny_call_entry slot_map_next ⟨_, hM, rfl⟩ entry_map_next ?_ (args_map_next _))))
 show wpAny _ _ (field (.ref M) 0 >>= _) _ _ s
 refine wpAny_bind (wpAny_field hM rfl (x := .ref T) rfl ?_)
 refine wpAny_bind (wpAny_seqItems hT rfl ?_)
 simp only [List.forIn_toArray, List.forIn_cons, List.forIn_nil]
 refine wpAny_bind (wpAny_bind (wpAny_bind (wpAny_holding (nextOf_end hh hit hl hx fun h' e he ht => ?_))))
 exact wpAny_bind (wpAny_isInstance (T := "StopIteration") (b := true) ht isSubtype_stop (wpAny_pure (hQ _ he)))
end
section
variable {prog : Program} {w : World} {A : Around} {E : Value -> Shared -> Prop} {s : Shared} {M T it l q S : Addr} {hh : Heap} {xs : List Value} {vss : List (List Value)}
def NewMt (hh : Heap) (it S : Addr) (h : Heap) (v : Value) (vs : List Value) : Prop := ∃ D dd, v = .ref D ∧ h.get? D = some (matchO vs dd) ∧ hh.get? D = none ∧ D ≠ it ∧ D ≠ S
def Trip (h : Heap) (v : Value) (vs : List Value) : Prop := ∃ t v0 v1 v2, v = .ref t ∧ vs = [v0, v1, v2] ∧ h.get? t = some (tup [v0, v1, v2])
structure Lp (hh : Heap) (M T it l q S : Addr) (xs : List Value) (vss : List (List Value)) (i : Nat) (h : Heap) : Prop where
 keep : Keeps hh h
 map : h.get? M = some (mapO T q)
 tup : h.get? T = some (tup [.ref it])
 iter : h.IsListIter it l i
 it0 : hh.get? it = none
 S0 : hh.get? S = none
 Mi : M ≠ it
 Ti : T ≠ it
 Ms : M ≠ S
 Ts : T ≠ S
 is : it ≠ S
 list : ∃ acc c, h.get? S = some (lst acc c) ∧ AllAt (NewMt hh it S) h acc (vss.take i)
end
section
variable (prog : Program) (w : World) (A : Around) (s : Shared) (M : Addr) (T : Addr) (it : Addr) (l : Addr) (q : Addr) (S : Addr) (hh : Heap) (xs : List Value) (vss : List (List Value)) (R : Result -> Shared -> Prop) (n0 : Nat)
def Qloop_map : Prop :=
 ∀ (hl : hh.get? l = some (lst xs n0)),
 ∀ (hx : AllAt Trip hh xs vss),
 ∀ (hcall : ∀ x vs (g : Heap) tk (Q E' : Value -> Shared -> Prop), Keeps hh g -> Trip hh x vs -> (∀ D dd h' tk', Keeps g h' -> g.get? D = none -> h'.get? D = some (matchO vs dd) -> Q (.ref D) { s with heap := h', toks := tk' }) ->
     wpAny (model prog w) A.in1.in1 (call (.ref q) [x]) Q E' { s with heap := g, toks := tk }),
 ∀ (hR : ∀ h' tk acc c, Keeps hh h' -> hh.get? S = none -> h'.get? S = some (lst acc c) -> AllAt (NewMt hh it S) h' acc vss -> R (.ok (.ret .none)) { s with heap := h', toks := tk }),
 ∀ (k i : Nat) (h : Heap) (tk : Nat), xs.length - i = k -> i ≤ xs.length -> Lp hh M T it l q S xs vss i h ->
   codeAny (model prog w) A (.builtin "list.extend.loop" ⟨[.ref S, .ref M, .none], []⟩) R { s with heap := h, toks := tk }
def Sloop_map : Prop :=
 ∀ (hd : A.in1.handled = none),
 ∀ (hn : xs.length ≤ 100),
 Qloop_map prog w A s M T it l q S hh xs vss R n0
end
abbrev Tloop_map : Type := (((Program × World) × (Around × Shared)) × ((Addr × Addr) × (Addr × Addr))) × (((Addr × Addr) × (Heap × (List Value))) × (((List (List Value)) × (Result -> Shared -> Prop)) × Nat))
def Ploop_map (p : Tloop_map) : Prop := Sloop_map p.1.1.1.1 p.1.1.1.2 p.1.1.2.1 p.1.1.2.2 p.1.2.1.1 p.1.2.1.2 p.1.2.2.1 p.1.2.2.2 p.2.1.1.1 p.2.1.1.2 p.2.1.2.1 p.2.1.2.2 p.2.2.1.1 p.2.2.1.2 p.2.2.2
theorem nloop_map : Nonempty Tloop_map := ⟨((((PW, Classical.choice neW), (callerA, {})), default), default)⟩
namespace Cloop_map
def pt := ep nloop_map Ploop_map
@[irreducible] def prog := pt.1.1.1.1
@[irreducible] def w := pt.1.1.1.2
@[irreducible] def A := pt.1.1.2.1
@[irreducible] def s := pt.1.1.2.2
@[irreducible] def M := pt.1.2.1.1
@[irreducible] def T := pt.1.2.1.2
@[irreducible] def it := pt.1.2.2.1
@[irreducible] def l := pt.1.2.2.2
@[irreducible] def q := pt.2.1.1.1
@[irreducible] def S := pt.2.1.1.2
@[irreducible] def hh := pt.2.1.2.1
@[irreducible] def xs := pt.2.1.2.2
@[irreducible] def vss := pt.2.2.1.1
@[irreducible] def R := pt.2.2.1.2
@[irreducible] def n0 := pt.2.2.2
theorem main : Sloop_map prog w A s M T it l q S hh xs vss R n0 := by
 unfold Sloop_map Qloop_map
 intro hd hn hl hx hcall hR
 intro k
 induction k with
 | zero =>
   intro i h tk hk hi Z
   have hin : i = xs.length := by lia
   refine codeAny_builtin F.entry_extend_loop ?_
   rw [Around.under_plainId F.plain_extend_loop _]
   show wpAny _ A.in1 (pyNext (.ref M) >>= _) _ _ _
   refine wpAny_bind (next_map_end hd Z.map Z.tup Z.iter ⟨_, Z.keep _ _ hl, rfl, _, rfl⟩ (by simp [hin]) fun h' he => ?_)
   obtain ⟨acc, c, hS, ha⟩ := Z.list
   have hit0 := Z.it0
   have ek : ∀ b o, b ≠ it -> h.get? b = some o -> h'.get? b = some o := fun b o hb e => he b o hb e
   refine wpAny_pure (hR h' tk acc c (fun b o e => ek b o (fun q => by rw [q, hit0] at e; cases e) (Z.keep b o e)) Z.S0 (ek _ _ (Ne.symm Z.is) hS) ?_)
   have : vss.take i = vss := List.take_of_length_le (by rw [← hx.1]; lia)
   rw [this] at ha
   exact ha.keep fun v vs => Exists.imp fun _ => Exists.imp fun _ => And.imp_right fun q => ⟨ek _ _ q.2.2.1 q.1, q.2⟩
 | succ k ih =>
   intro i h tk hk hi Z
   have hlt : i < xs.length := by lia
   obtain ⟨x, vs, hxi, hvi, htr⟩ := hx.get hlt
   refine codeAny_builtin F.entry_extend_loop ?_
   rw [Around.under_plainId F.plain_extend_loop _]
   show wpAny _ A.in1 (pyNext (.ref M) >>= _) _ _ _
   refine wpAny_bind (next_map (x := x) Z.map Z.tup Z.Mi Z.iter ⟨_, Z.keep _ _ hl, rfl, _, rfl⟩ (by simpa using hxi) fun h1 E' hit1 hs => ?_)
   have hit0 := Z.it0
   have hS0 := Z.S0
   have ek : ∀ b o, b ≠ it -> h.get? b = some o -> h1.get? b = some o := fun b o hb e => (hs.2 b hb).trans e
   have k1 : Keeps hh h1 := fun b o e => ek b o (fun q => by rw [q, hit0] at e; cases e) (Z.keep b o e)
   refine hcall x vs h1 tk _ E' k1 htr fun D dd h2 tk2 K2 D0 hD => ?_
   obtain ⟨acc, c, hS, ha⟩ := Z.list
   have hS2 : h2.get? S = some (lst acc c) := K2 _ _ (ek _ _ (Ne.symm Z.is) hS)
   show wpAny _ A.in1 (updateSeq S (·.push (.ref D)) >>= _) _ _ _
   have hal : acc.length = i := by rw [ha.1, List.length_take]; have := hx.1; lia
   refine wpAny_bind ?_
   refine wpAny_updateSeq hS2 rfl (wpAny_pure ⟨plainId_quiet F.plain_extend_loop _, ih (i + 1) _ _ (by lia) hlt ?_⟩) (by simp [sizeLine_eq]; lia) (by simp [sizeLine_eq]; lia)
   have oth : ∀ b o, b ≠ S -> h2.get? b = some o -> (h2.update S (Obj.mapSeq (·.push (Value.ref D)))).get? b = some o := fun b o hb e => (Heap.get?_update_other _ _ (Ne.symm hb)).trans e
   have tr : ∀ b o, b ≠ it -> b ≠ S -> h.get? b = some o -> (h2.update S (Obj.mapSeq (·.push (Value.ref D)))).get? b = some o := fun b o hb hb' e => oth b o hb' (K2 _ _ (ek _ _ hb e))
   obtain ⟨oi, hoi, hci, hdi⟩ := hit1
   have hDi : D ≠ it := fun q => by rw [q, hoi] at D0; cases D0
   have hDS : D ≠ S := fun q => by rw [q, ek _ _ (Ne.symm Z.is) hS] at D0; cases D0
   have hDh : hh.get? D = none := by
     cases e : hh.get? D with
     | none => rfl
     | some o => rw [k1 _ _ e] at D0; cases D0
   obtain ⟨c3, hS3⟩ : ∃ c3, (h2.update S (Obj.mapSeq (·.push (Value.ref D)))).get? S = some (seqObj "list" (acc.toArray.push (.ref D)) c3) := ⟨_, get?_update_seq hS2 (·.push (Value.ref D))⟩
   refine ⟨fun b o e => ?_, tr _ _ Z.Mi Z.Ms Z.map, tr _ _ Z.Ti Z.Ts Z.tup, ⟨oi, oth _ _ Z.is (K2 _ _ hoi), hci, hdi⟩, hit0, hS0, Z.Mi, Z.Ti, Z.Ms, Z.Ts, Z.is, ⟨acc ++ [.ref D], c3, ?_, ?_⟩⟩
   . exact tr b o (fun q => by rw [q, hit0] at e; cases e) (fun q => by rw [q, hS0] at e; cases e) (Z.keep b o e)
   . rw [hS3]; simp [seqObj]
   . have ha' : AllAt (NewMt hh it S) (h2.update S (Obj.mapSeq (·.push (Value.ref D)))) acc (vss.take i) := ha.keep fun v vs => Exists.imp fun _ => Exists.imp fun _ => And.imp_right fun q => ⟨tr _ _ q.2.2.1 q.2.2.2 q.1, q.2⟩
     have : vss.take (i + 1) = vss.take i ++ [vs] := by
       rw [List.take_add_one, hvi]; rfl
     rw [this]
     exact ha'.push ⟨D, dd, rfl, oth _ _ hDS hD, hDh, hDi, hDS⟩
end Cloop_map
theorem loop_map : ∀ {prog} {w} {A} {s} {M} {T} {it} {l} {q} {S} {hh} {xs} {vss} {R} (hd : A.in1.handled = none) (hn : xs.length ≤ 100) n0, Qloop_map prog w A s M T it l q S hh xs vss R n0 :=
 fun {prog} {w} {A} {s} {M} {T} {it} {l} {q} {S} {hh} {xs} {vss} {R} hd hn n0 => drink nloop_map Ploop_map (by with_unfolding_all exact Cloop_map.main) ((((prog, w), (A, s)), ((M, T), (it, l))), (((q, S), (hh, xs)), ((vss, R), n0))) hd hn
section
variable {prog : Program} {w : World} {A : Around} {E : Value -> Shared -> Prop} {s : Shared} {M T it l q S : Addr} {hh : Heap} {xs : List Value} {vss : List (List Value)}
end
section
variable (prog : Program) (w : World) (A : Around) (E : Value -> Shared -> Prop) (s : Shared) (M : Addr) (T : Addr) (it : Addr) (l : Addr) (q : Addr) (hh : Heap) (xs : List Value) (vss : List (List Value)) (Q : Value -> Shared -> Prop) (n0 : Nat)
def Qcall_list_map : Prop :=
 ∀ (hl : hh.get? l = some (lst xs n0)),
 ∀ (hx : AllAt Trip hh xs vss),
 ∀ (K : Keeps hh s.heap),
 ∀ (hM : s.heap.get? M = some (mapO T q)),
 ∀ (hT : s.heap.get? T = some (tup [.ref it])),
 ∀ (hit : s.heap.IsListIter it l 0),
 ∀ (hit0 : hh.get? it = none),
 ∀ (hMi : M ≠ it),
 ∀ (hTi : T ≠ it),
 ∀ (hcall : ∀ x vs (g : Heap) tk (Q E' : Value -> Shared -> Prop), Keeps hh g -> Trip hh x vs -> (∀ D dd h' tk', Keeps g h' -> g.get? D = none -> h'.get? D = some (matchO vs dd) -> Q (.ref D) { s with heap := h', toks := tk' }) ->
     wpAny (model prog w) A.in1.in1.in1 (call (.ref q) [x]) Q E' { s with heap := g, toks := tk }),
 ∀ (hQ : ∀ S h' tk acc c, Keeps hh h' -> hh.get? S = none -> h'.get? S = some (lst acc c) -> AllAt (NewMt hh it S) h' acc vss -> Q (.ref S) { s with heap := h', toks := tk }),
 wpAny (model prog w) A (call (.type "list") [.ref M]) Q E s
def Scall_list_map : Prop :=
 ∀ (hd : A.in1.in1.handled = none),
 ∀ (hn : xs.length ≤ 100),
 Qcall_list_map prog w A E s M T it l q hh xs vss Q n0
end
abbrev Tcall_list_map : Type := (((Program × World) × (Around × (Value -> Shared -> Prop))) × ((Shared × Addr) × (Addr × Addr))) × (((Addr × Addr) × (Heap × (List Value))) × (((List (List Value)) × (Value -> Shared -> Prop)) × Nat))
def Pcall_list_map (p : Tcall_list_map) : Prop := Scall_list_map p.1.1.1.1 p.1.1.1.2 p.1.1.2.1 p.1.1.2.2 p.1.2.1.1 p.1.2.1.2 p.1.2.2.1 p.1.2.2.2 p.2.1.1.1 p.2.1.1.2 p.2.1.2.1 p.2.1.2.2 p.2.2.1.1 p.2.2.1.2 p.2.2.2
theorem ncall_list_map : Nonempty Tcall_list_map := ⟨((((PW, Classical.choice neW), (callerA, default)), (({}, default), default)), default)⟩
namespace Ccall_list_map
def pt := ep ncall_list_map Pcall_list_map
@[irreducible] def prog := pt.1.1.1.1
@[irreducible] def w := pt.1.1.1.2
@[irreducible] def A := pt.1.1.2.1
@[irreducible] def E := pt.1.1.2.2
@[irreducible] def s := pt.1.2.1.1
@[irreducible] def M := pt.1.2.1.2
@[irreducible] def T := pt.1.2.2.1
@[irreducible] def it := pt.1.2.2.2
@[irreducible] def l := pt.2.1.1.1
@[irreducible] def q := pt.2.1.1.2
@[irreducible] def hh := pt.2.1.2.1
@[irreducible] def xs := pt.2.1.2.2
@[irreducible] def vss := pt.2.2.1.1
@[irreducible] def Q := pt.2.2.1.2
@[irreducible] def n0 := pt.2.2.2
theorem main : Scall_list_map prog w A E s M T it l q hh xs vss Q n0 := by
 unfold Scall_list_map Qcall_list_map
 intro hd hn hl hx K hM hT hit hit0 hMi hTi hcall hQ
 refine callType_codes (Q₁ := fun obj s₁ => obj = .ref s.heap.objs.size ∧ s₁ = { s with heap := s.heap.push { cls := .type "list", data := .seq #[] } }) F.called_list (F.typeCall_list_1 _) F.entry_list_init
   (code_list_new _ ⟨rfl, rfl⟩) fun obj s₁ h₁ => ?_
 obtain ⟨rfl, rfl⟩ := h₁
 have hS : (s.heap.push { cls := .type "list", data := .seq #[] }).get? s.heap.objs.size = some { cls := .type "list", data := .seq #[] } := Heap.get?_push_size _ rfl
 refine ⟨⟨_, hS, rfl⟩, F.args_list_init_2 _ _, ?_⟩
 have nS : ∀ b o, s.heap.get? b = some o -> b ≠ s.heap.objs.size := fun b o e => Nat.ne_of_lt (Heap.lt_size e)
 have hS0 : hh.get? s.heap.objs.size = none := by
   cases e : hh.get? s.heap.objs.size with
   | none => rfl
   | some o => exact absurd (Heap.lt_size (K _ _ e)) (Nat.lt_irrefl _)
 show wpAny _ A.in1.in1 (do let old ← Builtin.List.listItems (.ref s.heap.objs.size); Builtin.List.listUpdate (.ref s.heap.objs.size) (fun _ => #[]); letGo old.toList.reverse; Builtin.List.listExtendWith (.ref s.heap.objs.size) (.ref M) .none) _ _ _
 refine wpAny_bind ?_
 unfold Builtin.List.listItems
 refine wpAny_bind (wpAny_seqItems hS rfl (wpAny_pure ?_))
 show wpAny _ A.in1.in1 (updateSeq s.heap.objs.size (fun _ => #[]) >>= fun _ => letGo (#[] : Array Value).toList.reverse >>= fun _ => Builtin.List.listExtendWith (.ref s.heap.objs.size) (.ref M) .none) _ _ _
 refine wpAny_bind (wpAny_updateSeq hS rfl ?_)
 have hS₂ := Heap.get?_update_self (Obj.mapSeq (fun _ => (#[] : Array Value))) hS rfl
 have oth : ∀ b o, s.heap.get? b = some o -> ((s.heap.push { cls := .type "list", data := .seq #[] }).update s.heap.objs.size (Obj.mapSeq (fun _ => (#[] : Array Value)))).get? b = some o :=
   fun b o e => (Heap.get?_update_other _ _ (Ne.symm (nS _ _ e))).trans (Heap.get?_push_of_some _ e)
 refine wpAny_bind (wpAny_letGo ?_)
 unfold Builtin.List.listExtendWith
 refine wpAny_bind (wpAny_typeOf (T := "map") ⟨_, oth _ _ hM, rfl⟩ ?_)
 have h1 : Builtin.List.listSameRef (.ref s.heap.objs.size) (.ref M) = false := by simp [Builtin.List.listSameRef, Ne.symm (nS _ _ hM)]
 have h2 : (Value.type "map" == Value.type "list") = false := by decide
 have h3 : (Value.type "map" == Value.type "tuple") = false := by decide
 simp only [h1, h2, h3, Bool.or_false, Bool.false_eq_true, if_false]
 refine wpAny_bind (map_self (oth _ _ hM) ?_)
 refine wpAny_bind (wpAny_holding ?_)
 unfold Builtin.List.listLengthHint
 refine wpAny_bind (wpAny_specialOf (T := "map") ⟨_, oth _ _ hM, rfl⟩ map_no_len ?_)
 show wpAny _ _ (specialOf (Value.ref M) (oS "__length_hint__") >>= _) _ _ _
 refine wpAny_bind (wpAny_specialOf (T := "map") ⟨_, oth _ _ hM, rfl⟩ map_no_hint ?_)
 refine wpAny_pure ?_
 show wpAny _ _ (rule "list.extend.makes-room" >>= fun _ => Builtin.List.listTouch (.ref s.heap.objs.size) >>= fun _ =>
   again (.builtin "list.extend.loop" ⟨[.ref s.heap.objs.size, .ref M, .none], []⟩)) _ _ _
 refine wpAny_bind (wpAny_rule ?_)
 refine wpAny_bind ?_
 show wpAny _ _ (updateSeq s.heap.objs.size (·.push .none) >>= fun _ => updateSeq s.heap.objs.size (·.pop)) _ _ _
 refine wpAny_bind (wpAny_updateSeq hS₂ rfl ?_)
 have hS₃ := Heap.get?_update_self (Obj.mapSeq (·.push Value.none)) hS₂ rfl
 refine wpAny_updateSeq (hz := by seq_fits) hS₃ rfl ?_
 have hS₄ := get?_update_seq hS₃ (·.pop)
 generalize hg : ((((s.heap.push { cls := .type "list", data := .seq #[] }).update s.heap.objs.size (Obj.mapSeq (fun _ => (#[] : Array Value)))).update s.heap.objs.size (Obj.mapSeq (·.push Value.none))).update s.heap.objs.size (Obj.mapSeq (·.pop))) = g at hS₄ ⊢
 have oth2 : ∀ b o, s.heap.get? b = some o -> g.get? b = some o := by
   intro b o e
   rw [← hg]
   exact (Heap.get?_update_other _ _ (Ne.symm (nS _ _ e))).trans ((Heap.get?_update_other _ _ (Ne.symm (nS _ _ e))).trans (oth _ _ e))
 obtain ⟨oi, hoi, hci, hdi⟩ := id hit
 refine wpAny_pure ⟨plainId_quiet F.plain_extend_loop _, loop_map (l := l) (q := q) (T := T) (it := it) (xs := xs) (vss := vss) hd hn n0 hl hx hcall ?_ xs.length 0 g s.toks (by lia) (by lia) ?_⟩
 . intro h' tk acc c k' s0 hS' ha
   exact ⟨rfl, hQ _ _ _ acc c k' s0 hS' ha⟩
 . exact ⟨fun b o e => oth2 _ _ (K _ _ e), oth2 _ _ hM, oth2 _ _ hT, ⟨oi, oth2 _ _ hoi, hci, hdi⟩, hit0, hS0, hMi, hTi, nS _ _ hM, nS _ _ hT, nS _ _ hoi, [], _, by rw [hS₄]; rfl, AllAt.nil⟩
end Ccall_list_map
theorem call_list_map : ∀ {prog} {w} {A} {E} {s} {M} {T} {it} {l} {q} {hh} {xs} {vss} {Q} (hd : A.in1.in1.handled = none) (hn : xs.length ≤ 100) n0, Qcall_list_map prog w A E s M T it l q hh xs vss Q n0 :=
 fun {prog} {w} {A} {E} {s} {M} {T} {it} {l} {q} {hh} {xs} {vss} {Q} hd hn n0 => drink ncall_list_map Pcall_list_map (by with_unfolding_all exact Ccall_list_map.main) ((((prog, w), (A, E)), ((s, M), (T, it))), (((l, q), (hh, xs)), ((vss, Q), n0))) hd hn
section
variable {prog : Program} {w : World} {A : Around} {E : Value -> Shared -> Prop} {s : Shared} {M T it l q S : Addr} {hh : Heap} {xs : List Value} {vss : List (List Value)}
end
end
end Mine
end
noncomputable section
example : True := by w_top off; trivial
namespace Mine
theorem slot_map_init : Slot "map" "__init__" "object.__init__" :=
 .of (owner := "object") (n := "__init__") (by rw [typeLookup_type, builtinLookup_eq_fast]; kernel_rfl) (by decide +kernel) (by decide +kernel) (by decide +kernel)
   (by first | exact .inl (by decide +kernel) | exact .inr (by decide +kernel)) (by rw [isSubtype_type]; kernel_rfl)
theorem mro_map : mroOf (.type "map") = pure [.type "map", .type "object"] := by rw [mroOf_type]; kernel_rfl
theorem lookup_map_new : typeLookup (.type "map") "__new__" = pure (some (.builtin "map.__new__")) := by rw [typeLookup_type, builtinLookup_eq_fast]; kernel_rfl
theorem called_map : TypeCalled "map" "map.__new__" "object.__init__" :=
 ⟨by decide +kernel, by decide +kernel, ⟨_, _, mro_map⟩, madeBy_type mro_map lookup_map_new (by decide +kernel), by decide +kernel, by rw [isSubtype_type]; kernel_rfl, slot_map_init⟩
theorem typeCall_map_2 (a b : Value) : checkTypeCall "map" ⟨[a, b], []⟩ = pure () := by kernel_rfl
theorem newCall_map_2 (a b : Value) : checkBuiltinCall "map.__new__" ⟨[.type "map", a, b], []⟩ = pure () := by kernel_rfl
theorem entry_map_new : entryFor table "map.__new__" = some Builtin.«map.__new__» := entryFor_of_tree (by kernel_rfl)
theorem sub_map : isSubtype (.type "map") (.type "map") = pure true := by rw [isSubtype_type]; kernel_rfl
noncomputable abbrev mapH1 (h : Heap) (l : Addr) : Heap := h.push { cls := .type "list_iterator", data := .fields #[.ref l, .int 0 0] }
noncomputable abbrev mapH2 (h : Heap) (l : Addr) : Heap := (mapH1 h l).push { cls := .type "tuple", data := .seq #[.ref h.objs.size] }
noncomputable abbrev mapH3 (h : Heap) (q l : Addr) : Heap := (mapH2 h l).push { cls := .type "map", data := .fields #[.ref (mapH1 h l).objs.size, .ref q] }
theorem meets_map_new (q l : Addr) (xs : Array Value) :
   Meets (Builtin.«map.__new__» ⟨[.type "map", .ref q, .ref l], []⟩) (fun _ R s => s.heap.IsList l xs ∧ R (.ok (.ret (.ref (mapH2 s.heap l).objs.size))) { s with heap := mapH3 s.heap q l }) :=
 .of_wp fun prog w A R s h => by
   obtain ⟨hp, g, d, tk, os⟩ := s; obtain ⟨hl1, h⟩ := h
   have hsub := sub_map
   have hL1 : Heap.IsList (Shared.heap ⟨hp, g, d, tk, os⟩) l xs := hl1
   wp_walk using wpAny_pyIter_list hL1
   exact ⟨_, rfl, h⟩
theorem map_spec (w : World) (un : Nat) (gd : Option (List Code)) (cn : Str) (cs : Scope) (L : Addr) (a : Addr) (ccd : Value) (cl : List (Str × Addr)) (outer : List Env) (hh : Heap) (g : Array GenState) (d : Drawn) (t : Nat) (os : OsState) (Q E : Value -> Shared -> Prop) (X : (Mine.KR w.params).In hh)
 (q l : Addr) (vs : Array Value) (n : Nat) (hq : hh.get? q = some { cls := .type "method", dict := none, data := .fields #[.ref 89, .ref 135], slots := #[] }) (hl : hh.get? l = some { cls := .type "list", dict := none, data := .seq vs n, slots := #[] })
 (ret : ∀ M T it h' tk', Keeps hh h' -> hh.get? M = none -> hh.get? T = none -> hh.get? it = none -> M ≠ it -> T ≠ it -> M ≠ T -> h'.get? M = some (mapO T q) -> h'.get? T = some (tup [.ref it]) -> h'.IsListIter it l 0 -> Q (.ref M) ⟨h', g, d, tk', os⟩) :
 wpAny (model PW w) (ktrTop 306 un gd cn cs L a ccd cl outer) (call (.type "map") [.ref q, .ref l]) Q E ⟨hh, g, d, t, os⟩ := by
 have hL : Heap.IsList (Shared.heap ⟨hh, g, d, t, os⟩) l vs := ⟨_, hl, rfl, _, rfl⟩
 refine callType_new called_map (by decide) (typeCall_map_2 _ _) (newCall_map_2 _ _) (fun obj => PySem.F.args_object_init_3 obj _ _) entry_map_new (meets_map_new q l vs) ⟨hL, ?_⟩
 have z1 : (mapH1 hh l).objs.size = hh.objs.size + 1 := Heap.size_push ..
 have z2 : (mapH2 hh l).objs.size = hh.objs.size + 2 := by rw [Heap.size_push, z1]
 have g3 : (mapH3 hh q l).get? (mapH2 hh l).objs.size = some _ := Heap.get?_push_size _ rfl
 have g2 : (mapH3 hh q l).get? (mapH1 hh l).objs.size = some _ := Heap.get?_push_of_some _ (Heap.get?_push_size _ rfl)
 have g1 : (mapH3 hh q l).get? hh.objs.size = some _ := Heap.get?_push_of_some _ (Heap.get?_push_of_some _ (Heap.get?_push_size _ rfl))
 have n0 : ∀ b, hh.objs.size ≤ b -> hh.get? b = none := fun b hb => noneOf fun o e => absurd (Heap.lt_size e) (Nat.not_lt.mpr hb)
 exact ⟨⟨_, g3, rfl⟩, ret _ _ _ _ _ (fun b o e => Heap.get?_push_of_some _ (Heap.get?_push_of_some _ (Heap.get?_push_of_some _ e))) (n0 _ (by rw [z2]; lia)) (n0 _ (by rw [z1]; lia)) (n0 _ (Nat.le_refl _))
   (by rw [z2]; lia) (by rw [z1]; lia) (by rw [z1, z2]; lia) g3 g2 ⟨_, g1, rfl, rfl⟩⟩
end Mine
end
noncomputable section
example : True := by w_top off; trivial
namespace Mine
noncomputable section
local macro_rules | `(tactic| omega) => `(tactic| walk_at "o")
theorem AllAt.one {α : Type} {P : Heap -> Value -> α -> Prop} {h : Heap} {v : Value} {x : α} (hv : P h v x) : AllAt P h [v] [x] := AllAt.push (AllAt.nil (P := P) (h := h)) hv
theorem AllAt.two {α : Type} {P : Heap -> Value -> α -> Prop} {h : Heap} {v v' : Value} {x x' : α} (hv : P h v x) (hv' : P h v' x') : AllAt P h [v, v'] [x, x'] := AllAt.push (AllAt.one hv) hv'
theorem AllAt.inv1 {α : Type} {P : Heap -> Value -> α -> Prop} {h : Heap} {vs : List Value} {x : α} (H : AllAt P h vs [x]) : ∃ v, vs = [v] ∧ P h v x := by
 obtain ⟨l, k⟩ := H
 cases vs with
 | nil => cases l
 | cons v vs =>
   cases vs with
   | nil => exact ⟨v, rfl, k 0 _ _ rfl rfl⟩
   | cons a vs => simp at l
theorem AllAt.inv2 {α : Type} {P : Heap -> Value -> α -> Prop} {h : Heap} {vs : List Value} {x y : α} (H : AllAt P h vs [x, y]) : ∃ v w, vs = [v, w] ∧ P h v x ∧ P h w y := by
 obtain ⟨l, k⟩ := H
 cases vs with
 | nil => cases l
 | cons v vs =>
   cases vs with
   | nil => simp at l
   | cons a vs =>
     cases vs with
     | nil => exact ⟨v, a, rfl, k 0 _ _ rfl rfl, k 1 _ _ rfl rfl⟩
     | cons b vs => simp at l
section
variable {prog : Program} {w : World} {A : Around} {E : Value -> Shared -> Prop} {s : Shared}
theorem len2 {l : Addr} {a b : Value} {Q : Value -> Shared -> Prop} (hl : s.heap.IsList l [a, b].toArray)
   (h : Q (.int 2 (s.toks + 1)) { s with toks := s.toks + 1 + 1 }) : wpAny (model prog w) A (call (.builtin "len") [.ref l]) Q E s := len_lst hl (by simp) h
end
theorem B2J.keep {h h' : Heap} {kvs : List (Int × Value)} {bs : List Int} (B : B2J h kvs bs) (k : ∀ b o, h.get? b = some o -> h'.get? b = some o) : B2J h' kvs bs := fun c => (B c).imp id (Exists.imp fun _ => Exists.imp fun _ => Exists.imp fun _ => And.imp_right (And.imp_left (k _ _)))
local macro_rules | `(tactic| walk_at "call builtin:len") => `(tactic| (k_dflt (refine len2 (by walk_at "l") ?_)))
local macro_rules | `(tactic| walk_at "call ref") => `(tactic| ((with_reducible show wpAny _ _ (call (Value.ref _) [Value.ref _, Value.int _ _, Value.int _ _, Value.int _ _, Value.int _ _]) _ _ _); refine Halt.go ?_))
local macro_rules | `(tactic| walk_at "call builtin:list.sort") => `(tactic| refine Halt.go ?_)
local macro_rules | `(tactic| walk_at "assign Tuple") => `(tactic| (k_here; k_dflt (refine unpackM (by k_asm) (by k_asm) (by k_asm) (by first | exact mt_news (by k_asm) (by k_mem) | exact mt_base (by k_asm) (by assumption)) (by exact rfl) (by exact rfl) (by exact rfl) ?_); intro h' F' N'; (try k_sweep)))
theorem ne_of_get {h : Heap} {a b : Addr} {o : Obj} (e : h.get? a = some o) (n : h.get? b = none) : a ≠ b := fun q => by rw [q, n] at e; cases e
def NeD (news : List (Addr × Obj)) (D : Addr) : Prop := ∀ p ∈ news, p.1 ≠ D
theorem News.neD {h₀ h : Heap} {L D : Addr} {news : List (Addr × Obj)} (N : News h₀ L h news) (D0 : h.get? D = none) : NeD news D := fun p hp => ne_of_get (N p hp).1 D0
theorem NeD.l {news : List (Addr × Obj)} {a D : Addr} {o : Obj} (h : NeD news D) (m : (a, o) ∈ news) : @Ne Nat a D := h _ m
theorem NeD.r {news : List (Addr × Obj)} {a D : Addr} {o : Obj} (h : NeD news D) (m : (a, o) ∈ news) : @Ne Nat D a := Ne.symm (h _ m)
local macro_rules | `(tactic| k_ne) => `(tactic| (refine neN ?_; (try dsimp only); first | exact NeD.l (by assumption) (by k_mem) | exact NeD.r (by assumption) (by k_mem)))
local macro_rules | `(tactic| walk_at "call type:map") => `(tactic| (refine Halt.go ?_))
local macro_rules | `(tactic| walk_at "call type:list") => `(tactic| (refine Halt.go ?_))
def MtI (g : Heap) (sm dx S : Addr) (h : Heap) (v : Value) (x : Int × Int × Int) : Prop :=
 ∃ D dd ta tb tc, v = .ref D ∧ h.get? D = some (matchO [.int x.1 ta, .int x.2.1 tb, .int x.2.2 tc] dd) ∧ g.get? D = none ∧ @Ne Nat D sm ∧ @Ne Nat D dx ∧ @Ne Nat D S
theorem News.snoc {h₀ h : Heap} {L : Addr} {news : List (Addr × Obj)} {p q : Addr × Obj} (N : News h₀ L h (p :: news)) {news' : List (Addr × Obj)} (N' : News h₀ L h (q :: news')) : News h₀ L h (p :: q :: news) := fun r hr => by
 rcases List.mem_cons.mp hr with rfl | hr
 . exact N _ (.head _)
 . rcases List.mem_cons.mp hr with rfl | hr
   . exact N' _ (.head _)
   . exact N _ (.tail _ hr)
def GmbRet (h₀ : Heap) (L : Addr) (m : Str -> Option Value) (s : Shared) (w : World) (Q : Value -> Shared -> Prop) (sm dx ra rb d2 d4 d5 : Addr) (t0 t1 t2 t3 t4 t5 t6 t7 t8 t9 : Tok) (opv : Value) (bs : List (Int × Int × Int)) : Prop :=
 ∀ S acc c h' tk', Fr h₀ L h' m -> Keeps (hideAll s.heap [sm, dx]) h' -> h'.get? S = some (lst acc c) -> h'.get? sm = some (instObj 242 dx) -> h'.get? dx = some (smDict w.params t0 t1 t2 t3 t4 t5 t6 t7 t8 t9 ra rb d2 d4 d5 (.ref S) opv 10) ->
   (hideAll s.heap [sm, dx]).get? S = none -> @Ne Nat S sm -> @Ne Nat S dx -> AllAt (MtI (hideAll s.heap [sm, dx]) sm dx S) h' acc bs -> Q (.ref S) { s with heap := h', toks := tk' }
local macro_rules | `(tactic| walk_at "exec While Name cons nil") => `(tactic| refine Halt.go ?_)
local macro_rules | `(tactic| walk_at "exec For Tuple Name cons nil") => `(tactic| refine Halt.go ?_)
theorem nmL {h₀ h : Heap} {L a : Addr} {o : Obj} {l : List (Addr × Obj)} (_ : News h₀ L h ((a, o) :: l)) : ∃ b : Addr, b = a := ⟨a, rfl⟩
theorem nmH {h₀ h : Heap} {L : Addr} {l : List (Addr × Obj)} (_ : News h₀ L h l) : ∃ b : Heap, b = h := ⟨h, rfl⟩
theorem ncons {h₀ h : Heap} {L a : Addr} {o : Obj} {tl : List (Addr × Obj)} (e : h.get? a = some o ∧ a ≠ L ∧ h₀.get? a = none) (N : News h₀ L h tl) : News h₀ L h ((a, o) :: tl) := fun p hp => by
 rcases List.mem_cons.mp hp with rfl | hp
 . exact e
 . exact N p hp
theorem nnil {h₀ h : Heap} {L : Addr} : News h₀ L h [] := fun p hp => by cases hp
def PatK (bi bj x y u v : Int) (l0 l1 : List Int) : Prop := (bi = 0 ∧ bj = 0 ∧ l0 = [y] ∧ l1 = [v]) ∨ (bi = 1 ∧ bj = 0 ∧ l0 = [x] ∧ l1 = [v]) ∨ (bi = 1 ∧ bj = 1 ∧ l0 = [x] ∧ l1 = [u]) ∨ (bi = 0 ∧ bj = 1 ∧ l0 = [y] ∧ l1 = [u])
def BlkOk (x y u v : Int) (l0 l1 : List Int) (bs : List (Int × Int × Int)) : Prop := (bs = [(2, 2, 0)] ∧ l0 = [x, y] ∧ l1 = [u, v]) ∨ ∃ bi bj, bs = [(bi, bj, 1), (2, 2, 0)] ∧ PatK bi bj x y u v l0 l1
def Pat1 (x y u v : Int) (l0 l1 : List Int) (bi bj k : Int) : Prop :=
 (k = 0 ∧ l0 = [x, y] ∧ l1 = [u, v]) ∨ (k = 1 ∧ ((bi = 0 ∧ bj = 0 ∧ l0 = [y] ∧ l1 = [v] ∧ FlmIs [x, y] [u, v] 1 2 1 2 1 1 0) ∨ (bi = 1 ∧ bj = 0 ∧ l0 = [x] ∧ l1 = [v]) ∨ (bi = 1 ∧ bj = 1 ∧ l0 = [x] ∧ l1 = [u] ∧ FlmIs [x, y] [u, v] 0 1 0 1 0 0 0) ∨ (bi = 0 ∧ bj = 1 ∧ l0 = [y] ∧ l1 = [u])))
theorem pat1_of {x y u v : Int} {l0 l1 : List Int} (h : Pat x y u v l0 l1) : ∃ bi bj k, FlmIs [x, y] [u, v] 0 2 0 2 bi bj k ∧ Pat1 x y u v l0 l1 bi bj k := by
 rcases h with ⟨g0, e, e'⟩ | ⟨g0, g1, e, e'⟩ | ⟨g0, e, e'⟩ | ⟨g0, g1, e, e'⟩ | ⟨g0, e, e'⟩
 . exact ⟨_, _, _, g0, .inl ⟨rfl, e, e'⟩⟩
 . exact ⟨_, _, _, g0, .inr ⟨rfl, .inl ⟨rfl, rfl, e, e', g1⟩⟩⟩
 . exact ⟨_, _, _, g0, .inr ⟨rfl, .inr (.inl ⟨rfl, rfl, e, e'⟩)⟩⟩
 . exact ⟨_, _, _, g0, .inr ⟨rfl, .inr (.inr (.inl ⟨rfl, rfl, e, e', g1⟩))⟩⟩
 . exact ⟨_, _, _, g0, .inr ⟨rfl, .inr (.inr (.inr ⟨rfl, rfl, e, e'⟩))⟩⟩
def AftF (g : Heap) (L' : Addr) (s : Shared) (sm dx na : Addr) (odx : Obj) (x y u v : Int) (l0 l1 : List Int) (fl : Flow) (s' : Shared) : Prop :=
 fl = .next ∧ ∃ h' tk r c p q kk bi bj e1 e2 e3, s' = { s with heap := h', toks := tk } ∧ Fr g L' h' (over [(oS "non_adjacent", .ref na), (oS "k1", .int kk e3), (oS "j1", .int bj e2), (oS "i1", .int bi e1), (oS "la", .int 2 p), (oS "lb", .int 2 q), (oS "self", .ref sm)] r) ∧
   News g L' h' [(na, lst [] c), (sm, instObj 242 dx), (dx, odx)] ∧ ((kk = 0 ∧ l0 = [x, y] ∧ l1 = [u, v]) ∨ (kk = 1 ∧ PatK bi bj x y u v l0 l1))
local macro_rules | `(tactic| k_all) => `(tactic| assumption)
def AftW (g : Heap) (L' : Addr) (s : Shared) (sm dx ma : Addr) (odx : Obj) (x y u v : Int) (l0 l1 : List Int) (nm : Tok -> Tok -> List (Str × Value)) (fl : Flow) (s' : Shared) : Prop :=
 fl = .next ∧ ∃ h' tk r c ms xl p q, s' = { s with heap := h', toks := tk } ∧ Fr g L' h' (over (nm p q) r) ∧ News g L' h' ((ma, lst ms c) :: (sm, instObj 242 dx) :: (dx, odx) :: xl) ∧
   ((ms = [] ∧ xl = [] ∧ l0 = [x, y] ∧ l1 = [u, v]) ∨ ∃ X dd bi bj ta tb tc, ms = [.ref X] ∧ xl = [(X, matchO [.int bi ta, .int bj tb, .int 1 tc] dd)] ∧ PatK bi bj x y u v l0 l1 ∧ @Ne Nat X ma ∧ @Ne Nat X sm ∧ @Ne Nat X dx)
section
variable (w : World) (loose : List Str) (mean : ExcName -> Option Value) (mg mb : Str -> Option Value) (un : Nat) (gd : Option (List Code)) (cn : Str) (cs : Scope) (a : Addr) (ccd : Value) (cl : List (Str × Addr)) (outer : List Env) (A₀ : Around) (base h₀ : Heap) (L : Addr) (m : Str -> Option Value) (s : Shared) (Q E : Value -> Shared -> Prop) (sm dx ra rb d2 d4 d5 : Addr) (t0 t1 t2 t3 t4 t5 t6 t7 t8 t9 : Tok) (opv : Value) (na nb : Nat) (x y u v : Int) (tx ty tu tv : Tok) (o2 : Obj) (kvs : List (Int × Value)) (led : Bool) (l0 l1 : List Int)
def Qgmb_spec : Prop :=
 ∀ (N : News h₀ L s.heap [(sm, instObj 242 dx), (dx, smDict w.params t0 t1 t2 t3 t4 t5 t6 t7 t8 t9 ra rb d2 d4 d5 .none opv 10)]),
 ∀ (hsd : @LT.lt Nat _ dx sm),
 ∀ (hra : (hideAll s.heap [sm, dx]).get? ra = some (lst [.int x tx, .int y ty] na)),
 ∀ (hrb : (hideAll s.heap [sm, dx]).get? rb = some (lst [.int u tu, .int v tv] nb)),
 ∀ (hd2 : (hideAll s.heap [sm, dx]).get? d2 = some o2),
 ∀ (hkv : o2.IsDictOf (intKind PW w) kvs),
 ∀ (hd4 : (hideAll s.heap [sm, dx]).get? d4 = some (setO led)),
 ∀ (hB : B2J (hideAll s.heap [sm, dx]) kvs [u, v]),
 ∀ (hlo2 : (d2 == sysModules) = false),
 ∀ (hpat : Pat x y u v l0 l1),
 ∀ (hun : un < 470),
 ∀ (ret : ∀ bs, BlkOk x y u v l0 l1 bs -> GmbRet h₀ L m s w Q sm dx ra rb d2 d4 d5 t0 t1 t2 t3 t4 t5 t6 t7 t8 t9 opv bs),
 wpAny (model PW w) (ktrTop 305 un gd cn cs L a ccd cl outer) (call (.ref 203) [.ref sm]) Q E s
def Sgmb_spec : Prop :=
 ∀ (B : Below A₀ base outer h₀),
 ∀ (F : Fr h₀ L s.heap m),
 ∀ (X : (Mine.KR w.params).In h₀),
 ∀ (T : Top topProg loose mean mg mb h₀),
 ∀ (hk : cs.kind = .function),
 Qgmb_spec w un gd cn cs a ccd cl outer h₀ L m s Q E sm dx ra rb d2 d4 d5 t0 t1 t2 t3 t4 t5 t6 t7 t8 t9 opv na nb x y u v tx ty tu tv o2 kvs led l0 l1
end
abbrev Tgmb_spec : Type := (((((World × (List Str)) × ((ExcName -> Option Value) × (Str -> Option Value))) × (((Str -> Option Value) × Nat) × (Option (List Code)))) × (((Str × Scope) × (Addr × Value)) × (((List (Str × Addr)) × (List Env)) × Around))) × ((((Heap × Heap) × (Addr × (Str -> Option Value))) × ((Shared × (Value -> Shared -> Prop)) × (Value -> Shared -> Prop))) × (((Addr × Addr) × Addr) × ((Addr × Addr) × Addr)))) × (((((Addr × Tok) × (Tok × Tok)) × ((Tok × Tok) × Tok)) × (((Tok × Tok) × (Tok × Tok)) × ((Value × Nat) × Nat))) × ((((Int × Int) × (Int × Int)) × ((Tok × Tok) × Tok)) × (((Tok × Obj) × (List (Int × Value))) × ((Bool × (List Int)) × (List Int)))))
def Pgmb_spec (p : Tgmb_spec) : Prop := Sgmb_spec p.1.1.1.1.1.1 p.1.1.1.1.1.2 p.1.1.1.1.2.1 p.1.1.1.1.2.2 p.1.1.1.2.1.1 p.1.1.1.2.1.2 p.1.1.1.2.2 p.1.1.2.1.1.1 p.1.1.2.1.1.2 p.1.1.2.1.2.1 p.1.1.2.1.2.2 p.1.1.2.2.1.1 p.1.1.2.2.1.2 p.1.1.2.2.2 p.1.2.1.1.1.1 p.1.2.1.1.1.2 p.1.2.1.1.2.1 p.1.2.1.1.2.2 p.1.2.1.2.1.1 p.1.2.1.2.1.2 p.1.2.1.2.2 p.1.2.2.1.1.1 p.1.2.2.1.1.2 p.1.2.2.1.2 p.1.2.2.2.1.1 p.1.2.2.2.1.2 p.1.2.2.2.2 p.2.1.1.1.1.1 p.2.1.1.1.1.2 p.2.1.1.1.2.1 p.2.1.1.1.2.2 p.2.1.1.2.1.1 p.2.1.1.2.1.2 p.2.1.1.2.2 p.2.1.2.1.1.1 p.2.1.2.1.1.2 p.2.1.2.1.2.1 p.2.1.2.1.2.2 p.2.1.2.2.1.1 p.2.1.2.2.1.2 p.2.1.2.2.2 p.2.2.1.1.1.1 p.2.2.1.1.1.2 p.2.2.1.1.2.1 p.2.2.1.1.2.2 p.2.2.1.2.1.1 p.2.2.1.2.1.2 p.2.2.1.2.2 p.2.2.2.1.1.1 p.2.2.2.1.1.2 p.2.2.2.1.2 p.2.2.2.2.1.1 p.2.2.2.2.1.2 p.2.2.2.2.2
theorem ngmb_spec : Nonempty Tgmb_spec := ⟨((((((Classical.choice neW, default), default), default), (default, (default, callerA))), ((default, (({}, default), default)), default)), default)⟩
namespace Cgmb_spec
def pt := ep ngmb_spec Pgmb_spec
@[irreducible] def w := pt.1.1.1.1.1.1
@[irreducible] def loose := pt.1.1.1.1.1.2
@[irreducible] def mean := pt.1.1.1.1.2.1
@[irreducible] def mg := pt.1.1.1.1.2.2
@[irreducible] def mb := pt.1.1.1.2.1.1
@[irreducible] def un := pt.1.1.1.2.1.2
@[irreducible] def gd := pt.1.1.1.2.2
@[irreducible] def cn := pt.1.1.2.1.1.1
@[irreducible] def cs := pt.1.1.2.1.1.2
@[irreducible] def a := pt.1.1.2.1.2.1
@[irreducible] def ccd := pt.1.1.2.1.2.2
@[irreducible] def cl := pt.1.1.2.2.1.1
@[irreducible] def outer := pt.1.1.2.2.1.2
@[irreducible] def A₀ := pt.1.1.2.2.2
@[irreducible] def base := pt.1.2.1.1.1.1
@[irreducible] def h₀ := pt.1.2.1.1.1.2
@[irreducible] def L := pt.1.2.1.1.2.1
@[irreducible] def m := pt.1.2.1.1.2.2
@[irreducible] def s := pt.1.2.1.2.1.1
@[irreducible] def Q := pt.1.2.1.2.1.2
@[irreducible] def E := pt.1.2.1.2.2
@[irreducible] def sm := pt.1.2.2.1.1.1
@[irreducible] def dx := pt.1.2.2.1.1.2
@[irreducible] def ra := pt.1.2.2.1.2
@[irreducible] def rb := pt.1.2.2.2.1.1
@[irreducible] def d2 := pt.1.2.2.2.1.2
@[irreducible] def d4 := pt.1.2.2.2.2
@[irreducible] def d5 := pt.2.1.1.1.1.1
@[irreducible] def t0 := pt.2.1.1.1.1.2
@[irreducible] def t1 := pt.2.1.1.1.2.1
@[irreducible] def t2 := pt.2.1.1.1.2.2
@[irreducible] def t3 := pt.2.1.1.2.1.1
@[irreducible] def t4 := pt.2.1.1.2.1.2
@[irreducible] def t5 := pt.2.1.1.2.2
@[irreducible] def t6 := pt.2.1.2.1.1.1
@[irreducible] def t7 := pt.2.1.2.1.1.2
@[irreducible] def t8 := pt.2.1.2.1.2.1
@[irreducible] def t9 := pt.2.1.2.1.2.2
@[irreducible] def opv := pt.2.1.2.2.1.1
@[irreducible] def na := pt.2.1.2.2.1.2
@[irreducible] def nb := pt.2.1.2.2.2
@[irreducible] def x := pt.2.2.1.1.1.1
@[irreducible] def y := pt.2.2.1.1.1.2
@[irreducible] def u := pt.2.2.1.1.2.1
@[irreducible] def v := pt.2.2.1.1.2.2
@[irreducible] def tx := pt.2.2.1.2.1.1
@[irreducible] def ty := pt.2.2.1.2.1.2
@[irreducible] def tu := pt.2.2.1.2.2
@[irreducible] def tv := pt.2.2.2.1.1.1
@[irreducible] def o2 := pt.2.2.2.1.1.2
@[irreducible] def kvs := pt.2.2.2.1.2
@[irreducible] def led := pt.2.2.2.2.1.1
@[irreducible] def l0 := pt.2.2.2.2.1.2
@[irreducible] def l1 := pt.2.2.2.2.2
@[irreducible] def g : Heap := hideAll s.heap [sm, dx]
theorem hgc : hideAll s.heap [sm, dx] = g := by delta g; rfl
@[irreducible] def L' : Addr := s.heap.objs.size
theorem hLc : s.heap.objs.size = L' := by delta L'; rfl
noncomputable def sg0 : (P0 : Nat -> Nat -> Addr -> Addr -> Addr -> Addr -> Heap -> Nat -> Int -> Int -> Int -> Tok -> Tok -> Tok -> Prop) ×' (P1 : Addr -> Heap -> Nat -> (Str -> Option Value) -> Nat -> (List Value) -> (List (Addr × Obj)) -> Tok -> Tok -> Prop) ×' ((∀ x0 x1 x2 x3 x4 x5 x6 x7 x8 x9 x10 x11 x12 x13, P0 x0 x1 x2 x3 x4 x5 x6 x7 x8 x9 x10 x11 x12 x13) -> (∀ x0 x1 x2 x3 x4 x5 x6 x7 x8, P1 x0 x1 x2 x3 x4 x5 x6 x7 x8) -> Sgmb_spec w loose mean mg mb un gd cn cs a ccd cl outer A₀ base h₀ L m s Q E sm dx ra rb d2 d4 d5 t0 t1 t2 t3 t4 t5 t6 t7 t8 t9 opv na nb x y u v tx ty tu tv o2 kvs led l0 l1) := by
 apply PSigma.mk
 case snd =>
   apply PSigma.mk
   case snd =>
     intro hP0 hP1
     unfold Sgmb_spec
     intro B F X T hk N hsd hra hrb hd2 hkv hd4 hB hlo2 hpat hun ret
     refine wpAny_call ?_
     k_dflt (refine' enter_plainMC (g := g) (L' := L') (hg := ?hg) (hL := ?hL) ?k1 ?k2 ?kN ?k3 ?k5 ?kA ?kF ?kK ?k6 ?k7 ?k8 ?k9 ?kB ?_ ?c2 ?c3 ?c4 ?c5; (case kA | kF => exact rfl); (case kK => assumption); (case k1 | k2 => k_asm); (case kN => exact N); (case hg => exact hgc); (case hL => exact hLc); (case k3 | k5 => k_asm); (case k6 | k7 => k_is); (case k8 => ktr_room); (case k9 => exact BindsTo.of_eq rfl); (case kB => exact locs rfl); (case c2 | c3 | c4 => exact rfl); (case c5 => decide); intro h' hg F' N' B' X' T'; (try dsimp only); (try k_fold))
     have hg' : g = hideAll s.heap [sm, dx] := hg
     simp only [GmbRet] at ret
     rw [← hg'] at hra hrb hd2 hd4 hB ret
     have hgdx : g.get? dx = none := by rw [hg']; exact hideAll_none _ (by simp)
     replace F' : Fr g L' h' (fun y => List.lookup y [(oS "self", .ref sm)]) := by with_unfolding_all exact F'
     k_steps
     rename Fr g L' _ _ => F9
     rename News g L' _ _ => N9
     obtain ⟨ma, eM⟩ := nmL N9; subst eM
     obtain ⟨bi, bj, k, g0, hc⟩ := pat1_of hpat
     clear hpat
     refine Halt.mk ?_
     refine wpAny_mono (Q := fun fl s' => Halt (AftW g L' s sm dx ma (smDict w.params t0 t1 t2 t3 t4 t5 t6 t7 t8 t9 ra rb d2 d4 d5 .none opv 10) x y u v l0 l1 (fun p q => [(oS "matching_blocks", .ref ma), (oS "la", .int 2 p), (oS "lb", .int 2 q), (oS "self", .ref sm)]) fl s')) ?loop ?after fun _ _ e => e
     case loop =>
       walk_at "exec While"
       k_steps
       rename Fr g L' _ _ => F9
       rename News g L' _ _ => N9
       refine flm_spec w loose mean mg mb _ _ _ _ _ _ _ _ _ _ _ _ _ _ _ _ B' F9 X' T' rfl sm dx ra rb d2 d4 d5 t0 t1 t2 t3 t4 t5 t6 t7 t8 t9 .none opv 10 na nb _ _ [x, y] [u, v] o2 kvs led ?sm ?dx (F9.keep _ _ hra) (F9.keep _ _ hrb) (.cons _ _ (.cons _ _ .nil)) (.cons _ _ (.cons _ _ .nil)) (F9.keep _ _ hd2) hkv (F9.keep _ _ hd4) 0 2 0 2 _ _ _ _ (by decide) (by decide) (by decide) (by decide) (by decide) (by decide) (hB.keep F9.keep) hlo2 rfl rfl (fun f a b c e => (g0 f a b c e).2.2.2) (by show un + 3 < 480; omega) ?_
       case sm => exact (N9 (sm, instObj 242 dx) (by k_mem)).1
       case dx => exact (N9 (dx, _) (by k_mem)).1
       intro D dd h6 tk6 f ci cj ck u1 u2 u3 G1 K1 D0 hD hfl
       obtain ⟨rfl, rfl, rfl, -⟩ := g0 _ _ _ _ hfl
       have NN := News.after F9 N9 K1 D0 hD
       have neDD := News.neD N9 D0
       rename_i tA DA _ _ _ _ _ tB T0 _ _ qa _ _ _ _ _ _ _ _ _ _ _ _ _ _ _
       have nD : (@Ne Nat D ma ∧ @Ne Nat D qa) ∧ @Ne Nat D sm ∧ @Ne Nat D dx := ⟨⟨(neDD (ma, _) (by k_mem)).symm, (neDD (qa, _) (by k_mem)).symm⟩, (neDD (sm, _) (by k_mem)).symm, (neDD (dx, _) (by k_mem)).symm⟩
       have oq : (@LT.lt Nat _ dx qa ∧ @LT.lt Nat _ sm qa) ∧ @LT.lt Nat _ qa ma := ⟨⟨by omega, by omega⟩, by omega⟩
       have NQ := ncons (NN (D, _) (by k_mem)) (ncons (NN (ma, _) (by k_mem)) (ncons (NN (qa, _) (by k_mem)) (ncons (NN (sm, _) (by k_mem)) (ncons (NN (dx, _) (by k_mem)) nnil))))
       clear N9 F9 K1 D0 hD hfl NN neDD
       try dsimp only
       revert hsd; revert oq; revert nD; revert NQ; revert hc; revert G1; revert T'; revert X'; revert B'; revert ret; revert hun; revert hlo2; revert hB; revert hd4; revert hkv; revert hd2; revert hrb; revert hra; revert N; revert hk; revert T; revert X; revert F; revert B
       exact hP0 tA tB qa ma D dd h6 tk6 ci cj ck u1 u2 u3
     case after =>
       have o1 : @LT.lt Nat _ dx ma ∧ @LT.lt Nat _ sm ma := ⟨by omega, by omega⟩
       clear N9 F9 hc g0
       intro fl s1 hq
       have hq := Halt.go hq
       obtain ⟨rfl, h7, tk7, r, c, ms, xl, p, q, rfl, F8, N8, hms⟩ := hq
       have hml : ms.length < 2 := by
         rcases hms with ⟨rfl, -⟩ | ⟨X, dd, bi, bj, ta, tb, tc, rfl, -⟩
         . exact Nat.zero_lt_succ _
         . exact Nat.lt_succ_self _
       have hxl : ∀ p ∈ xl, p.1 ≠ ma := by
         rcases hms with ⟨-, rfl, -⟩ | ⟨X, dd, bi, bj, ta, tb, tc, -, rfl, -, nX1, -⟩
         . exact fun p hp => (by cases hp)
         . exact fun p hp => List.mem_singleton.mp hp ▸ nX1
       revert hsd; revert N; revert hgdx; revert hg'; revert o1; revert hxl; revert hml; revert hms; revert N8; revert F8; revert T'; revert X'; revert B'; revert ret; revert hun; revert hlo2; revert hB; revert hd4; revert hkv; revert hd2; revert hrb; revert hra; revert hk; revert T; revert X; revert F; revert B
       exact hP1 ma h7 tk7 r c ms xl p q
namespace K0_0
abbrev TT : Type := (((Nat × Nat) × (Addr × Addr)) × ((Addr × Addr) × Heap)) × (((Nat × Int) × (Int × Int)) × ((Tok × Tok) × Tok))
def PP (p : TT) : Prop := sg0.1 p.1.1.1.1 p.1.1.1.2 p.1.1.2.1 p.1.1.2.2 p.1.2.1.1 p.1.2.1.2 p.1.2.2 p.2.1.1.1 p.2.1.1.2 p.2.1.2.1 p.2.1.2.2 p.2.2.1.1 p.2.2.1.2 p.2.2.2
def pt := ep ⟨default⟩ PP
@[irreducible] def tA := pt.1.1.1.1
@[irreducible] def tB := pt.1.1.1.2
@[irreducible] def qa := pt.1.1.2.1
@[irreducible] def ma := pt.1.1.2.2
@[irreducible] def D := pt.1.2.1.1
@[irreducible] def dd := pt.1.2.1.2
@[irreducible] def h6 := pt.1.2.2
@[irreducible] def tk6 := pt.2.1.1.1
@[irreducible] def ci := pt.2.1.1.2
@[irreducible] def cj := pt.2.1.2.1
@[irreducible] def ck := pt.2.1.2.2
@[irreducible] def u1 := pt.2.2.1.1
@[irreducible] def u2 := pt.2.2.1.2
@[irreducible] def u3 := pt.2.2.2
theorem sg1 : sg0.1 tA tB qa ma D dd h6 tk6 ci cj ck u1 u2 u3 := by
 unfold sg0
 dsimp only
 intro B F X T hk N hra hrb hd2 hkv hd4 hB hlo2 hun ret B' X' T' G1 hc NQ nD oq hsd
 rcases hc with ⟨ek, hl0, hl1⟩ | ⟨ek, ⟨ei, ej, hl0, hl1, g1⟩ | ⟨ei, ej, hl0, hl1⟩ | ⟨ei, ej, hl0, hl1, g1⟩ | ⟨ei, ej, hl0, hl1⟩⟩
 . rw [ek] at NQ
   k_steps
   rename Fr g L' _ _ => F9
   rename News g L' _ _ => N9
   refine Halt.mk ?_
   exact ⟨rfl, _, _, _, _, [], [], _, _, rfl, (fr_over [(oS "matching_blocks", .ref ma), (oS "la", .int 2 _), (oS "lb", .int 2 _), (oS "self", .ref sm)] F9 (by with_unfolding_all exact ⟨rfl, rfl, rfl, rfl, trivial⟩)), ncons (N9 (ma, _) (by k_mem)) (ncons (N9 (sm, _) (by k_mem)) (ncons (N9 (dx, _) (by k_mem)) nnil)), .inl ⟨rfl, rfl, hl0, hl1⟩⟩
 . rw [ek, ei, ej] at NQ
   k_steps
   rename Fr g L' _ _ => F9
   rename News g L' _ _ => N9
   refine flm_spec w loose mean mg mb _ _ _ _ _ _ _ _ _ _ _ _ _ _ _ _ B' F9 X' T' rfl sm dx ra rb d2 d4 d5 t0 t1 t2 t3 t4 t5 t6 t7 t8 t9 .none opv 10 na nb _ _ [x, y] [u, v] o2 kvs led ?sm ?dx (F9.keep _ _ hra) (F9.keep _ _ hrb) (.cons _ _ (.cons _ _ .nil)) (.cons _ _ (.cons _ _ .nil)) (F9.keep _ _ hd2) hkv (F9.keep _ _ hd4) 1 2 1 2 _ _ _ _ (by decide) (by decide) (by decide) (by decide) (by decide) (by decide) (hB.keep F9.keep) hlo2 rfl rfl (fun f a b c e => (g1 f a b c e).2.2.2) (by show un + 3 < 480; omega) ?_
   case sm => exact (N9 (sm, instObj 242 dx) (by k_mem)).1
   case dx => exact (N9 (dx, _) (by k_mem)).1
   intro D2 dd2 h6' tk6' f' ci' cj' ck' v1 v2 v3 G1 K1 D0 hD hfl
   obtain ⟨rfl, rfl, rfl, -⟩ := g1 _ _ _ _ hfl
   have NN := News.after F9 N9 K1 D0 hD
   have neDD2 := News.neD N9 D0
   clear N9 F9 K1 D0 hD hfl
   try dsimp only
   k_steps
   rename Fr g L' _ _ => F9
   rename News g L' _ _ => N9
   refine Halt.mk ?_
   exact ⟨rfl, _, _, _, _, [.ref D], [(D, _)], _, _, rfl, (fr_over [(oS "matching_blocks", .ref ma), (oS "la", .int 2 _), (oS "lb", .int 2 _), (oS "self", .ref sm)] F9 (by with_unfolding_all exact ⟨rfl, rfl, rfl, rfl, trivial⟩)), ncons (N9 (ma, _) (by k_mem)) (ncons (N9 (sm, _) (by k_mem)) (ncons (N9 (dx, _) (by k_mem)) (ncons (N9 (D, _) (by k_mem)) nnil))), .inr ⟨D, dd, _, _, u1, u2, u3, rfl, rfl, .inl ⟨rfl, rfl, hl0, hl1⟩, nD.1.1, nD.2.1, nD.2.2⟩⟩
 . rw [ek, ei, ej] at NQ
   k_steps
   rename Fr g L' _ _ => F9
   rename News g L' _ _ => N9
   refine Halt.mk ?_
   exact ⟨rfl, _, _, _, _, [.ref D], [(D, _)], _, _, rfl, (fr_over [(oS "matching_blocks", .ref ma), (oS "la", .int 2 _), (oS "lb", .int 2 _), (oS "self", .ref sm)] F9 (by with_unfolding_all exact ⟨rfl, rfl, rfl, rfl, trivial⟩)), ncons (N9 (ma, _) (by k_mem)) (ncons (N9 (sm, _) (by k_mem)) (ncons (N9 (dx, _) (by k_mem)) (ncons (N9 (D, _) (by k_mem)) nnil))), .inr ⟨D, dd, _, _, u1, u2, u3, rfl, rfl, .inr (.inl ⟨rfl, rfl, hl0, hl1⟩), nD.1.1, nD.2.1, nD.2.2⟩⟩
 . rw [ek, ei, ej] at NQ
   k_steps
   rename Fr g L' _ _ => F9
   rename News g L' _ _ => N9
   refine flm_spec w loose mean mg mb _ _ _ _ _ _ _ _ _ _ _ _ _ _ _ _ B' F9 X' T' rfl sm dx ra rb d2 d4 d5 t0 t1 t2 t3 t4 t5 t6 t7 t8 t9 .none opv 10 na nb _ _ [x, y] [u, v] o2 kvs led ?sm ?dx (F9.keep _ _ hra) (F9.keep _ _ hrb) (.cons _ _ (.cons _ _ .nil)) (.cons _ _ (.cons _ _ .nil)) (F9.keep _ _ hd2) hkv (F9.keep _ _ hd4) 0 1 0 1 _ _ _ _ (by decide) (by decide) (by decide) (by decide) (by decide) (by decide) (hB.keep F9.keep) hlo2 rfl rfl (fun f a b c e => (g1 f a b c e).2.2.2) (by show un + 3 < 480; omega) ?_
   case sm => exact (N9 (sm, instObj 242 dx) (by k_mem)).1
   case dx => exact (N9 (dx, _) (by k_mem)).1
   intro D2 dd2 h6' tk6' f' ci' cj' ck' v1 v2 v3 G1 K1 D0 hD hfl
   obtain ⟨rfl, rfl, rfl, -⟩ := g1 _ _ _ _ hfl
   have NN := News.after F9 N9 K1 D0 hD
   have neDD2 := News.neD N9 D0
   clear N9 F9 K1 D0 hD hfl
   try dsimp only
   k_steps
   rename Fr g L' _ _ => F9
   rename News g L' _ _ => N9
   refine Halt.mk ?_
   exact ⟨rfl, _, _, _, _, [.ref D], [(D, _)], _, _, rfl, (fr_over [(oS "matching_blocks", .ref ma), (oS "la", .int 2 _), (oS "lb", .int 2 _), (oS "self", .ref sm)] F9 (by with_unfolding_all exact ⟨rfl, rfl, rfl, rfl, trivial⟩)), ncons (N9 (ma, _) (by k_mem)) (ncons (N9 (sm, _) (by k_mem)) (ncons (N9 (dx, _) (by k_mem)) (ncons (N9 (D, _) (by k_mem)) nnil))), .inr ⟨D, dd, _, _, u1, u2, u3, rfl, rfl, .inr (.inr (.inl ⟨rfl, rfl, hl0, hl1⟩)), nD.1.1, nD.2.1, nD.2.2⟩⟩
 . rw [ek, ei, ej] at NQ
   k_steps
   rename Fr g L' _ _ => F9
   rename News g L' _ _ => N9
   refine Halt.mk ?_
   exact ⟨rfl, _, _, _, _, [.ref D], [(D, _)], _, _, rfl, (fr_over [(oS "matching_blocks", .ref ma), (oS "la", .int 2 _), (oS "lb", .int 2 _), (oS "self", .ref sm)] F9 (by with_unfolding_all exact ⟨rfl, rfl, rfl, rfl, trivial⟩)), ncons (N9 (ma, _) (by k_mem)) (ncons (N9 (sm, _) (by k_mem)) (ncons (N9 (dx, _) (by k_mem)) (ncons (N9 (D, _) (by k_mem)) nnil))), .inr ⟨D, dd, _, _, u1, u2, u3, rfl, rfl, .inr (.inr (.inr ⟨rfl, rfl, hl0, hl1⟩)), nD.1.1, nD.2.1, nD.2.2⟩⟩
theorem fin : ∀ x, PP x := drink ⟨default⟩ PP (by with_unfolding_all exact sg1)
end K0_0
namespace K0_1
abbrev TT : Type := (((Addr × Heap) × Nat) × ((Str -> Option Value) × Nat)) × (((List Value) × (List (Addr × Obj))) × (Tok × Tok))
def PP (p : TT) : Prop := sg0.2.1 p.1.1.1.1 p.1.1.1.2 p.1.1.2 p.1.2.1 p.1.2.2 p.2.1.1 p.2.1.2 p.2.2.1 p.2.2.2
def pt := ep ⟨default⟩ PP
@[irreducible] def ma := pt.1.1.1.1
@[irreducible] def h7 := pt.1.1.1.2
@[irreducible] def tk7 := pt.1.1.2
@[irreducible] def r := pt.1.2.1
@[irreducible] def c := pt.1.2.2
@[irreducible] def ms := pt.2.1.1
@[irreducible] def xl := pt.2.1.2
@[irreducible] def p := pt.2.2.1
@[irreducible] def q := pt.2.2.2
noncomputable def sg2 : (P0 : Nat -> Nat -> Heap -> Nat -> Addr -> Prop) ×' (P1 : Addr -> Heap -> Nat -> (Str -> Option Value) -> Nat -> Tok -> Tok -> Int -> Int -> Int -> Tok -> Tok -> Tok -> Prop) ×' ((∀ x0 x1 x2 x3 x4, P0 x0 x1 x2 x3 x4) -> (∀ x0 x1 x2 x3 x4 x5 x6 x7 x8 x9 x10 x11 x12, P1 x0 x1 x2 x3 x4 x5 x6 x7 x8 x9 x10 x11 x12) -> sg0.2.1 ma h7 tk7 r c ms xl p q) := by
 apply PSigma.mk
 case snd =>
   apply PSigma.mk
   case snd =>
     intro hP0 hP1
     unfold sg0
     dsimp only
     intro B F X T hk hra hrb hd2 hkv hd4 hB hlo2 hun ret B' X' T' F8 N8 hms hml hxl o1 hg' hgdx N hsd
     try dsimp only
     k_steps
     refine Halt.mk ?_
     try dsimp only
     k_dflt (refine sort_K (by k_asm) (by k_asm) (by with_unfolding_all k_updF) (by assumption) ?_)
     intro h' n9 F' N'
     try dsimp only at N'
     try k_sweep
     k_steps
     rename Fr g L' _ _ => F9
     rename News g L' _ _ => N9
     obtain ⟨na, eM⟩ := nmL N9; subst eM
     refine Halt.mk ?_
     refine wpAny_mono (Q := fun fl s' => Halt (AftF g L' s sm dx na (smDict w.params t0 t1 t2 t3 t4 t5 t6 t7 t8 t9 ra rb d2 d4 d5 .none opv 10) x y u v l0 l1 fl s')) ?loop ?after fun _ _ e => e
     case loop =>
       rename_i lna
       revert o1; revert lna; revert hms; revert N9; revert F9; revert T'; revert X'; revert B'; revert ret; revert hun; revert hlo2; revert hB; revert hd4; revert hkv; revert hd2; revert hrb; revert hra; revert hsd; revert N; revert hk; revert T; revert X; revert F; revert B
       rename_i vv0 _ _ _ _ vv5
       exact hP0 n9 vv0 vv5 tk na
     case after =>
       have o2 : @LT.lt Nat _ dx na ∧ @LT.lt Nat _ sm na := ⟨by omega, by omega⟩
       clear N9 F9 hms hxl hml
       intro fl s2 hq
       have hq := Halt.go hq
       obtain ⟨rfl, h8, tk8, r, c, p, q, kk, bi, bj, e1, e2, e3, rfl, F9, N9, hk⟩ := hq
       revert hsd; revert N; revert hgdx; revert hg'; revert o2; revert hk; revert N9; revert F9; revert T'; revert X'; revert B'; revert ret; revert hun; revert hlo2; revert hB; revert hd4; revert hkv; revert hd2; revert hrb; revert hra; revert T; revert X; revert F; revert B
       exact hP1 na h8 tk8 r c p q kk bi bj e1 e2 e3
namespace K2_0
abbrev TT : Type := ((Nat × Nat) × Heap) × (Nat × Addr)
def PP (p : TT) : Prop := sg2.1 p.1.1.1 p.1.1.2 p.1.2 p.2.1 p.2.2
def pt := ep ⟨default⟩ PP
@[irreducible] def n9 := pt.1.1.1
@[irreducible] def vv0 := pt.1.1.2
@[irreducible] def vv5 := pt.1.2
@[irreducible] def tk := pt.2.1
@[irreducible] def na := pt.2.2
theorem sg3 : sg2.1 n9 vv0 vv5 tk na := by
 unfold sg2
 dsimp only
 intro B F X T hk N hsd hra hrb hd2 hkv hd4 hB hlo2 hun ret B' X' T' F9 N9 hms lna o1
 with_unfolding_all refine For_turns F9 ?_
 rcases hms with ⟨em, ex, hl⟩ | ⟨X, dd, bi, bj, ta, tb, tc, em, ex, hp, nX1, nX2, nX3⟩
 . rw [em, ex] at N9
   k_steps
   rename Fr g L' _ _ => F9
   rename News g L' _ _ => N9
   refine Halt.mk ?_
   exact ⟨rfl, _, _, _, _, _, _, _, _, _, _, _, _, rfl, (fr_over [(oS "non_adjacent", .ref na), (oS "k1", .int _ _), (oS "j1", .int _ _), (oS "i1", .int _ _), (oS "la", .int 2 _), (oS "lb", .int 2 _), (oS "self", .ref sm)] F9 (by with_unfolding_all exact ⟨rfl, rfl, rfl, rfl, rfl, rfl, rfl, trivial⟩)), ncons (N9 (na, _) (by k_mem)) (ncons (N9 (sm, _) (by k_mem)) (ncons (N9 (dx, _) (by k_mem)) nnil)), .inl ⟨rfl, hl⟩⟩
 . rw [em, ex] at N9
   rcases hp with ⟨rfl, rfl, hl⟩ | ⟨rfl, rfl, hl⟩ | ⟨rfl, rfl, hl⟩ | ⟨rfl, rfl, hl⟩
   . k_steps
     rename Fr g L' _ _ => F9
     rename News g L' _ _ => N9
     refine Halt.mk ?_
     exact ⟨rfl, _, _, _, _, _, _, _, _, _, _, _, _, rfl, (fr_over [(oS "non_adjacent", .ref na), (oS "k1", .int _ _), (oS "j1", .int _ _), (oS "i1", .int _ _), (oS "la", .int 2 _), (oS "lb", .int 2 _), (oS "self", .ref sm)] F9 (by with_unfolding_all exact ⟨rfl, rfl, rfl, rfl, rfl, rfl, rfl, trivial⟩)), ncons (N9 (na, _) (by k_mem)) (ncons (N9 (sm, _) (by k_mem)) (ncons (N9 (dx, _) (by k_mem)) nnil)), .inr ⟨rfl, .inl ⟨rfl, rfl, hl⟩⟩⟩
   . k_steps
     rename Fr g L' _ _ => F9
     rename News g L' _ _ => N9
     refine Halt.mk ?_
     exact ⟨rfl, _, _, _, _, _, _, _, _, _, _, _, _, rfl, (fr_over [(oS "non_adjacent", .ref na), (oS "k1", .int _ _), (oS "j1", .int _ _), (oS "i1", .int _ _), (oS "la", .int 2 _), (oS "lb", .int 2 _), (oS "self", .ref sm)] F9 (by with_unfolding_all exact ⟨rfl, rfl, rfl, rfl, rfl, rfl, rfl, trivial⟩)), ncons (N9 (na, _) (by k_mem)) (ncons (N9 (sm, _) (by k_mem)) (ncons (N9 (dx, _) (by k_mem)) nnil)), .inr ⟨rfl, .inr (.inl ⟨rfl, rfl, hl⟩)⟩⟩
   . k_steps
     rename Fr g L' _ _ => F9
     rename News g L' _ _ => N9
     refine Halt.mk ?_
     exact ⟨rfl, _, _, _, _, _, _, _, _, _, _, _, _, rfl, (fr_over [(oS "non_adjacent", .ref na), (oS "k1", .int _ _), (oS "j1", .int _ _), (oS "i1", .int _ _), (oS "la", .int 2 _), (oS "lb", .int 2 _), (oS "self", .ref sm)] F9 (by with_unfolding_all exact ⟨rfl, rfl, rfl, rfl, rfl, rfl, rfl, trivial⟩)), ncons (N9 (na, _) (by k_mem)) (ncons (N9 (sm, _) (by k_mem)) (ncons (N9 (dx, _) (by k_mem)) nnil)), .inr ⟨rfl, .inr (.inr (.inl ⟨rfl, rfl, hl⟩))⟩⟩
   . k_steps
     rename Fr g L' _ _ => F9
     rename News g L' _ _ => N9
     refine Halt.mk ?_
     exact ⟨rfl, _, _, _, _, _, _, _, _, _, _, _, _, rfl, (fr_over [(oS "non_adjacent", .ref na), (oS "k1", .int _ _), (oS "j1", .int _ _), (oS "i1", .int _ _), (oS "la", .int 2 _), (oS "lb", .int 2 _), (oS "self", .ref sm)] F9 (by with_unfolding_all exact ⟨rfl, rfl, rfl, rfl, rfl, rfl, rfl, trivial⟩)), ncons (N9 (na, _) (by k_mem)) (ncons (N9 (sm, _) (by k_mem)) (ncons (N9 (dx, _) (by k_mem)) nnil)), .inr ⟨rfl, .inr (.inr (.inr ⟨rfl, rfl, hl⟩))⟩⟩
theorem fin : ∀ x, PP x := drink ⟨default⟩ PP (by with_unfolding_all exact sg3)
end K2_0
namespace K2_1
abbrev TT : Type := (((Addr × Heap) × (Nat × (Str -> Option Value))) × ((Nat × Tok) × Tok)) × (((Int × Int) × Int) × ((Tok × Tok) × Tok))
def PP (p : TT) : Prop := sg2.2.1 p.1.1.1.1 p.1.1.1.2 p.1.1.2.1 p.1.1.2.2 p.1.2.1.1 p.1.2.1.2 p.1.2.2 p.2.1.1.1 p.2.1.1.2 p.2.1.2 p.2.2.1.1 p.2.2.1.2 p.2.2.2
def pt := ep ⟨default⟩ PP
@[irreducible] def na := pt.1.1.1.1
@[irreducible] def h8 := pt.1.1.1.2
@[irreducible] def tk8 := pt.1.1.2.1
@[irreducible] def r := pt.1.1.2.2
@[irreducible] def c := pt.1.2.1.1
@[irreducible] def p := pt.1.2.1.2
@[irreducible] def q := pt.1.2.2
@[irreducible] def kk := pt.2.1.1.1
@[irreducible] def bi := pt.2.1.1.2
@[irreducible] def bj := pt.2.1.2
@[irreducible] def e1 := pt.2.2.1.1
@[irreducible] def e2 := pt.2.2.1.2
@[irreducible] def e3 := pt.2.2.2
theorem sg4 : sg2.2.1 na h8 tk8 r c p q kk bi bj e1 e2 e3 := by
 unfold sg2
 dsimp only
 intro B F X T hra hrb hd2 hkv hd4 hB hlo2 hun ret B' X' T' F9 N9 hk o2 hg' hgdx N hsd
 try dsimp only
 rcases hk with ⟨ek0, hl⟩ | ⟨ek0, hp⟩
 . rw [ek0] at F9
   k_steps
   rename Fr g L' _ _ => F9
   rename News g L' _ _ => N9
   refine' map_spec w _ _ _ _ _ _ _ _ _ _ _ _ _ _ _ _ (X'.keeps F9.keep) _ _ ?vs ?n ?q ?l ?_
   case q => exact (N9 (_, _) (by k_mem)).1
   case l => exact (N9 (_, _) (by k_mem)).1
   intro M T it hm tkm Km M0 T0 it0 mi ti mt hM hT hit
   try dsimp only
   k_steps
   refine' call_list_map (xs := [.ref ?d]) (vss := [[?v0, ?v1, ?v2]]) rfl (Nat.le_of_ble_eq_true rfl) ?n0 ?hl ?hx Km hM hT hit it0 mi ti ?hcall ?_
   case hl => exact (N9 (_, PySem.W.listOf _ _) (by k_mem)).1
   case hx => exact AllAt.one ⟨_, _, _, _, rfl, rfl, (N9 (_, tup _) (by k_mem)).1⟩
   case hcall => exact fun x vs g tk Q E' kg ⟨t, v0, v1, v2, e, e2, ht⟩ r => by subst e; subst e2; exact make_spec B' (F9.keeps kg) X' T' rfl (by show un + 3 < 600; omega) t v0 v1 v2 (kg _ _ ht) _ (kg _ _ (N9 (_, methodObj _ _) (by k_mem)).1) r
   intro S h7 tk7 acc c K7 S0 hS hacc
   obtain ⟨_, rfl, D1, dd1, rfl, hD1, D10, -, DS1⟩ := hacc.inv1
   have F10 := F9.keeps K7
   have N10 := News.snoc (News.after F9 N9 K7 S0 hS) (News.after F9 N9 K7 D10 hD1)
   have neS := News.neD N9 S0
   have neM := News.neD N9 D10
   have DS1' : @Ne Nat D1 S := DS1
   clear F9 N9 hM hT hit K7 Km M0 T0 it0 mi ti mt
   try dsimp only
   k_steps
   rename Fr h₀ L _ _ => kF
   rename News h₀ L _ _ => kN
   rename Fr g L' _ _ => F11
   rename News g L' _ _ => N11
   exact ret _ (.inl ⟨rfl, hl⟩) S _ c _ _ kF F11.keep (kN _ (by k_mem)).1 (kN (sm, _) (by k_mem)).1 (kN (dx, _) (by k_mem)).1 (N11 (S, _) (by k_mem)).2.2 (by k_ne) (by k_ne) (AllAt.one ⟨D1, _, _, _, _, rfl, (kN (D1, _) (by k_mem)).1, (N11 (D1, _) (by k_mem)).2.2, by k_ne, by k_ne, DS1⟩)
 . rw [ek0] at F9
   k_steps
   rename Fr g L' _ _ => F9
   rename News g L' _ _ => N9
   refine' map_spec w _ _ _ _ _ _ _ _ _ _ _ _ _ _ _ _ (X'.keeps F9.keep) _ _ ?vsB ?nB ?qB ?lB ?_
   case qB => exact (N9 (_, _) (by k_mem)).1
   case lB => exact (N9 (_, _) (by k_mem)).1
   intro M T it hm tkm Km M0 T0 it0 mi ti mt hM hT hit
   try dsimp only
   k_steps
   refine' call_list_map (xs := [.ref ?dB, .ref ?eB]) (vss := [[?v0B, ?v1B, ?v2B], [?w0B, ?w1B, ?w2B]]) rfl (Nat.le_of_ble_eq_true rfl) ?n0B ?hlB ?hxB Km hM hT hit it0 mi ti ?hcallB ?_
   case hlB => exact (N9 (_, PySem.W.listOf _ _) (by k_mem)).1
   case hxB => exact AllAt.two ⟨_, _, _, _, rfl, rfl, (N9 (_, tup _) (by k_mem)).1⟩ ⟨_, _, _, _, rfl, rfl, (N9 (_, tup _) (by k_mem)).1⟩
   case hcallB => exact fun x vs g tk Q E' kg ⟨t, v0, v1, v2, e, e2, ht⟩ r => by subst e; subst e2; exact make_spec B' (F9.keeps kg) X' T' rfl (by show un + 3 < 600; omega) t v0 v1 v2 (kg _ _ ht) _ (kg _ _ (N9 (_, methodObj _ _) (by k_mem)).1) r
   intro S h7 tk7 acc c K7 S0 hS hacc
   obtain ⟨_, _, rfl, ⟨D1, dd1, rfl, hD1, D10, -, DS1⟩, ⟨D2, dd2, rfl, hD2, D20, -, DS2⟩⟩ := hacc.inv2
   have F10 := F9.keeps K7
   have N10 := News.snoc (News.snoc (News.after F9 N9 K7 S0 hS) (News.after F9 N9 K7 D10 hD1)) (News.after F9 N9 K7 D20 hD2)
   have neS := News.neD N9 S0
   have neM := News.neD N9 D10
   have neM2 := News.neD N9 D20
   have DS1' : @Ne Nat D1 S := DS1
   have DS2' : @Ne Nat D2 S := DS2
   clear F9 N9 hM hT hit K7 Km M0 T0 it0 mi ti mt
   try dsimp only
   k_steps
   rename Fr h₀ L _ _ => kF
   rename News h₀ L _ _ => kN
   rename Fr g L' _ _ => F11
   rename News g L' _ _ => N11
   exact ret _ (.inr ⟨bi, bj, rfl, hp⟩) S _ c _ _ kF F11.keep (kN _ (by k_mem)).1 (kN (sm, _) (by k_mem)).1 (kN (dx, _) (by k_mem)).1 (N11 (S, _) (by k_mem)).2.2 (by k_ne) (by k_ne) (AllAt.two ⟨D1, _, _, _, _, rfl, (kN (D1, _) (by k_mem)).1, (N11 (D1, _) (by k_mem)).2.2, by k_ne, by k_ne, DS1⟩ ⟨D2, _, _, _, _, rfl, (kN (D2, _) (by k_mem)).1, (N11 (D2, _) (by k_mem)).2.2, by k_ne, by k_ne, DS2⟩)
theorem fin : ∀ x, PP x := drink ⟨default⟩ PP (by with_unfolding_all exact sg4)
end K2_1
theorem fin : ∀ x, PP x := drink ⟨default⟩ PP (by with_unfolding_all exact sg2.2.2 (by intros; exact K2_0.fin (((_, _), _), (_, _))) (by intros; exact K2_1.fin ((((_, _), (_, _)), ((_, _), _)), (((_, _), _), ((_, _), _)))))
end K0_1
theorem main : Sgmb_spec w loose mean mg mb un gd cn cs a ccd cl outer A₀ base h₀ L m s Q E sm dx ra rb d2 d4 d5 t0 t1 t2 t3 t4 t5 t6 t7 t8 t9 opv na nb x y u v tx ty tu tv o2 kvs led l0 l1 := sg0.2.2 (by intros; exact K0_0.fin ((((_, _), (_, _)), ((_, _), _)), (((_, _), (_, _)), ((_, _), _)))) (by intros; exact K0_1.fin ((((_, _), _), (_, _)), ((_, _), (_, _))))
end Cgmb_spec
theorem gmb_spec : ∀ w loose mean mg mb un gd cn cs a ccd cl outer A₀ base h₀ L m s Q E (B : Below A₀ base outer h₀) (F : Fr h₀ L s.heap m) (X : (Mine.KR w.params).In h₀) (T : Top topProg loose mean mg mb h₀) (hk : cs.kind = .function) sm dx ra rb d2 d4 d5 t0 t1 t2 t3 t4 t5 t6 t7 t8 t9 opv na nb x y u v tx ty tu tv o2 kvs led l0 l1, Qgmb_spec w un gd cn cs a ccd cl outer h₀ L m s Q E sm dx ra rb d2 d4 d5 t0 t1 t2 t3 t4 t5 t6 t7 t8 t9 opv na nb x y u v tx ty tu tv o2 kvs led l0 l1 :=
 fun w loose mean mg mb un gd cn cs a ccd cl outer A₀ base h₀ L m s Q E B F X T hk sm dx ra rb d2 d4 d5 t0 t1 t2 t3 t4 t5 t6 t7 t8 t9 opv na nb x y u v tx ty tu tv o2 kvs led l0 l1 => drink ngmb_spec Pgmb_spec (by with_unfolding_all exact Cgmb_spec.main) ((((((w, loose), (mean, mg)), ((mb, un), gd)), (((cn, cs), (a, ccd)), ((cl, outer), A₀))), ((((base, h₀), (L, m)), ((s, Q), E)), (((sm, dx), ra), ((rb, d2), d4)))), (((((d5, t0), (t1, t2)), ((t3, t4), t5)), (((t6, t7), (t8, t9)), ((opv, na), nb))), ((((x, y), (u, v)), ((tx, ty), tu)), (((tv, o2), kvs), ((led, l0), l1))))) B F X T hk
end
end Mine
end
noncomputable section
example : True := by w_top off; trivial
namespace Mine
noncomputable section
local macro_rules | `(tactic| omega) => `(tactic| walk_at "o")
section
variable {K : Type} [DecidableEq K]
theorem valueAt_hit {n : K} {v : Value} {kvs : List (K × Value)} : valueAt ((n, v) :: kvs) n = some v := by simp [valueAt]
theorem valueAt_miss {n k : K} {v : Value} {kvs : List (K × Value)} {r : Option Value} (h : k ≠ n) (e : valueAt kvs k = r) : valueAt ((n, v) :: kvs) k = r := by
 rw [← e]; simp [valueAt, Ne.symm h]
theorem valueAt_hitE {k n : K} {v : Value} (e : k = n) : valueAt [(n, v)] k = some v := by rw [e]; exact valueAt_hit
theorem valueAt_nil {k : K} : valueAt ([] : List (K × Value)) k = none := rfl
theorem stored_one {n k : K} {v d : Value} (h : k ≠ n) : stored [(n, v)] k d = [(n, v), (k, d)] := by simp [stored, Ne.symm h]
end
local macro_rules | `(tactic| walk_at "call builtin:dict.setdefault") => `(tactic| refine Halt.go ?_)
section
variable {prog : Program} {w : World} {A : Around} {E : Value -> Shared -> Prop} {s : Shared} {h₀ : Heap} {L d : Addr} {m : Str -> Option Value} {news : List (Addr × Obj)} {g : Obj -> List (Addr × Obj)} {o : Obj} {k : Int} {kvs : List (Int × Value)} {t : Tok} {dflt v : Value} {Q : Value -> Shared -> Prop}
theorem sd_there (N : News h₀ L s.heap news) (hp : (d, o) ∈ news) (hd : o.IsDictOf (intKind prog w) kvs) (lo : (d == sysModules) = false) (hl : valueAt kvs k = some v) (hsz : kvs.length ≤ sizeLine) (h : Q v { s with toks := s.toks + 1 }) :
   wpAny (model prog w) A (call (.builtin "dict.setdefault") [.ref d, .int k t, dflt]) Q E s := kob_setdef_there (knd := intKind prog w) N hp hd lo (intKind_is _ _ _ _) (PySem.F.args_dict_setdefault_3 _ _ _) hl hsz h
theorem sd_new (F : Fr h₀ L s.heap m) (N : News h₀ L s.heap news) (U : UpdF d o news g) (hd : o.IsDictOf (intKind prog w) kvs) (lo : (d == sysModules) = false) (hl : valueAt kvs k = none) (hsz : kvs.length ≤ sizeLine)
   (h : ∀ h' o', Fr h₀ L h' m -> News h₀ L h' (g o') -> o'.IsDictOf (intKind prog w) (stored kvs k dflt) -> Q dflt { s with heap := h', toks := s.toks + 1 }) :
   wpAny (model prog w) A (call (.builtin "dict.setdefault") [.ref d, .int k t, dflt]) Q E s := kob_setdef_new (knd := intKind prog w) F N U hd lo (intKind_is _ _ _ _) (PySem.F.args_dict_setdefault_3 _ _ _) hl hsz h
end
def SmRet (h₀ : Heap) (L : Addr) (m : Str -> Option Value) (s : Shared) (w : World) (Q : Value -> Shared -> Prop) (ra rb : Addr) (u v : Int) (news : List (Addr × Obj)) : Prop :=
 ∀ sm dx d2 d4 d5 t0 t1 t2 t3 t4 t5 t6 t7 t8 t9 o2 kvs led h' tk', Fr h₀ L h' m -> News h₀ L h' ((sm, instObj 242 dx) :: (dx, smDict w.params t0 t1 t2 t3 t4 t5 t6 t7 t8 t9 ra rb d2 d4 d5 .none .none 10) :: news) ->
   AllLt dx news -> @LT.lt Nat _ dx sm -> (hideAll h' [sm, dx]).get? d2 = some o2 -> o2.IsDictOf (intKind PW w) kvs -> (hideAll h' [sm, dx]).get? d4 = some (setO led) -> B2J (hideAll h' [sm, dx]) kvs [u, v] -> (d2 == sysModules) = false ->
   Q (.ref sm) { s with heap := h', toks := tk' }
theorem news_cons {h₀ h : Heap} {L a : Addr} {o : Obj} {tl : List (Addr × Obj)} (e : h.get? a = some o ∧ a ≠ L ∧ h₀.get? a = none) (N : News h₀ L h tl) : News h₀ L h ((a, o) :: tl) := fun p hp => by
 rcases List.mem_cons.mp hp with rfl | hp
 . exact e
 . exact N p hp
theorem not_two {a b c : Addr} (h : @Ne Nat c a) (h' : @Ne Nat c b) : c ∉ [a, b] := by
 intro q
 simp only [List.mem_cons, List.not_mem_nil, or_false] at q
 rcases q with q | q
 . exact h q
 . exact h' q
theorem b2j_ne {h : Heap} {u v : Int} {l1 l2 : Addr} {t1 t2 : Tok} {n1 n2 : Nat} (huv : v ≠ u) (e1 : h.get? l1 = some (lst [.int 0 t1] n1)) (e2 : h.get? l2 = some (lst [.int 1 t2] n2)) : B2J h [(u, .ref l1), (v, .ref l2)] [u, v] := fun c => by
 by_cases h1 : c = u
 . subst h1
   refine .inr ⟨l1, _, n1, valueAt_hit, e1, ?_⟩
   have : idxs [c, v] c = [0] := by simp [idxs, List.range, List.range.loop, huv]
   rw [this]; exact .cons _ _ .nil
 . by_cases h2 : c = v
   . subst h2
     refine .inr ⟨l2, _, n2, valueAt_miss h1 valueAt_hit, e2, ?_⟩
     have : idxs [u, c] c = [1] := by simp [idxs, List.range, List.range.loop, Ne.symm h1]
     rw [this]; exact .cons _ _ .nil
   . refine .inl ⟨valueAt_miss h1 (valueAt_miss h2 valueAt_nil), ?_⟩
     simp [idxs, List.range, List.range.loop, Ne.symm h1, Ne.symm h2]
theorem b2j_eq {h : Heap} {u : Int} {l1 : Addr} {t1 t2 : Tok} {n1 : Nat} (e1 : h.get? l1 = some (lst [.int 0 t1, .int 1 t2] n1)) : B2J h [(u, .ref l1)] [u, u] := fun c => by
 by_cases h1 : c = u
 . subst h1
   refine .inr ⟨l1, _, n1, valueAt_hit, e1, ?_⟩
   have : idxs [c, c] c = [0, 1] := by simp [idxs, List.range, List.range.loop]
   rw [this]; exact .cons _ _ (.cons _ _ .nil)
 . refine .inl ⟨valueAt_miss h1 valueAt_nil, ?_⟩
   simp [idxs, List.range, List.range.loop, Ne.symm h1]
theorem not_sys {P : Params} {h₀ h : Heap} {L d : Addr} {o : Obj} {news : List (Addr × Obj)} (X : (KR P).In h₀) (N : News h₀ L h news) (m : (d, o) ∈ news) : (d == sysModules) = false := by
 have e : h₀.get? 1 = some (PySem.W.boot_o_1 P) := X (nat_lit 1) _ (by kernel_rfl)
 refine beq_eq_false_iff_ne.mpr fun q => ?_
 have z : h₀.get? d = none := (N _ m).2.2
 rw [show d = 1 from q, e] at z
 cases z
def StopM : Prop := True
local macro_rules | `(tactic| walk_at "call ref") => `(tactic| ((with_reducible rename Mine.StopM => hz); refine Halt.go ?_))
local macro_rules | `(tactic| walk_at "exec For Tuple Call cons nil") => `(tactic| refine Halt.go ?_)
section
variable (w : World) (loose : List Str) (mean : ExcName -> Option Value) (mg mb : Str -> Option Value) (un : Nat) (gd : Option (List Code)) (cn : Str) (cs : Scope) (a : Addr) (ccd : Value) (cl : List (Str × Addr)) (outer : List Env) (A₀ : Around) (base h₀ : Heap) (L : Addr) (m : Str -> Option Value) (s : Shared) (Q E : Value -> Shared -> Prop) (ra rb : Addr) (nb : Nat) (u v : Int) (tu tv : Tok) (tl : List (Addr × Obj))
def Qinit_spec : Prop :=
 ∀ (N : News h₀ L s.heap ((rb, lst [.int u tu, .int v tv] nb) :: tl)),
 ∀ (hrt : ∀ p ∈ tl, p.1 ≠ rb),
 ∀ (hun : un < 460),
 ∀ (ret : SmRet h₀ L m s w Q ra rb u v ((rb, lst [.int u tu, .int v tv] nb) :: tl)),
 wpAny (model PW w) (ktrTop 304 un gd cn cs L a ccd cl outer) (call (.ref 242) [.none, .ref ra, .ref rb]) Q E s
def Sinit_spec : Prop :=
 ∀ (B : Below A₀ base outer h₀),
 ∀ (F : Fr h₀ L s.heap m),
 ∀ (X : (Mine.KR w.params).In h₀),
 ∀ (T : Top topProg loose mean mg mb h₀),
 ∀ (hk : cs.kind = .function),
 Qinit_spec w un gd cn cs a ccd cl outer h₀ L m s Q E ra rb nb u v tu tv tl
end
abbrev Tinit_spec : Type := ((((World × (List Str)) × ((ExcName -> Option Value) × (Str -> Option Value))) × (((Str -> Option Value) × Nat) × ((Option (List Code)) × Str))) × (((Scope × Addr) × (Value × (List (Str × Addr)))) × (((List Env) × Around) × Heap))) × ((((Heap × Addr) × ((Str -> Option Value) × Shared)) × (((Value -> Shared -> Prop) × (Value -> Shared -> Prop)) × Addr)) × (((Addr × Nat) × (Int × Int)) × ((Tok × Tok) × (List (Addr × Obj)))))
def Pinit_spec (p : Tinit_spec) : Prop := Sinit_spec p.1.1.1.1.1 p.1.1.1.1.2 p.1.1.1.2.1 p.1.1.1.2.2 p.1.1.2.1.1 p.1.1.2.1.2 p.1.1.2.2.1 p.1.1.2.2.2 p.1.2.1.1.1 p.1.2.1.1.2 p.1.2.1.2.1 p.1.2.1.2.2 p.1.2.2.1.1 p.1.2.2.1.2 p.1.2.2.2 p.2.1.1.1.1 p.2.1.1.1.2 p.2.1.1.2.1 p.2.1.1.2.2 p.2.1.2.1.1 p.2.1.2.1.2 p.2.1.2.2 p.2.2.1.1.1 p.2.2.1.1.2 p.2.2.1.2.1 p.2.2.1.2.2 p.2.2.2.1.1 p.2.2.2.1.2 p.2.2.2.2
theorem ninit_spec : Nonempty Tinit_spec := ⟨(((((Classical.choice neW, default), default), default), (default, ((default, callerA), default))), (((default, (default, {})), default), default))⟩
namespace Cinit_spec
def pt := ep ninit_spec Pinit_spec
@[irreducible] def w := pt.1.1.1.1.1
@[irreducible] def loose := pt.1.1.1.1.2
@[irreducible] def mean := pt.1.1.1.2.1
@[irreducible] def mg := pt.1.1.1.2.2
@[irreducible] def mb := pt.1.1.2.1.1
@[irreducible] def un := pt.1.1.2.1.2
@[irreducible] def gd := pt.1.1.2.2.1
@[irreducible] def cn := pt.1.1.2.2.2
@[irreducible] def cs := pt.1.2.1.1.1
@[irreducible] def a := pt.1.2.1.1.2
@[irreducible] def ccd := pt.1.2.1.2.1
@[irreducible] def cl := pt.1.2.1.2.2
@[irreducible] def outer := pt.1.2.2.1.1
@[irreducible] def A₀ := pt.1.2.2.1.2
@[irreducible] def base := pt.1.2.2.2
@[irreducible] def h₀ := pt.2.1.1.1.1
@[irreducible] def L := pt.2.1.1.1.2
@[irreducible] def m := pt.2.1.1.2.1
@[irreducible] def s := pt.2.1.1.2.2
@[irreducible] def Q := pt.2.1.2.1.1
@[irreducible] def E := pt.2.1.2.1.2
@[irreducible] def ra := pt.2.1.2.2
@[irreducible] def rb := pt.2.2.1.1.1
@[irreducible] def nb := pt.2.2.1.1.2
@[irreducible] def u := pt.2.2.1.2.1
@[irreducible] def v := pt.2.2.1.2.2
@[irreducible] def tu := pt.2.2.2.1.1
@[irreducible] def tv := pt.2.2.2.1.2
@[irreducible] def tl := pt.2.2.2.2
noncomputable def sg0 : (P0 : Addr -> Addr -> Heap -> Heap -> Addr -> Heap -> Nat -> Heap -> Nat -> Heap -> Heap -> Nat -> Heap -> Heap -> Addr -> Heap -> Addr -> Heap -> Nat -> Heap -> Heap -> Nat -> Prop) ×' ((∀ x0 x1 x2 x3 x4 x5 x6 x7 x8 x9 x10 x11 x12 x13 x14 x15 x16 x17 x18 x19 x20 x21, P0 x0 x1 x2 x3 x4 x5 x6 x7 x8 x9 x10 x11 x12 x13 x14 x15 x16 x17 x18 x19 x20 x21) -> Sinit_spec w loose mean mg mb un gd cn cs a ccd cl outer A₀ base h₀ L m s Q E ra rb nb u v tu tv tl) := by
 apply PSigma.mk
 case snd =>
   intro hP0
   unfold Sinit_spec
   intro B F X T hk N hrt hun ret
   unfold SmRet at ret
   k_dflt (refine' call_cls ?k1 ?k2 ?k3 ?k4 ?k5 ?k6 ?_; (case k1 => k_asm); (case k2 => k_asm); (case k3 => k_asm); (case k4 => k_is); (case k5 => k_is); (case k6 => k_is); k_whole; intro sm dx h1 F1 N1 l1 l2; (try k_lt2 l2))
   have l1' := allLt_of l1
   have l0 : @LT.lt Nat _ rb dx := l1 _ (.head _)
   have NM : News h₀ L h1 [(sm, instObj 242 dx), (dx, dictOf [] 0), (rb, lst [.int u tu, .int v tv] nb)] := fun p hp => by rcases in3 hp with rfl | rfl | rfl <;> exact N1 _ (by k_mem)
   clear N
   k_dflt (refine' enter_plainM ?k1 ?k2 ?kN ?k3 ?k5 ?kA ?kF ?kK ?k6 ?k7 ?k8 ?k9 ?kB ?_ ?c2 ?c3 ?c4 ?c5; (case kA | kF => exact rfl); (case kK => assumption); (case k1 | k2 => k_asm); (case kN => exact NM); (case k3 | k5 => k_asm); (case k6 | k7 => k_is); (case k8 => ktr_room); (case k9 => exact binds_K (by k_in) rfl (by k_is) rfl rfl rfl); (case kB => exact locs rfl); (case c2 | c3 | c4 => exact rfl); (case c5 => decide); intro g L' h' hg F' N' B' X' T'; (try dsimp only); (try k_fold))
   have hg' : g = hideAll h1 [sm, dx, rb] := hg
   clear hg
   replace F' : Fr g L' h' (fun y => List.lookup y [(oS "autojunk", .bool true), (oS "b", .ref rb), (oS "a", .ref ra), (oS "isjunk", .none), (oS "self", .ref sm)]) := by with_unfolding_all exact F'
   have stop : StopM := trivial
   k_steps
   rename StopM => stop
   clear stop
   refine Halt.mk ?_
   walk_at "call ref"
   have stop : StopM := trivial
   k_steps
   rename StopM => stop
   clear stop
   refine Halt.mk ?_
   walk_at "call ref"
   have stop : StopM := trivial
   k_steps
   rename StopM => stop
   clear stop
   refine Halt.mk ?_
   rename_i _ _ _ _ _ _ _ _ _ _ hh0_8 _ _ _ _ hh0_13 _ _ hh0_16 hh0_17 hh0_18 _ _ _ _ _ _ _ hh0_24 hh0_25 hh0_26 _ _ _ _ _ _ hh0_33 hh0_34 hh0_35 hh0_36 hh0_37 hh0_38
   revert hh0_38; revert hh0_37; revert hh0_36; revert hh0_35; revert hh0_34; revert hh0_33; revert hh0_26; revert hh0_25; revert hh0_24; revert hh0_18; revert hh0_17; revert hh0_16; revert hh0_13; revert hh0_8; revert hg'; revert NM; revert l0; revert l1'; revert l2; revert l1; revert N1; revert F1; revert T'; revert X'; revert B'; revert ret; revert hun; revert hrt; revert hk; revert T; revert X; revert F; revert B
   rename_i _ _ vv2 vv3 vv4 vv5 vv6 vv7 vv8 _ _ vv11 vv12 _ _ _ _ _ _ vv19 vv20 _ _ _ _ vv25 vv26 vv27 vv28
   exact hP0 sm dx h1 g L' h' vv2 vv3 vv4 vv5 vv6 vv7 vv8 vv11 vv12 vv19 vv20 vv25 vv26 vv27 vv28 tk
namespace K0_0
abbrev TT : Type := ((((Addr × Addr) × Heap) × ((Heap × Addr) × Heap)) × (((Nat × Heap) × Nat) × (Heap × Heap))) × ((((Nat × Heap) × Heap) × ((Addr × Heap) × Addr)) × (((Heap × Nat) × Heap) × (Heap × Nat)))
def PP (p : TT) : Prop := sg0.1 p.1.1.1.1.1 p.1.1.1.1.2 p.1.1.1.2 p.1.1.2.1.1 p.1.1.2.1.2 p.1.1.2.2 p.1.2.1.1.1 p.1.2.1.1.2 p.1.2.1.2 p.1.2.2.1 p.1.2.2.2 p.2.1.1.1.1 p.2.1.1.1.2 p.2.1.1.2 p.2.1.2.1.1 p.2.1.2.1.2 p.2.1.2.2 p.2.2.1.1.1 p.2.2.1.1.2 p.2.2.1.2 p.2.2.2.1 p.2.2.2.2
def pt := ep ⟨default⟩ PP
@[irreducible] def sm := pt.1.1.1.1.1
@[irreducible] def dx := pt.1.1.1.1.2
@[irreducible] def h1 := pt.1.1.1.2
@[irreducible] def g := pt.1.1.2.1.1
@[irreducible] def L' := pt.1.1.2.1.2
@[irreducible] def h' := pt.1.1.2.2
@[irreducible] def vv2 := pt.1.2.1.1.1
@[irreducible] def vv3 := pt.1.2.1.1.2
@[irreducible] def vv4 := pt.1.2.1.2
@[irreducible] def vv5 := pt.1.2.2.1
@[irreducible] def vv6 := pt.1.2.2.2
@[irreducible] def vv7 := pt.2.1.1.1.1
@[irreducible] def vv8 := pt.2.1.1.1.2
@[irreducible] def vv11 := pt.2.1.1.2
@[irreducible] def vv12 := pt.2.1.2.1.1
@[irreducible] def vv19 := pt.2.1.2.1.2
@[irreducible] def vv20 := pt.2.1.2.2
@[irreducible] def vv25 := pt.2.2.1.1.1
@[irreducible] def vv26 := pt.2.2.1.1.2
@[irreducible] def vv27 := pt.2.2.1.2
@[irreducible] def vv28 := pt.2.2.2.1
@[irreducible] def tk := pt.2.2.2.2
noncomputable def sg1 : (P0 : Heap -> Addr -> Heap -> Nat -> Heap -> Heap -> Addr -> Nat -> Addr -> Heap -> Obj -> Heap -> Nat -> Prop) ×' ((∀ x0 x1 x2 x3 x4 x5 x6 x7 x8 x9 x10 x11 x12, P0 x0 x1 x2 x3 x4 x5 x6 x7 x8 x9 x10 x11 x12) -> sg0.1 sm dx h1 g L' h' vv2 vv3 vv4 vv5 vv6 vv7 vv8 vv11 vv12 vv19 vv20 vv25 vv26 vv27 vv28 tk) := by
 apply PSigma.mk
 case snd =>
   intro hP0
   unfold sg0
   dsimp only
   intro B F X T hk hrt hun ret B' X' T' F1 N1 l1 l2 l1' l0 NM hg' hh0_8 hh0_13 hh0_16 hh0_17 hh0_18 hh0_24 hh0_25 hh0_26 hh0_33 hh0_34 hh0_35 hh0_36 hh0_37 hh0_38
   k_steps
   refine Halt.mk ?_
   rename_i _ _ _ hh1_3 hh1_4 hh1_5 hh1_6 _ _ _ _ _ _ _ _ _ _ _ _ hh1_17 _ _ _ _ hh1_22 hh1_23 hh1_24 hh1_25 _ _ _ _ _ _ hh1_32 hh1_33 hh1_34 hh1_35 hh1_36 hh1_37 _ _ hh1_40 hh1_41
   revert hh1_41; revert hh1_40; revert hh1_37; revert hh1_36; revert hh1_35; revert hh1_34; revert hh1_33; revert hh1_32; revert hh1_25; revert hh1_24; revert hh1_23; revert hh1_22; revert hh1_17; revert hh1_6; revert hh1_5; revert hh1_4; revert hh1_3; revert hh0_38; revert hh0_37; revert hh0_36; revert hh0_35; revert hh0_34; revert hh0_33; revert hh0_26; revert hh0_25; revert hh0_24; revert hh0_18; revert hh0_17; revert hh0_16; revert hh0_13; revert hh0_8; revert hg'; revert NM; revert l0; revert l1'; revert l2; revert l1; revert N1; revert F1; revert T'; revert X'; revert B'; revert ret; revert hun; revert hrt; revert hk; revert T; revert X; revert F; revert B
   rename_i vv0 vv1 _ _ _ _ _ _ _ _ _ vv11 vv12 vv13 _ _ vv16 vv17 _ _ _ vv21 vv22 vv23 vv24 _ vv26
   exact hP0 vv0 vv1 vv11 vv12 vv13 vv16 vv17 vv21 vv22 vv23 vv24 vv26 tk
namespace K1_0
abbrev TT : Type := (((Heap × Addr) × (Heap × Nat)) × ((Heap × Heap) × Addr)) × (((Nat × Addr) × Heap) × ((Obj × Heap) × Nat))
def PP (p : TT) : Prop := sg1.1 p.1.1.1.1 p.1.1.1.2 p.1.1.2.1 p.1.1.2.2 p.1.2.1.1 p.1.2.1.2 p.1.2.2 p.2.1.1.1 p.2.1.1.2 p.2.1.2 p.2.2.1.1 p.2.2.1.2 p.2.2.2
def pt := ep ⟨default⟩ PP
@[irreducible] def vv0 := pt.1.1.1.1
@[irreducible] def vv1 := pt.1.1.1.2
@[irreducible] def vv11 := pt.1.1.2.1
@[irreducible] def vv12 := pt.1.1.2.2
@[irreducible] def vv13 := pt.1.2.1.1
@[irreducible] def vv16 := pt.1.2.1.2
@[irreducible] def vv17 := pt.1.2.2
@[irreducible] def vv21 := pt.2.1.1.1
@[irreducible] def vv22 := pt.2.1.1.2
@[irreducible] def vv23 := pt.2.1.2
@[irreducible] def vv24 := pt.2.2.1.1
@[irreducible] def vv26 := pt.2.2.1.2
@[irreducible] def tk := pt.2.2.2
theorem sg2 : sg1.1 vv0 vv1 vv11 vv12 vv13 vv16 vv17 vv21 vv22 vv23 vv24 vv26 tk := by
 unfold sg1
 dsimp only
 intro B F X T hk hrt hun ret B' X' T' F1 N1 l1 l2 l1' l0 NM hg' hh0_8 hh0_13 hh0_16 hh0_17 hh0_18 hh0_24 hh0_25 hh0_26 hh0_33 hh0_34 hh0_35 hh0_36 hh0_37 hh0_38 hh1_3 hh1_4 hh1_5 hh1_6 hh1_17 hh1_22 hh1_23 hh1_24 hh1_25 hh1_32 hh1_33 hh1_34 hh1_35 hh1_36 hh1_37 hh1_40 hh1_41
 rename Fr _ _ _ _ => lF'
 with_unfolding_all refine For_turns lF' ?_
 k_steps
 refine Halt.mk ?_
 k_dflt (refine sd_new (by k_asm) (by k_asm) (by k_updF) (by k_asm) (by k_asm) valueAt_nil (by kob_size) ?_)
 intro h' o' F' N' hd'
 try kob_lit
 try dsimp only at N'
 k_steps
 refine Halt.mk ?_
 by_cases huv : v = u
 . k_dflt (refine sd_there (by k_asm) (by k_mem) (by k_asm) (by k_asm) (valueAt_hitE huv) (by kob_size) ?_)
   try dsimp only
   k_steps
   rename Fr h₀ L _ _ => kF
   rename News h₀ L _ _ => kN
   rename Fr g L' _ _ => F11
   rename News g L' _ _ => N11
   rename Obj.IsDictOf (intKind PW w) _ [(u, Value.ref _)] => hd
   have e4 := kN _ (.tail _ (.head _))
   have el0 := kN _ (.tail _ (.tail _ (.tail _ (.head _))))
   have e2 := kN _ (.tail _ (.tail _ (.tail _ (.tail _ (.head _)))))
   have esm : _ ∧ _ := kN (sm, _) (by k_mem)
   have edx : _ ∧ _ := kN (dx, _) (by k_mem)
   have erb : _ ∧ _ := kN (rb, _) (by k_mem)
   dsimp only at e4 e2 el0 esm edx erb
   have htl : News h₀ L _ tl := fun p hp => by
     have e1 := N1 p (.tail _ (.tail _ (.tail _ hp)))
     have hlt : @LT.lt Nat _ p.1 dx := l1 p (.tail _ hp)
     have hne := hrt p hp
     refine ⟨F11.keep _ _ (hg' ▸ hideAll_get _ e1.1 ?_), e1.2⟩
     intro q
     rcases in3 q with q | q | q
     . exact absurd (q ▸ hlt) (Nat.lt_asymm l2)
     . exact absurd (q ▸ hlt) (Nat.lt_irrefl _)
     . exact hne q
   exact ret sm dx _ _ _ _ _ _ _ _ _ _ _ _ _ _ _ _ _ _ kF (news_cons esm (news_cons edx (news_cons erb htl))) l1' l2 (hideAll_get _ e2.1 (not_two (by k_ne) (by k_ne))) hd (hideAll_get _ e4.1 (not_two (by k_ne) (by k_ne))) (huv.symm ▸ b2j_eq (hideAll_get _ el0.1 (not_two (by k_ne) (by k_ne)))) (not_sys X kN (.tail _ (.tail _ (.tail _ (.tail _ (.head _))))))
 . k_dflt (refine sd_new (by k_asm) (by k_asm) (by k_updF) (by k_asm) (by k_asm) (valueAt_miss huv valueAt_nil) (by kob_size) ?_)
   intro h' o' F' N' hd'
   rw [stored_one huv] at hd'
   try kob_lit
   try dsimp only at N'
   k_steps
   rename Fr h₀ L _ _ => kF
   rename News h₀ L _ _ => kN
   rename Fr g L' _ _ => F11
   rename News g L' _ _ => N11
   rename Obj.IsDictOf (intKind PW w) _ [(u, Value.ref _), (v, Value.ref _)] => hd
   have e4 := kN _ (.tail _ (.head _))
   have el1 := kN _ (.tail _ (.tail _ (.head _)))
   have el0 := kN _ (.tail _ (.tail _ (.tail _ (.head _))))
   have e2 := kN _ (.tail _ (.tail _ (.tail _ (.tail _ (.head _)))))
   have esm : _ ∧ _ := kN (sm, _) (by k_mem)
   have edx : _ ∧ _ := kN (dx, _) (by k_mem)
   have erb : _ ∧ _ := kN (rb, _) (by k_mem)
   dsimp only at e4 e2 el0 esm edx erb el1
   have htl : News h₀ L _ tl := fun p hp => by
     have e1 := N1 p (.tail _ (.tail _ (.tail _ hp)))
     have hlt : @LT.lt Nat _ p.1 dx := l1 p (.tail _ hp)
     have hne := hrt p hp
     refine ⟨F11.keep _ _ (hg' ▸ hideAll_get _ e1.1 ?_), e1.2⟩
     intro q
     rcases in3 q with q | q | q
     . exact absurd (q ▸ hlt) (Nat.lt_asymm l2)
     . exact absurd (q ▸ hlt) (Nat.lt_irrefl _)
     . exact hne q
   exact ret sm dx _ _ _ _ _ _ _ _ _ _ _ _ _ _ _ _ _ _ kF (news_cons esm (news_cons edx (news_cons erb htl))) l1' l2 (hideAll_get _ e2.1 (not_two (by k_ne) (by k_ne))) hd (hideAll_get _ e4.1 (not_two (by k_ne) (by k_ne))) (b2j_ne huv (hideAll_get _ el0.1 (not_two (by k_ne) (by k_ne))) (hideAll_get _ el1.1 (not_two (by k_ne) (by k_ne)))) (not_sys X kN (.tail _ (.tail _ (.tail _ (.tail _ (.head _))))))
theorem fin : ∀ x, PP x := drink ⟨default⟩ PP (by with_unfolding_all exact sg2)
end K1_0
theorem fin : ∀ x, PP x := drink ⟨default⟩ PP (by with_unfolding_all exact sg1.2 (by intros; exact K1_0.fin ((((_, _), (_, _)), ((_, _), _)), (((_, _), _), ((_, _), _)))))
end K0_0
theorem main : Sinit_spec w loose mean mg mb un gd cn cs a ccd cl outer A₀ base h₀ L m s Q E ra rb nb u v tu tv tl := sg0.2 (by intros; exact K0_0.fin (((((_, _), _), ((_, _), _)), (((_, _), _), (_, _))), ((((_, _), _), ((_, _), _)), (((_, _), _), (_, _)))))
end Cinit_spec
theorem init_spec : ∀ w loose mean mg mb un gd cn cs a ccd cl outer A₀ base h₀ L m s Q E (B : Below A₀ base outer h₀) (F : Fr h₀ L s.heap m) (X : (Mine.KR w.params).In h₀) (T : Top topProg loose mean mg mb h₀) (hk : cs.kind = .function) ra rb nb u v tu tv tl, Qinit_spec w un gd cn cs a ccd cl outer h₀ L m s Q E ra rb nb u v tu tv tl :=
 fun w loose mean mg mb un gd cn cs a ccd cl outer A₀ base h₀ L m s Q E B F X T hk ra rb nb u v tu tv tl => drink ninit_spec Pinit_spec (by with_unfolding_all exact Cinit_spec.main) (((((w, loose), (mean, mg)), ((mb, un), (gd, cn))), (((cs, a), (ccd, cl)), ((outer, A₀), base))), ((((h₀, L), (m, s)), ((Q, E), ra)), (((rb, nb), (u, v)), ((tu, tv), tl)))) B F X T hk
end
end Mine
end
noncomputable section
example : True := by w_top off; trivial
namespace Mine
noncomputable section
local macro_rules | `(tactic| omega) => `(tactic| walk_at "o")
local macro_rules | `(tactic| walk_at "assign Tuple") => `(tactic| (k_here; k_dflt (refine unpackM (by k_asm) (by k_asm) (by k_asm) (by first | exact mt_news (by k_asm) (by k_mem) | exact mt_base (by k_asm) (by assumption)) (by exact rfl) (by exact rfl) (by exact rfl) ?_); intro h' F' N'; (try k_sweep)))
local macro_rules | `(tactic| k_ne) => `(tactic| (refine neN ?_; (try dsimp only); first | exact NeD.l (by assumption) (by k_mem) | exact NeD.r (by assumption) (by k_mem)))
local macro_rules | `(tactic| walk_at "call ref") => `(tactic| (refine Halt.go ?_))
theorem fresh_of {h : Heap} {muts : List Addr} {D : Addr} (e : (hideAll h muts).get? D = none) (n : D ∉ muts) : h.get? D = none := by
 cases q : h.get? D with
 | none => rfl
 | some o => rw [hideAll_get _ q n] at e; cases e
theorem news_nil {h₀ h : Heap} {L : Addr} : News h₀ L h [] := fun p hp => by cases hp
theorem news_new {h₀ h h' : Heap} {L D : Addr} {o : Obj} {m : Str -> Option Value} (F : Fr h₀ L h m) (D0 : h.get? D = none) (hD : h'.get? D = some o) : h'.get? D = some o ∧ D ≠ L ∧ h₀.get? D = none :=
 ⟨hD, (fun q => by obtain ⟨oL, es, ep, hL, _⟩ := F.ns; rw [q, hL] at D0; cases D0), by
   cases q : h₀.get? D with
   | none => rfl
   | some o' => rw [F.keep _ _ q] at D0; cases D0⟩
theorem AllAt.three {α : Type} {P : Heap -> Value -> α -> Prop} {h : Heap} {v v' v'' : Value} {x x' x'' : α} (hv : P h v x) (hv' : P h v' x') (hv'' : P h v'' x'') : AllAt P h [v, v', v''] [x, x', x''] := AllAt.push (AllAt.two hv hv') hv''
def OpI (g : Heap) (sm dx : Addr) (h : Heap) (v : Value) (x : String × Int × Int × Int × Int) : Prop :=
 ∃ D n tt ta tb tc td, v = .ref D ∧ h.get? D = some (tup [.str (oS x.1) tt, .int x.2.1 ta, .int x.2.2.1 tb, .int x.2.2.2.1 tc, .int x.2.2.2.2 td] n) ∧ g.get? D = none ∧ @Ne Nat D sm ∧ @Ne Nat D dx
def OpRet (h₀ : Heap) (L : Addr) (m : Str -> Option Value) (s : Shared) (Q : Value -> Shared -> Prop) (sm dx : Addr) (bs : List (String × Int × Int × Int × Int)) : Prop :=
 ∀ S acc c h' tk', Fr h₀ L h' m -> Keeps (hideAll s.heap [sm, dx]) h' -> h'.get? S = some (lst acc c) ->
   (hideAll s.heap [sm, dx]).get? S = none -> @Ne Nat S sm -> @Ne Nat S dx -> AllAt (OpI (hideAll s.heap [sm, dx]) sm dx) h' acc bs -> Q (.ref S) { s with heap := h', toks := tk' }
noncomputable def pick (xs : List Value) (lo hi : Option Int) : List Value := (slicePick xs.toArray lo hi none).toList
theorem pick_len {xs : List Value} {lo hi : Option Int} (h : xs.length ≤ 2) : (pick xs lo hi).length ≤ 2 := by
 have q := slicePick_size_le xs.toArray lo hi none
 rw [List.size_toArray] at q
 exact Nat.le_trans q h
noncomputable def add0 (xs acc : List Value) (o : String × Int × Int × Int × Int) : List Value := if o.1 = "replace" ∨ o.1 = "delete" then acc ++ pick xs (some o.2.1) (some o.2.2.1) else acc
noncomputable def add1 (xs acc : List Value) (o : String × Int × Int × Int × Int) : List Value := if o.1 = "replace" ∨ o.1 = "insert" then acc ++ pick xs (some o.2.2.2.1) (some o.2.2.2.2) else acc
theorem len0 {xs : List Value} (h : xs.length ≤ 2) : ∀ (os : List (String × Int × Int × Int × Int)) (acc : List Value), (os.foldl (add0 xs) acc).length ≤ acc.length + 2 * os.length
 | [], acc => Nat.le_refl _
 | o :: os, acc => by
   have q := len0 h os (add0 xs acc o)
   have p := pick_len (lo := some o.2.1) (hi := some o.2.2.1) h
   have z : (add0 xs acc o).length ≤ acc.length + 2 := by
     unfold add0
     split
     . rw [List.length_append]; omega
     . omega
   rw [List.foldl_cons, List.length_cons]
   omega
theorem len1 {xs : List Value} (h : xs.length ≤ 2) : ∀ (os : List (String × Int × Int × Int × Int)) (acc : List Value), (os.foldl (add1 xs) acc).length ≤ acc.length + 2 * os.length
 | [], acc => Nat.le_refl _
 | o :: os, acc => by
   have q := len1 h os (add1 xs acc o)
   have p := pick_len (lo := some o.2.2.2.1) (hi := some o.2.2.2.2) h
   have z : (add1 xs acc o).length ≤ acc.length + 2 := by
     unfold add1
     split
     . rw [List.length_append]; omega
     . omega
   rw [List.foldl_cons, List.length_cons]
   omega
def OpsOk (x y u v : Int) (ops : List (String × Int × Int × Int × Int)) (l0 l1 : List Int) : Prop :=
 ops.length ≤ 3 ∧ (∀ o ∈ ops, o.1 = "equal" ∨ o.1 = "replace" ∨ o.1 = "delete" ∨ o.1 = "insert") ∧
 ∀ tx ty tu tv, IntsAre (ops.foldl (add0 [.int x tx, .int y ty]) []) l0 ∧ IntsAre (ops.foldl (add1 [.int u tu, .int v tv]) []) l1
theorem ok_p0 {x y u v : Int} {l0 l1 : List Int} (e : l0 = [x, y]) (e' : l1 = [u, v]) : OpsOk x y u v [("replace", 0, 2, 0, 2)] l0 l1 := by
 rw [e, e']
 exact ⟨by decide, by decide, fun tx ty tu tv => ⟨by exact .cons _ _ (.cons _ _ .nil), by exact .cons _ _ (.cons _ _ .nil)⟩⟩
theorem ok_p1 {x y u v : Int} {l0 l1 : List Int} (e : l0 = [y]) (e' : l1 = [v]) : OpsOk x y u v [("equal", 0, 1, 0, 1), ("replace", 1, 2, 1, 2)] l0 l1 := by
 rw [e, e']
 exact ⟨by decide, by decide, fun tx ty tu tv => ⟨by exact .cons _ _ .nil, by exact .cons _ _ .nil⟩⟩
theorem ok_p2 {x y u v : Int} {l0 l1 : List Int} (e : l0 = [x]) (e' : l1 = [v]) : OpsOk x y u v [("delete", 0, 1, 0, 0), ("equal", 1, 2, 0, 1), ("insert", 2, 2, 1, 2)] l0 l1 := by
 rw [e, e']
 exact ⟨by decide, by decide, fun tx ty tu tv => ⟨by exact .cons _ _ .nil, by exact .cons _ _ .nil⟩⟩
theorem ok_p3 {x y u v : Int} {l0 l1 : List Int} (e : l0 = [x]) (e' : l1 = [u]) : OpsOk x y u v [("replace", 0, 1, 0, 1), ("equal", 1, 2, 1, 2)] l0 l1 := by
 rw [e, e']
 exact ⟨by decide, by decide, fun tx ty tu tv => ⟨by exact .cons _ _ .nil, by exact .cons _ _ .nil⟩⟩
theorem ok_p4 {x y u v : Int} {l0 l1 : List Int} (e : l0 = [y]) (e' : l1 = [u]) : OpsOk x y u v [("insert", 0, 0, 0, 1), ("equal", 0, 1, 1, 2), ("delete", 1, 2, 2, 2)] l0 l1 := by
 rw [e, e']
 exact ⟨by decide, by decide, fun tx ty tu tv => ⟨by exact .cons _ _ .nil, by exact .cons _ _ .nil⟩⟩
theorem vals_get {vs : List Value} {i : Nat} {x : Itm} {v : Value} {h : Heap} (e : (vs.map Itm.val)[i]? = some x) (hv : x.Is v h) : vs[i]? = some v := by
 rw [List.getElem?_map] at e
 cases q : vs[i]? with
 | none => rw [q] at e; cases e
 | some u => rw [q] at e; cases e; exact congrArg some (Eq.symm hv)
theorem allAt_imp {α : Type} {P P' : Heap -> Value -> α -> Prop} {h h' : Heap} {vs : List Value} {xs : List α} (H : AllAt P h vs xs) (k : ∀ v x, P h v x -> P' h' v x) : AllAt P' h' vs xs := ⟨H.1, fun i v x a b => k v x (H.2 i v x a b)⟩
abbrev Opc := String × Int × Int × Int × Int
noncomputable def tagged (i j : Int) (b : Int × Int × Int) (ops : List Opc) : List Opc :=
 if i < b.1 then (if j < b.2.1 then ops ++ [("replace", i, b.1, j, b.2.1)] else ops ++ [("delete", i, b.1, j, b.2.1)]) else if j < b.2.1 then ops ++ [("insert", i, b.1, j, b.2.1)] else ops
noncomputable def stp (st : Int × Int × List Opc) (b : Int × Int × Int) : Int × Int × List Opc :=
 (b.1 + b.2.2, b.2.1 + b.2.2, if b.2.2 = 0 then tagged st.1 st.2.1 b st.2.2 else tagged st.1 st.2.1 b st.2.2 ++ [("equal", b.1, b.1 + b.2.2, b.2.1, b.2.1 + b.2.2)])
noncomputable def opsOf (bs : List (Int × Int × Int)) : Int × Int × List Opc := bs.foldl stp (0, 0, [])
theorem ops_ok {x y u v : Int} {l0 l1 : List Int} {bs : List (Int × Int × Int)} (h : BlkOk x y u v l0 l1 bs) : OpsOk x y u v (opsOf bs).2.2 l0 l1 ∧ bs.length ≤ 2 := by
 rcases h with ⟨rfl, hl0, hl1⟩ | ⟨bi, bj, rfl, ⟨rfl, rfl, hl0, hl1⟩ | ⟨rfl, rfl, hl0, hl1⟩ | ⟨rfl, rfl, hl0, hl1⟩ | ⟨rfl, rfl, hl0, hl1⟩⟩
 . exact ⟨ok_p0 hl0 hl1, by decide⟩
 . exact ⟨ok_p1 hl0 hl1, by decide⟩
 . exact ⟨ok_p2 hl0 hl1, by decide⟩
 . exact ⟨ok_p3 hl0 hl1, by decide⟩
 . exact ⟨ok_p4 hl0 hl1, by decide⟩
def OpIn (tl : List (Addr × Obj)) (_ : Heap) (v : Value) (x : Opc) : Prop := ∃ D n tt ta tb tc td, v = .ref D ∧ (D, tup [.str (oS x.1) tt, .int x.2.1 ta, .int x.2.2.1 tb, .int x.2.2.2.1 tc, .int x.2.2.2.2 td] n) ∈ tl
theorem OpIn.up {p : Addr × Obj} {tl : List (Addr × Obj)} {g : Heap} {vs : List Value} {xs : List Opc} (H : AllAt (OpIn tl) g vs xs) : AllAt (OpIn (p :: tl)) g vs xs := allAt_imp H fun _ _ => Exists.imp fun _ => Exists.imp fun _ => Exists.imp fun _ => Exists.imp fun _ => Exists.imp fun _ => Exists.imp fun _ => Exists.imp fun _ => And.imp_right (.tail _)
def OffL (an sm dx : Addr) (tl : List (Addr × Obj)) : Prop := ∀ p ∈ tl, @Ne Nat p.1 an ∧ @Ne Nat p.1 sm ∧ @Ne Nat p.1 dx
theorem OffL.up {an sm dx D : Addr} {o : Obj} {tl : List (Addr × Obj)} (H : OffL an sm dx tl) (n : @Ne Nat D an ∧ @Ne Nat D sm ∧ @Ne Nat D dx) : OffL an sm dx ((D, o) :: tl) := fun p hp => by
 rcases List.mem_cons.mp hp with rfl | hp
 . exact n
 . exact H p hp
def BlkIn (tl : List (Addr × Obj)) (acc : List Value) (bs : List (Int × Int × Int)) : Prop := ∀ (n : Nat) v (x : Int × Int × Int), acc[n]? = some v -> bs[n]? = some x -> ∃ D dd ta tb tc, v = .ref D ∧ (D, matchO [.int x.1 ta, .int x.2.1 tb, .int x.2.2 tc] dd) ∈ tl
theorem blk_tl {g h : Heap} {sm dx S : Addr} : ∀ {bs : List (Int × Int × Int)} {acc : List Value}, AllAt (MtI g sm dx S) h acc bs -> ∃ tl, (∀ p ∈ tl, h.get? p.1 = some p.2 ∧ g.get? p.1 = none ∧ @Ne Nat p.1 sm ∧ @Ne Nat p.1 dx) ∧ BlkIn tl acc bs := by
 intro bs
 induction bs with
 | nil => exact fun _ => ⟨[], List.forall_mem_nil _, fun n v x _ b => by rw [List.getElem?_nil] at b; cases b⟩
 | cons b bs ih =>
   intro acc H
   obtain ⟨v, acc, rfl⟩ := List.exists_cons_of_length_eq_add_one H.1
   obtain ⟨tl, h1, h2⟩ := ih (acc := acc) ⟨Nat.succ.inj H.1, fun k v x a c => H.2 (k + 1) v x a c⟩
   obtain ⟨D, dd, ta, tb, tc, e, hD, D0, Ds, Dd, -⟩ := H.2 0 v b rfl rfl
   refine ⟨(D, matchO [.int b.1 ta, .int b.2.1 tb, .int b.2.2 tc] dd) :: tl, List.forall_mem_cons.mpr ⟨⟨hD, D0, Ds, Dd⟩, h1⟩, fun n w x a c => ?_⟩
   cases n with
   | zero => cases a; cases c; exact ⟨D, dd, ta, tb, tc, e, .head _⟩
   | succ n => exact Exists.imp (fun _ => Exists.imp fun _ => Exists.imp fun _ => Exists.imp fun _ => Exists.imp fun _ => And.imp_right (.tail _)) (h2 n w x a c)
def OpJ (g : Heap) (sm dx an S I : Addr) (acc : List Value) (c : Nat) (odx : Obj) (tb : List (Addr × Obj)) (bs : List (Int × Int × Int)) (n : Nat) (m : Str -> Option Value) (news : List (Addr × Obj)) : Prop :=
 SubL [(S, lst acc c)] news ∧ ∃ ca vs tl r ti tj, m = over [(oS "answer", .ref an), (oS "j", .int (opsOf (bs.take n)).2.1 tj), (oS "i", .int (opsOf (bs.take n)).1 ti), (oS "self", .ref sm)] r ∧
   news = (S, lst acc c) :: (an, lst vs ca) :: (sm, instObj 242 dx) :: (dx, odx) :: tl ∧ AllAt (OpIn tl) g vs (opsOf (bs.take n)).2.2 ∧ OffL an sm dx tl ∧ (∀ p ∈ tb, p ∈ tl) ∧ vs.length ≤ 2 * n ∧ ∀ p ∈ tl, @Ne Nat p.1 I
def OpM (g : Heap) (L' sm dx an S : Addr) (acc : List Value) (c : Nat) (odx : Obj) (tb : List (Addr × Obj)) (n : Nat) (I : Addr) (oI : Obj) (b1 b2 b3 : Int) (ta tb' tc : Tok) (ops : List Opc) (h : Heap) : Prop :=
 ∃ ca vs tl r, Fr g L' h (over [(oS "size", .int b3 tc), (oS "bj", .int b2 tb'), (oS "ai", .int b1 ta), (oS "answer", .ref an), (oS "self", .ref sm)] r) ∧
   News g L' h ((I, oI) :: (S, lst acc c) :: (an, lst vs ca) :: (sm, instObj 242 dx) :: (dx, odx) :: tl) ∧ AllAt (OpIn tl) g vs ops ∧ OffL an sm dx tl ∧ (∀ p ∈ tb, p ∈ tl) ∧ vs.length ≤ 2 * n + 1 ∧ ∀ p ∈ tl, @Ne Nat p.1 I
theorem perm5 {α : Type} {x a b c d e p : α} {tl : List α} (h : p ∈ a :: b :: c :: d :: e :: x :: tl) : p ∈ x :: a :: b :: c :: d :: e :: tl := (List.perm_middle (l₁ := [a, b, c, d, e])).mem_iff.mp h
theorem opM_add {g h : Heap} {L' sm dx an S I T D : Addr} {acc vs : List Value} {c c' ca n : Nat} {odx oI oD : Obj} {tb tl : List (Addr × Obj)} {b1 b2 b3 : Int} {ta tb' tc : Tok} {ops : List Opc} {m : Str -> Option Value} {tag : String} {i j : Int} {tt ti tj : Tok}
   (F : Fr g L' h m) (o : OvL m [(oS "size", .int b3 tc), (oS "bj", .int b2 tb'), (oS "ai", .int b1 ta), (oS "answer", .ref an), (oS "self", .ref sm)])
   (N : News g L' h ((T, tup [.str (oS tag) tt, .int i ti, .int b1 ta, .int j tj, .int b2 tb'] 0) :: (D, oD) :: (I, oI) :: (S, lst acc c) :: (an, lst (vs ++ [.ref T]) ca) :: (sm, instObj 242 dx) :: (dx, odx) :: tl))
   (hin : AllAt (OpIn tl) g vs ops) (hoff : OffL an sm dx tl) (hsub : ∀ p ∈ tb, p ∈ tl) (hl : vs.length ≤ 2 * n) (hI : ∀ p ∈ tl, @Ne Nat p.1 I) (lT : AllLt T ((D, oD) :: (I, oI) :: (S, lst acc c) :: (an, lst vs c') :: (sm, instObj 242 dx) :: (dx, odx) :: tl)) :
   OpM g L' sm dx an S acc c odx tb n I oI b1 b2 b3 ta tb' tc (ops ++ [(tag, i, b1, j, b2)]) h :=
 ⟨ca, vs ++ [.ref T], (T, tup [.str (oS tag) tt, .int i ti, .int b1 ta, .int j tj, .int b2 tb'] 0) :: tl, m, fr_over _ F o, News.sub' N (fun p hp => ((List.sublist_cons_self _ _).cons_cons _).subset (perm5 hp)),
  (OpIn.up hin).push ⟨T, 0, _, _, _, _, _, rfl, .head _⟩, OffL.up hoff ⟨neM' lT (by k_mem), neM' lT (by k_mem), neM' lT (by k_mem)⟩, fun p hp => .tail _ (hsub p hp), (by rw [List.length_append]; exact Nat.succ_le_succ hl), fun p hp => by
   rcases List.mem_cons.mp hp with rfl | hp
   . exact neM' lT (.tail _ (.head _))
   . exact hI p hp⟩
theorem tag_r {i j : Int} {b : Int × Int × Int} {ops : List Opc} (h : i < b.1) (k : j < b.2.1) : tagged i j b ops = ops ++ [("replace", i, b.1, j, b.2.1)] := (if_pos h).trans (if_pos k)
theorem tag_d {i j : Int} {b : Int × Int × Int} {ops : List Opc} (h : i < b.1) (k : ¬ j < b.2.1) : tagged i j b ops = ops ++ [("delete", i, b.1, j, b.2.1)] := (if_pos h).trans (if_neg k)
theorem tag_i {i j : Int} {b : Int × Int × Int} {ops : List Opc} (h : ¬ i < b.1) (k : j < b.2.1) : tagged i j b ops = ops ++ [("insert", i, b.1, j, b.2.1)] := (if_neg h).trans (if_pos k)
theorem tag_n {i j : Int} {b : Int × Int × Int} {ops : List Opc} (h : ¬ i < b.1) (k : ¬ j < b.2.1) : tagged i j b ops = ops := (if_neg h).trans (if_neg k)
theorem opM_nil {g h : Heap} {L' sm dx an S I D : Addr} {acc vs : List Value} {c ca n : Nat} {odx oI oD : Obj} {tb tl : List (Addr × Obj)} {b1 b2 b3 : Int} {ta tb' tc : Tok} {ops : List Opc} {m : Str -> Option Value}
   (F : Fr g L' h m) (o : OvL m [(oS "size", .int b3 tc), (oS "bj", .int b2 tb'), (oS "ai", .int b1 ta), (oS "answer", .ref an), (oS "self", .ref sm)])
   (N : News g L' h ((D, oD) :: (I, oI) :: (S, lst acc c) :: (an, lst vs ca) :: (sm, instObj 242 dx) :: (dx, odx) :: tl))
   (hin : AllAt (OpIn tl) g vs ops) (hoff : OffL an sm dx tl) (hsub : ∀ p ∈ tb, p ∈ tl) (hl : vs.length ≤ 2 * n) (hI : ∀ p ∈ tl, @Ne Nat p.1 I) :
   OpM g L' sm dx an S acc c odx tb n I oI b1 b2 b3 ta tb' tc ops h :=
 ⟨ca, vs, tl, m, fr_over _ F o, fun p hp => N p (.tail _ hp), hin, hoff, hsub, Nat.le_succ_of_le hl, hI⟩
theorem updOf {D : Addr} {o : Obj} {l : List (Addr × Obj)} {g : Obj -> List (Addr × Obj)} (U : UpdF D o l g) (o' : Obj) : Upd D o o' l (g o') := by
 induction U with
 | head h => exact .head h
 | tail h _ ih => exact .tail h ih
theorem bapp {prog : Program} {w : World} {A : Around} {E : Value -> Shared -> Prop} {h₀ : Heap} {L D : Addr} {m : Str -> Option Value} {news : List (Addr × Obj)} {Q : Value -> Shared -> Prop} {s : Shared} {vs : List Value} {x : Value} {n : Nat} {g : Obj -> List (Addr × Obj)} (F : Fr h₀ L s.heap m) (N : News h₀ L s.heap news) (U : UpdF D (lst vs n) news g) (hv : vs.length ≤ 100)
   (h : ∀ h', Fr h₀ L h' m -> News h₀ L h' (g (lst (vs ++ [x]) (n + 1))) -> Q .none { s with heap := h' }) : wpAny (model prog w) A (call (.builtin "list.append") [.ref D, x]) Q E s :=
 append_K F N (updOf U (listOf (vs.toArray.push x) (n + 1))) (fun h' F' N' => h h' F' (by rw [List.push_toArray] at N'; exact N')) (Nat.le_trans (by rw [List.size_toArray]; exact hv) (Nat.le_of_ble_eq_true rfl))
theorem ops_next {bs : List (Int × Int × Int)} {n : Nat} {b : Int × Int × Int} (e : bs[n]? = some b) : opsOf (bs.take (n + 1)) = stp (opsOf (bs.take n)) b := by
 unfold opsOf
 rw [List.take_add_one, e, List.foldl_append]; rfl
theorem stp_0 {i j b1 b2 b3 : Int} {ops : List Opc} (h : b3 = 0) : stp (i, j, ops) (b1, b2, b3) = (b1 + b3, b2 + b3, tagged i j (b1, b2, b3) ops) := congrArg _ (congrArg _ (if_pos h))
theorem stp_1 {i j b1 b2 b3 : Int} {ops : List Opc} (h : ¬ b3 = 0) : stp (i, j, ops) (b1, b2, b3) = (b1 + b3, b2 + b3, tagged i j (b1, b2, b3) ops ++ [("equal", b1, b1 + b3, b2, b2 + b3)]) := congrArg _ (congrArg _ (if_neg h))
theorem opJ_end {g h : Heap} {L' sm dx an S I : Addr} {acc vs : List Value} {c ca n : Nat} {odx oI : Obj} {tb tl all : List (Addr × Obj)} {bs : List (Int × Int × Int)} {i j : Int} {ti tj : Tok} {ops : List Opc} {m : Str -> Option Value} {s₁ : Shared} {tk : Nat}
   (F : Fr g L' h m) (o : OvL m [(oS "answer", .ref an), (oS "j", .int j tj), (oS "i", .int i ti), (oS "self", .ref sm)])
   (N : News g L' h all) (hI : (I, oI) ∈ all) (sub : ∀ p ∈ (S, lst acc c) :: (an, lst vs ca) :: (sm, instObj 242 dx) :: (dx, odx) :: tl, p ∈ all)
   (e : opsOf (bs.take (n + 1)) = (i, j, ops)) (hin : AllAt (OpIn tl) g vs ops) (hoff : OffL an sm dx tl) (hsub : ∀ p ∈ tb, p ∈ tl) (hl : vs.length ≤ 2 * (n + 1)) (hT : ∀ p ∈ tl, @Ne Nat p.1 I)
   (nI : @Ne Nat I an ∧ @Ne Nat I S) (lI : @LT.lt Nat _ sm I ∧ @LT.lt Nat _ dx I) :
   UnrEndW g L' s₁ [(I, oI)] (fun m' n' => SubL [(S, lst acc c)] n' ∧ OpJ g sm dx an S I acc c odx tb bs (n + 1) m' n') { s₁ with heap := h, toks := tk } :=
 unr_end (fr_over _ F o) N (fun p hp => List.mem_singleton.mp hp ▸ hI) sub (fun p hp q hq => by
   rw [List.mem_singleton.mp hq]
   simp only [List.mem_cons] at hp
   rcases hp with rfl | rfl | rfl | rfl | hp
   . exact nI.2.symm
   . exact nI.1.symm
   . exact Nat.ne_of_lt lI.1
   . exact Nat.ne_of_lt lI.2
   . exact hT p hp) ⟨⟨.head _, trivial⟩, ⟨.head _, trivial⟩, ca, vs, tl, m, ti, tj, by rw [e], rfl, by rw [e]; exact hin, hoff, hsub, hl, hT⟩
theorem sub5 {a b c d e f f' : Addr × Obj} {tl : List (Addr × Obj)} : ∀ p ∈ a :: b :: c :: d :: e :: tl, p ∈ e :: f :: f' :: a :: b :: c :: d :: tl := fun p hp =>
 (((List.sublist_cons_self f' _).cons f).cons_cons e).subset ((List.perm_middle (l₁ := [a, b, c, d])).mem_iff.mp hp)
theorem dec_t {c : Prop} [Decidable c] {p q : Prop} (h : c) (x : p) : if decide c = true then p else q := by rw [if_pos (decide_eq_true h)]; exact x
theorem dec_f {c : Prop} [Decidable c] {p q : Prop} (h : ¬ c) (x : q) : if decide c = true then p else q := by rw [decide_eq_false h]; exact x
local macro_rules | `(tactic| walk_at "ite") => `(tactic| first | refine dec_t (by assumption) ?_ | refine dec_f (by assumption) ?_)
local macro_rules | `(tactic| k_all) => `(tactic| assumption)
local macro_rules | `(tactic| walk_at "call builtin:list.append") => `(tactic| (k_here; k_dflt (refine bapp (by k_asm) (by k_asm) (by k_updF) (by assumption) ?_); intro h' F' N'; (try dsimp only at N'); (try k_sweep)))
local macro_rules | `(tactic| walk_at $k) => if ["pyIter ref", "UnrPostW", "exec Assign cons Tuple"].contains k.getString then `(tactic| refine Halt.go ?_) else Lean.Macro.throwUnsupported
section
variable (w : World) (loose : List Str) (mean : ExcName -> Option Value) (mg mb : Str -> Option Value) (un : Nat) (gd : Option (List Code)) (cn : Str) (cs : Scope) (a : Addr) (ccd : Value) (cl : List (Str × Addr)) (outer : List Env) (A₀ : Around) (base h₀ : Heap) (L : Addr) (m : Str -> Option Value) (s : Shared) (Q E : Value -> Shared -> Prop) (sm dx ra rb d2 d4 d5 : Addr) (t0 t1 t2 t3 t4 t5 t6 t7 t8 t9 : Tok) (na nb : Nat) (x y u v : Int) (tx ty tu tv : Tok) (o2 : Obj) (kvs : List (Int × Value)) (led : Bool) (l0 l1 : List Int)
def Qop_all : Prop :=
 ∀ (N : News h₀ L s.heap [(sm, instObj 242 dx), (dx, smDict w.params t0 t1 t2 t3 t4 t5 t6 t7 t8 t9 ra rb d2 d4 d5 .none .none 10)]),
 ∀ (hsd : @LT.lt Nat _ dx sm),
 ∀ (hra : (hideAll s.heap [sm, dx]).get? ra = some (lst [.int x tx, .int y ty] na)),
 ∀ (hrb : (hideAll s.heap [sm, dx]).get? rb = some (lst [.int u tu, .int v tv] nb)),
 ∀ (hd2 : (hideAll s.heap [sm, dx]).get? d2 = some o2),
 ∀ (hkv : o2.IsDictOf (intKind PW w) kvs),
 ∀ (hd4 : (hideAll s.heap [sm, dx]).get? d4 = some (setO led)),
 ∀ (hB : B2J (hideAll s.heap [sm, dx]) kvs [u, v]),
 ∀ (hlo2 : (d2 == sysModules) = false),
 ∀ (hun : un < 460),
 ∀ (hpat : Pat x y u v l0 l1),
 ∀ (ret : ∀ ops, OpsOk x y u v ops l0 l1 -> OpRet h₀ L m s Q sm dx ops),
 wpAny (model PW w) (ktrTop 304 un gd cn cs L a ccd cl outer) (call (.ref 210) [.ref sm]) Q E s
def Sop_all : Prop :=
 ∀ (B : Below A₀ base outer h₀),
 ∀ (F : Fr h₀ L s.heap m),
 ∀ (X : (Mine.KR w.params).In h₀),
 ∀ (T : Top topProg loose mean mg mb h₀),
 ∀ (hk : cs.kind = .function),
 Qop_all w un gd cn cs a ccd cl outer h₀ L m s Q E sm dx ra rb d2 d4 d5 t0 t1 t2 t3 t4 t5 t6 t7 t8 t9 na nb x y u v tx ty tu tv o2 kvs led l0 l1
end
abbrev Top_all : Type := (((((World × (List Str)) × ((ExcName -> Option Value) × (Str -> Option Value))) × (((Str -> Option Value) × Nat) × (Option (List Code)))) × (((Str × Scope) × (Addr × Value)) × (((List (Str × Addr)) × (List Env)) × Around))) × ((((Heap × Heap) × (Addr × (Str -> Option Value))) × ((Shared × (Value -> Shared -> Prop)) × (Value -> Shared -> Prop))) × (((Addr × Addr) × Addr) × ((Addr × Addr) × Addr)))) × (((((Addr × Tok) × (Tok × Tok)) × ((Tok × Tok) × Tok)) × (((Tok × Tok) × Tok) × ((Tok × Nat) × Nat))) × ((((Int × Int) × (Int × Int)) × ((Tok × Tok) × Tok)) × (((Tok × Obj) × (List (Int × Value))) × ((Bool × (List Int)) × (List Int)))))
def Pop_all (p : Top_all) : Prop := Sop_all p.1.1.1.1.1.1 p.1.1.1.1.1.2 p.1.1.1.1.2.1 p.1.1.1.1.2.2 p.1.1.1.2.1.1 p.1.1.1.2.1.2 p.1.1.1.2.2 p.1.1.2.1.1.1 p.1.1.2.1.1.2 p.1.1.2.1.2.1 p.1.1.2.1.2.2 p.1.1.2.2.1.1 p.1.1.2.2.1.2 p.1.1.2.2.2 p.1.2.1.1.1.1 p.1.2.1.1.1.2 p.1.2.1.1.2.1 p.1.2.1.1.2.2 p.1.2.1.2.1.1 p.1.2.1.2.1.2 p.1.2.1.2.2 p.1.2.2.1.1.1 p.1.2.2.1.1.2 p.1.2.2.1.2 p.1.2.2.2.1.1 p.1.2.2.2.1.2 p.1.2.2.2.2 p.2.1.1.1.1.1 p.2.1.1.1.1.2 p.2.1.1.1.2.1 p.2.1.1.1.2.2 p.2.1.1.2.1.1 p.2.1.1.2.1.2 p.2.1.1.2.2 p.2.1.2.1.1.1 p.2.1.2.1.1.2 p.2.1.2.1.2 p.2.1.2.2.1.1 p.2.1.2.2.1.2 p.2.1.2.2.2 p.2.2.1.1.1.1 p.2.2.1.1.1.2 p.2.2.1.1.2.1 p.2.2.1.1.2.2 p.2.2.1.2.1.1 p.2.2.1.2.1.2 p.2.2.1.2.2 p.2.2.2.1.1.1 p.2.2.2.1.1.2 p.2.2.2.1.2 p.2.2.2.2.1.1 p.2.2.2.2.1.2 p.2.2.2.2.2
theorem nop_all : Nonempty Top_all := ⟨((((((Classical.choice neW, default), default), default), (default, (default, callerA))), ((default, (({}, default), default)), default)), default)⟩
namespace Cop_all
def pt := ep nop_all Pop_all
@[irreducible] def w := pt.1.1.1.1.1.1
@[irreducible] def loose := pt.1.1.1.1.1.2
@[irreducible] def mean := pt.1.1.1.1.2.1
@[irreducible] def mg := pt.1.1.1.1.2.2
@[irreducible] def mb := pt.1.1.1.2.1.1
@[irreducible] def un := pt.1.1.1.2.1.2
@[irreducible] def gd := pt.1.1.1.2.2
@[irreducible] def cn := pt.1.1.2.1.1.1
@[irreducible] def cs := pt.1.1.2.1.1.2
@[irreducible] def a := pt.1.1.2.1.2.1
@[irreducible] def ccd := pt.1.1.2.1.2.2
@[irreducible] def cl := pt.1.1.2.2.1.1
@[irreducible] def outer := pt.1.1.2.2.1.2
@[irreducible] def A₀ := pt.1.1.2.2.2
@[irreducible] def base := pt.1.2.1.1.1.1
@[irreducible] def h₀ := pt.1.2.1.1.1.2
@[irreducible] def L := pt.1.2.1.1.2.1
@[irreducible] def m := pt.1.2.1.1.2.2
@[irreducible] def s := pt.1.2.1.2.1.1
@[irreducible] def Q := pt.1.2.1.2.1.2
@[irreducible] def E := pt.1.2.1.2.2
@[irreducible] def sm := pt.1.2.2.1.1.1
@[irreducible] def dx := pt.1.2.2.1.1.2
@[irreducible] def ra := pt.1.2.2.1.2
@[irreducible] def rb := pt.1.2.2.2.1.1
@[irreducible] def d2 := pt.1.2.2.2.1.2
@[irreducible] def d4 := pt.1.2.2.2.2
@[irreducible] def d5 := pt.2.1.1.1.1.1
@[irreducible] def t0 := pt.2.1.1.1.1.2
@[irreducible] def t1 := pt.2.1.1.1.2.1
@[irreducible] def t2 := pt.2.1.1.1.2.2
@[irreducible] def t3 := pt.2.1.1.2.1.1
@[irreducible] def t4 := pt.2.1.1.2.1.2
@[irreducible] def t5 := pt.2.1.1.2.2
@[irreducible] def t6 := pt.2.1.2.1.1.1
@[irreducible] def t7 := pt.2.1.2.1.1.2
@[irreducible] def t8 := pt.2.1.2.1.2
@[irreducible] def t9 := pt.2.1.2.2.1.1
@[irreducible] def na := pt.2.1.2.2.1.2
@[irreducible] def nb := pt.2.1.2.2.2
@[irreducible] def x := pt.2.2.1.1.1.1
@[irreducible] def y := pt.2.2.1.1.1.2
@[irreducible] def u := pt.2.2.1.1.2.1
@[irreducible] def v := pt.2.2.1.1.2.2
@[irreducible] def tx := pt.2.2.1.2.1.1
@[irreducible] def ty := pt.2.2.1.2.1.2
@[irreducible] def tu := pt.2.2.1.2.2
@[irreducible] def tv := pt.2.2.2.1.1.1
@[irreducible] def o2 := pt.2.2.2.1.1.2
@[irreducible] def kvs := pt.2.2.2.1.2
@[irreducible] def led := pt.2.2.2.2.1.1
@[irreducible] def l0 := pt.2.2.2.2.1.2
@[irreducible] def l1 := pt.2.2.2.2.2
@[irreducible] def g : Heap := hideAll s.heap [sm, dx]
theorem hgc : hideAll s.heap [sm, dx] = g := by delta g; rfl
@[irreducible] def L' : Addr := s.heap.objs.size
theorem hLc : s.heap.objs.size = L' := by delta L'; rfl
noncomputable def sg0 : (P0 : Nat -> Addr -> (List (Int × Int × Int)) -> Addr -> (List Value) -> Nat -> Heap -> Nat -> (List (Addr × Obj)) -> Prop) ×' ((∀ x0 x1 x2 x3 x4 x5 x6 x7 x8, P0 x0 x1 x2 x3 x4 x5 x6 x7 x8) -> Sop_all w loose mean mg mb un gd cn cs a ccd cl outer A₀ base h₀ L m s Q E sm dx ra rb d2 d4 d5 t0 t1 t2 t3 t4 t5 t6 t7 t8 t9 na nb x y u v tx ty tu tv o2 kvs led l0 l1) := by
 apply PSigma.mk
 case snd =>
   intro hP0
   unfold Sop_all
   intro B F X T hk N hsd hra hrb hd2 hkv hd4 hB hlo2 hun hpat ret
   refine wpAny_call ?_
   k_dflt (refine' enter_plainMC (g := g) (L' := L') (hg := ?hg) (hL := ?hL) ?k1 ?k2 ?kN ?k3 ?k5 ?kA ?kF ?kK ?k6 ?k7 ?k8 ?k9 ?kB ?_ ?c2 ?c3 ?c4 ?c5; (case kA | kF => exact rfl); (case kK => assumption); (case k1 | k2 => k_asm); (case kN => exact N); (case hg => exact hgc); (case hL => exact hLc); (case k3 | k5 => k_asm); (case k6 | k7 => k_is); (case k8 => ktr_room); (case k9 => exact BindsTo.of_eq rfl); (case kB => exact locs rfl); (case c2 | c3 | c4 => exact rfl); (case c5 => decide); intro h' hg F' N' B' X' T'; (try dsimp only); (try k_fold))
   have hg' : g = hideAll s.heap [sm, dx] := hg
   simp only [OpRet] at ret
   rw [← hg'] at hra hrb hd2 hd4 hB ret
   have hgdx : g.get? dx = none := by rw [hg']; exact hideAll_none _ (by simp)
   have hgsm : g.get? sm = none := by rw [hg']; exact hideAll_none _ (by simp)
   replace F' : Fr g L' h' (fun y => List.lookup y [(oS "self", .ref sm)]) := by with_unfolding_all exact F'
   k_steps
   rename Fr g L' _ _ => F9
   with_unfolding_all refine For_turns F9 ?_
   k_steps
   rename Fr g L' _ _ => F9
   rename News g L' _ _ => N9
   have hid : ∀ b o, g.get? b = some o -> (hideAll _ [sm, dx]).get? b = some o := fun b o e => hideAll_get _ (F9.keep _ _ e) (not_two (ne_of_get e hgsm) (ne_of_get e hgdx))
   obtain ⟨an, eA⟩ := nmL N9; subst eA
   have oV : @LT.lt Nat _ dx an ∧ @LT.lt Nat _ sm an := ⟨by omega, by omega⟩
   have ean := N9 _ (.head _)
   dsimp only at ean
   have eanh := hideAll_get [sm, dx] ean.1 (not_two (by omega) (by omega))
   have esm : _ ∧ _ := N9 (sm, _) (by k_mem)
   have edx : _ ∧ _ := N9 (dx, _) (by k_mem)
   dsimp only at esm edx
   refine gmb_spec w loose mean mg mb _ _ _ _ _ _ _ _ _ _ _ _ _ _ _ _ B' F9 X' T' rfl sm dx ra rb d2 d4 d5 _ _ _ _ _ _ _ _ _ _ _ na nb x y u v tx ty tu tv o2 kvs led l0 l1 (news_cons esm (news_cons edx news_nil)) hsd (hid _ _ hra) (hid _ _ hrb) (hid _ _ hd2) hkv (hid _ _ hd4) (hB.keep hid) hlo2 hpat (by show un + 3 < 470; omega) ?_
   intro bs hb S acc c h7 tk7 F7 K7 hS hsm hdx S0 Ssm Sdx hacc
   have S00 := fresh_of S0 (not_two Ssm Sdx)
   have hSan : @Ne Nat S an := (News.neD N9 S00 (an, _) (by k_mem)).symm
   obtain ⟨tb, htb, hblk⟩ := blk_tl hacc
   have hbl : bs.length = acc.length := hacc.1.symm
   have NT : News g L' h7 tb := fun p hp => news_new F9 (fresh_of (htb p hp).2.1 (not_two (htb p hp).2.2.1 (htb p hp).2.2.2)) (htb p hp).1
   have toff : OffL an sm dx tb := fun p hp => ⟨(News.neD N9 (fresh_of (htb p hp).2.1 (not_two (htb p hp).2.2.1 (htb p hp).2.2.2)) (an, _) (by k_mem)).symm, (htb p hp).2.2⟩
   have N10 := news_cons (news_new F9 S00 hS) (news_cons ⟨K7 _ _ eanh, ean.2⟩ (news_cons ⟨hsm, esm.2⟩ (news_cons ⟨hdx, edx.2⟩ NT)))
   have F10 := fr_over [(oS "answer", .ref an), (oS "j", .int 0 _), (oS "i", .int 0 _), (oS "self", .ref sm)] F7 (by with_unfolding_all exact ⟨rfl, rfl, rfl, rfl, trivial⟩)
   obtain ⟨hops, hb2⟩ := ops_ok hb
   clear N9 F9 F7 K7 esm edx ean eanh hid Ssm Sdx S0 S00 hS hsm hdx hacc htb NT hb
   try dsimp only
   revert hb2; revert hops; revert F10; revert N10; revert toff; revert hbl; revert hblk; revert hSan; revert oV; revert hgdx; revert hg'; revert hg; revert T'; revert X'; revert B'; revert ret; revert hpat; revert hun; revert hlo2; revert hB; revert hd4; revert hkv; revert hd2; revert hrb; revert hra; revert hsd; revert N; revert hk; revert T; revert X; revert F; revert B
   rename_i _ vv1 _ _ _ _ _ _ _
   exact hP0 vv1 an bs S acc c h7 tk7 tb
namespace K0_0
abbrev TT : Type := (((Nat × Addr) × (List (Int × Int × Int))) × (Addr × (List Value))) × ((Nat × Heap) × (Nat × (List (Addr × Obj))))
def PP (p : TT) : Prop := sg0.1 p.1.1.1.1 p.1.1.1.2 p.1.1.2 p.1.2.1 p.1.2.2 p.2.1.1 p.2.1.2 p.2.2.1 p.2.2.2
def pt := ep ⟨default⟩ PP
@[irreducible] def vv1 := pt.1.1.1.1
@[irreducible] def an := pt.1.1.1.2
@[irreducible] def bs := pt.1.1.2
@[irreducible] def S := pt.1.2.1
@[irreducible] def acc := pt.1.2.2
@[irreducible] def c := pt.2.1.1
@[irreducible] def h7 := pt.2.1.2
@[irreducible] def tk7 := pt.2.2.1
@[irreducible] def tb := pt.2.2.2
noncomputable def sg1 : (P0 : Addr -> Nat -> Heap -> Nat -> Nat -> (List Value) -> (List (Addr × Obj)) -> (Str -> Option Value) -> Tok -> Tok -> Obj -> Addr -> Addr -> Tok -> Tok -> Tok -> Int -> Int -> Int -> Int -> Int -> (List Opc) -> Prop) ×' ((∀ x0 x1 x2 x3 x4 x5 x6 x7 x8 x9 x10 x11 x12 x13 x14 x15 x16 x17 x18 x19 x20 x21, P0 x0 x1 x2 x3 x4 x5 x6 x7 x8 x9 x10 x11 x12 x13 x14 x15 x16 x17 x18 x19 x20 x21) -> sg0.1 vv1 an bs S acc c h7 tk7 tb) := by
 apply PSigma.mk
 case snd =>
   intro hP0
   unfold sg0
   dsimp only
   intro B F X T hk N hsd hra hrb hd2 hkv hd4 hB hlo2 hun hpat ret B' X' T' hg hg' hgdx oV hSan hblk hbl toff N10 F10 hops hb2
   k_steps
   refine Halt.mk ?_
   with_unfolding_all refine iter_listTurns (by rfl) F10 N10 (.head _) rfl rfl fun I hI => items_J (J := OpJ g sm dx an S I acc c _ tb bs) ?turn ?fin _ 0 _ _ (Nat.zero_add _) ⟨⟨.head _, trivial⟩, _, _, _, _, _, _, rfl, rfl, AllAt.nil, toff, (fun _ hp => hp), Nat.le_refl _, fun p hp => Nat.ne_of_lt (hI p (.tail _ (.tail _ (.tail _ (.tail _ hp)))))⟩
   case turn =>
     rintro n x1 v1 m₁ news₁ h tk hget hv ⟨-, ca, vs, tl, r, ti, tj, rfl, rfl, hin, hoff, hsub, hlv, nTI⟩ F5
     intro oI hcI N5
     have hv' := vals_get hget hv
     simp only [List.cons_append, List.nil_append] at N5
     replace F5 : Fr g L' h _ := F5
     replace N5 : News g L' h _ := N5
     have hnlt : n < bs.length := by
       rcases Nat.lt_or_ge n acc.length with q | q
       . exact hbl ▸ q
       . rw [List.getElem?_eq_none q] at hv'; cases hv'
     have e2 : bs[n]? = some bs[n] := List.getElem?_eq_getElem hnlt
     have hst := ops_next e2
     generalize bs[n] = b at *
     obtain ⟨D, dd, ta, tb', tc, rfl, hDm⟩ := hblk n v1 b hv' e2
     have hDt := hsub _ hDm
     have N6 := news_cons (N5 (D, _) (.tail _ (.tail _ (.tail _ (.tail _ (.tail _ hDt)))))) N5
     have hDo := hoff _ hDt
     dsimp only at N6 hDo
     generalize opsOf (bs.take n) = st at *
     obtain ⟨b1, b2, b3⟩ := b
     obtain ⟨i, j, ops⟩ := st
     dsimp only at hst hDm hDt N6 F5 hin
     obtain ⟨nD, -⟩ := hDo
     have nI : @Ne Nat I an ∧ @Ne Nat I S := ⟨Nat.ne_of_gt (hI (an, _) (by k_mem)), Nat.ne_of_gt (hI (S, _) (by k_mem))⟩
     have lI : @LT.lt Nat _ sm I ∧ @LT.lt Nat _ dx I := ⟨hI (sm, _) (by k_mem), hI (dx, _) (by k_mem)⟩
     have hn2 : n ≤ 2 := by omega
     clear N5 hDm e2 hb2 hnlt hDt hv' hget hv hblk hI toff N10 F10 hbl hops
     revert hn2; revert nTI; revert lI; revert nI; revert nD; revert F5; revert N6; revert hst; revert hin; revert hlv; revert hsub; revert hoff; revert hSan; revert oV; revert T'; revert X'; revert B'; revert ret; revert hpat; revert hun; revert hlo2; revert hB; revert hd4; revert hkv; revert hd2; revert hrb; revert hra; revert hsd; revert N; revert hk; revert T; revert X; revert F; revert B
     exact hP0 I n h tk ca vs tl r ti tj oI D dd ta tb' tc b1 b2 b3 i j ops
   case fin =>
     rintro m₁ news₁ h tk ⟨-, ca, vs, tl, r, ti, tj, rfl, rfl, hin, hoff, hsub, -⟩ F5 N5
     replace F5 : Fr g L' h _ := F5
     replace N5 : News g L' h _ := N5
     have z : (acc.map Itm.val).length = bs.length := by rw [List.length_map]; exact hbl.symm
     rw [z, List.take_length] at hin
     try dsimp only
     k_steps
     rename Fr h₀ L _ _ => kF
     rename News h₀ L _ _ => kN
     have N5' := N5
     exact ret _ hops _ _ _ _ _ kF F5.keep (kN (an, _) (by k_mem)).1 (N5 (an, _) (by k_mem)).2.2 (by omega) (by omega) (allAt_imp hin fun v x => Exists.imp fun D => Exists.imp fun _ => Exists.imp fun _ => Exists.imp fun _ => Exists.imp fun _ => Exists.imp fun _ => Exists.imp fun _ => And.imp_right fun hm => have q := N5 (D, _) (.tail _ (.tail _ (.tail _ (.tail _ hm)))); ⟨q.1, q.2.2, (hoff _ hm).2⟩)
namespace K1_0
abbrev TT : Type := ((((Addr × Nat) × Heap) × ((Nat × Nat) × (List Value))) × ((((List (Addr × Obj)) × (Str -> Option Value)) × Tok) × (Tok × Obj))) × ((((Addr × Addr) × Tok) × ((Tok × Tok) × Int)) × (((Int × Int) × Int) × (Int × (List Opc))))
def PP (p : TT) : Prop := sg1.1 p.1.1.1.1.1 p.1.1.1.1.2 p.1.1.1.2 p.1.1.2.1.1 p.1.1.2.1.2 p.1.1.2.2 p.1.2.1.1.1 p.1.2.1.1.2 p.1.2.1.2 p.1.2.2.1 p.1.2.2.2 p.2.1.1.1.1 p.2.1.1.1.2 p.2.1.1.2 p.2.1.2.1.1 p.2.1.2.1.2 p.2.1.2.2 p.2.2.1.1.1 p.2.2.1.1.2 p.2.2.1.2 p.2.2.2.1 p.2.2.2.2
def pt := ep ⟨default⟩ PP
@[irreducible] def I := pt.1.1.1.1.1
@[irreducible] def n := pt.1.1.1.1.2
@[irreducible] def h := pt.1.1.1.2
@[irreducible] def tk := pt.1.1.2.1.1
@[irreducible] def ca := pt.1.1.2.1.2
@[irreducible] def vs := pt.1.1.2.2
@[irreducible] def tl := pt.1.2.1.1.1
@[irreducible] def r := pt.1.2.1.1.2
@[irreducible] def ti := pt.1.2.1.2
@[irreducible] def tj := pt.1.2.2.1
@[irreducible] def oI := pt.1.2.2.2
@[irreducible] def D := pt.2.1.1.1.1
@[irreducible] def dd := pt.2.1.1.1.2
@[irreducible] def ta := pt.2.1.1.2
@[irreducible] def tb' := pt.2.1.2.1.1
@[irreducible] def tc := pt.2.1.2.1.2
@[irreducible] def b1 := pt.2.1.2.2
@[irreducible] def b2 := pt.2.2.1.1.1
@[irreducible] def b3 := pt.2.2.1.1.2
@[irreducible] def i := pt.2.2.1.2
@[irreducible] def j := pt.2.2.2.1
@[irreducible] def ops := pt.2.2.2.2
noncomputable def sg2 : (P0 : Nat -> Heap -> Prop) ×' ((∀ x0 x1, P0 x0 x1) -> sg1.1 I n h tk ca vs tl r ti tj oI D dd ta tb' tc b1 b2 b3 i j ops) := by
 apply PSigma.mk
 case snd =>
   intro hP0
   unfold sg1
   dsimp only
   intro B F X T hk N hsd hra hrb hd2 hkv hd4 hB hlo2 hun hpat ret B' X' T' oV hSan hoff hsub hlv hin hst N6 F5 nD nI lI nTI hn2
   have nIa : @Ne Nat I an := nI.1
   have nT : ∀ p ∈ tl, p.1 ≠ an := fun p hp => (hoff p hp).1
   have hl1 : vs.length ≤ 100 := by omega
   k_steps
   . rename Fr g L' _ _ => F9
     rename News g L' _ _ => N9
     obtain ⟨hm, eH⟩ := nmH N9; subst eH
     have hM := opM_add (n := n) (b3 := b3) (tc := tc) (tb := tb) F9 (by with_unfolding_all exact ⟨rfl, rfl, rfl, rfl, rfl, trivial⟩) N9 hin hoff hsub hlv nTI (by assumption)
     rw [← tag_r (b := (b1, b2, b3)) (by assumption) (by assumption)] at hM
     clear N9 F9 hin hoff hsub hlv nTI
     revert hM; revert hn2; revert lI; revert nI; revert hst; revert oV; revert hSan; revert T'; revert X'; revert B'; revert ret; revert hpat; revert hun; revert hlo2; revert hB; revert hd4; revert hkv; revert hd2; revert hrb; revert hra; revert hsd; revert N; revert hk; revert T; revert X; revert F; revert B
     rename_i _ _ _ _ _ _ _ _ _ _ vv10 _ _ _
     exact hP0 vv10 hm
   . rename Fr g L' _ _ => F9
     rename News g L' _ _ => N9
     obtain ⟨hm, eH⟩ := nmH N9; subst eH
     have hM := opM_add (n := n) (b3 := b3) (tc := tc) (tb := tb) F9 (by with_unfolding_all exact ⟨rfl, rfl, rfl, rfl, rfl, trivial⟩) N9 hin hoff hsub hlv nTI (by assumption)
     rw [← tag_d (b := (b1, b2, b3)) (by assumption) (by assumption)] at hM
     revert hM; revert hn2; revert lI; revert nI; revert hst; revert oV; revert hSan; revert T'; revert X'; revert B'; revert ret; revert hpat; revert hun; revert hlo2; revert hB; revert hd4; revert hkv; revert hd2; revert hrb; revert hra; revert hsd; revert N; revert hk; revert T; revert X; revert F; revert B
     exact hP0 _ _
   . rename Fr g L' _ _ => F9
     rename News g L' _ _ => N9
     obtain ⟨hm, eH⟩ := nmH N9; subst eH
     have hM := opM_add (n := n) (b3 := b3) (tc := tc) (tb := tb) F9 (by with_unfolding_all exact ⟨rfl, rfl, rfl, rfl, rfl, trivial⟩) N9 hin hoff hsub hlv nTI (by assumption)
     rw [← tag_i (b := (b1, b2, b3)) (by assumption) (by assumption)] at hM
     revert hM; revert hn2; revert lI; revert nI; revert hst; revert oV; revert hSan; revert T'; revert X'; revert B'; revert ret; revert hpat; revert hun; revert hlo2; revert hB; revert hd4; revert hkv; revert hd2; revert hrb; revert hra; revert hsd; revert N; revert hk; revert T; revert X; revert F; revert B
     exact hP0 _ _
   . rename Fr g L' _ _ => F9
     rename News g L' _ _ => N9
     obtain ⟨hm, eH⟩ := nmH N9; subst eH
     have hM := opM_nil (n := n) (b3 := b3) (tc := tc) (tb := tb) F9 (by with_unfolding_all exact ⟨rfl, rfl, rfl, rfl, rfl, trivial⟩) N9 hin hoff hsub hlv nTI
     rw [← tag_n (b := (b1, b2, b3)) (ops := ops) (by assumption) (by assumption)] at hM
     revert hM; revert hn2; revert lI; revert nI; revert hst; revert oV; revert hSan; revert T'; revert X'; revert B'; revert ret; revert hpat; revert hun; revert hlo2; revert hB; revert hd4; revert hkv; revert hd2; revert hrb; revert hra; revert hsd; revert N; revert hk; revert T; revert X; revert F; revert B
     exact hP0 _ _
namespace K2_0
abbrev TT : Type := Nat × Heap
def PP (p : TT) : Prop := sg2.1 p.1 p.2
def pt := ep ⟨default⟩ PP
@[irreducible] def vv10 := pt.1
@[irreducible] def hm := pt.2
theorem sg3 : sg2.1 vv10 hm := by
 unfold sg2
 dsimp only
 intro B F X T hk N hsd hra hrb hd2 hkv hd4 hB hlo2 hun hpat ret B' X' T' hSan oV hst nI lI hn2 hM
 obtain ⟨ca, vs, tl, r, F, N, hin, hoff, hsub, hl, nTI⟩ := hM
 have nT : ∀ p ∈ tl, p.1 ≠ an := fun p hp => (hoff p hp).1
 have nIa : @Ne Nat I an := nI.1
 have hl1 : vs.length ≤ 100 := by omega
 try dsimp only
 refine Halt.mk ?_
 walk_at "exec Assign"
 k_steps
 . rename Fr g L' _ _ => F9
   rename News g L' _ _ => N9
   refine Halt.mk ?_
   rename AllLt _ ((_, tup _) :: _) => lT
   exact opJ_end (ca := ca + 1) (vs := vs ++ [.ref _]) (tl := (_, _) :: tl) F9 (by with_unfolding_all exact ⟨rfl, rfl, rfl, rfl, trivial⟩) N9 (by k_mem) sub5 (hst.trans (stp_1 (by assumption))) ((OpIn.up hin).push ⟨_, 0, _, _, _, _, _, rfl, .head _⟩) (OffL.up hoff ⟨neM' lT (by k_mem), neM' lT (by k_mem), neM' lT (by k_mem)⟩) (fun p hp => .tail _ (hsub p hp)) (by rw [List.length_append]; exact Nat.succ_le_succ hl) (fun p hp => by
     rcases List.mem_cons.mp hp with rfl | hp
     . exact neM' lT (by k_mem)
     . exact nTI p hp) nI lI
 . rename Fr g L' _ _ => F9
   rename News g L' _ _ => N9
   refine Halt.mk ?_
   exact opJ_end F9 (by with_unfolding_all exact ⟨rfl, rfl, rfl, rfl, trivial⟩) N9 (by k_mem) (fun p hp => by
     repeat (first | exact hp | apply List.Mem.tail)) (hst.trans (stp_0 (by assumption))) hin hoff hsub (Nat.le_succ_of_le hl) nTI nI lI
theorem fin : ∀ x, PP x := drink ⟨default⟩ PP (by with_unfolding_all exact sg3)
end K2_0
theorem fin : ∀ x, PP x := drink ⟨default⟩ PP (by with_unfolding_all exact sg2.2 (by intros; exact K2_0.fin (_, _)))
end K1_0
theorem fin : ∀ x, PP x := drink ⟨default⟩ PP (by with_unfolding_all exact sg1.2 (by intros; exact K1_0.fin (((((_, _), _), ((_, _), _)), (((_, _), _), (_, _))), ((((_, _), _), ((_, _), _)), (((_, _), _), (_, _))))))
end K0_0
theorem main : Sop_all w loose mean mg mb un gd cn cs a ccd cl outer A₀ base h₀ L m s Q E sm dx ra rb d2 d4 d5 t0 t1 t2 t3 t4 t5 t6 t7 t8 t9 na nb x y u v tx ty tu tv o2 kvs led l0 l1 := sg0.2 (by intros; exact K0_0.fin ((((_, _), _), (_, _)), ((_, _), (_, _))))
end Cop_all
theorem op_all : ∀ w loose mean mg mb un gd cn cs a ccd cl outer A₀ base h₀ L m s Q E (B : Below A₀ base outer h₀) (F : Fr h₀ L s.heap m) (X : (Mine.KR w.params).In h₀) (T : Top topProg loose mean mg mb h₀) (hk : cs.kind = .function) sm dx ra rb d2 d4 d5 t0 t1 t2 t3 t4 t5 t6 t7 t8 t9 na nb x y u v tx ty tu tv o2 kvs led l0 l1, Qop_all w un gd cn cs a ccd cl outer h₀ L m s Q E sm dx ra rb d2 d4 d5 t0 t1 t2 t3 t4 t5 t6 t7 t8 t9 na nb x y u v tx ty tu tv o2 kvs led l0 l1 :=
 fun w loose mean mg mb un gd cn cs a ccd cl outer A₀ base h₀ L m s Q E B F X T hk sm dx ra rb d2 d4 d5 t0 t1 t2 t3 t4 t5 t6 t7 t8 t9 na nb x y u v tx ty tu tv o2 kvs led l0 l1 => drink nop_all Pop_all (by with_unfolding_all exact Cop_all.main) ((((((w, loose), (mean, mg)), ((mb, un), gd)), (((cn, cs), (a, ccd)), ((cl, outer), A₀))), ((((base, h₀), (L, m)), ((s, Q), E)), (((sm, dx), ra), ((rb, d2), d4)))), (((((d5, t0), (t1, t2)), ((t3, t4), t5)), (((t6, t7), t8), ((t9, na), nb))), ((((x, y), (u, v)), ((tx, ty), tu)), (((tv, o2), kvs), ((led, l0), l1))))) B F X T hk
end
end Mine
end
noncomputable section
example : True := by w_top off; trivial
namespace Mine
noncomputable section
local macro_rules | `(tactic| omega) => `(tactic| walk_at "o")
local macro_rules | `(tactic| walk_at "subscriptTail Name Constant ref int") => `(tactic| (with_unfolding_all refine itK (by first | walk_at "l" | walk_at "m") (by first | exact rfl | exact get0 | exact get1 | exact get2) (by omega) ?_))
section
variable {prog : Program} {w : World} {A : Around} {E : Value -> Shared -> Prop} {s : Shared} {h₀ : Heap} {L : Addr} {m : Str -> Option Value} {news : List (Addr × Obj)} {l : Addr} {c x : Int} {t u : Tok} {Q : Value -> Shared -> Prop}
theorem rep_one {v : Value} (k : Nat) : (List.replicate k [v]).flatten = List.replicate k v := by
 induction k with
 | zero => rfl
 | succ k ih => rw [List.replicate_succ, List.flatten_cons, ih]; rfl
theorem ints_rep1 (c : Int) (t : Tok) : ∀ k : Nat, IntsAre (List.replicate k (.int c t)) (List.replicate k c)
 | 0 => .nil
 | k + 1 => .cons c t (ints_rep1 c t k)
theorem mul_one (F : Fr h₀ L s.heap m) (N : News h₀ L s.heap news) (hl : s.heap.IsList l [Value.int c t].toArray) (h0 : 0 ≤ x) (h1 : x ≤ 3)
   (h : ∀ D h' vs, IntsAre vs (List.replicate x.toNat c) -> Fr h₀ L h' m -> News h₀ L h' ((D, PySem.W.listOf vs.toArray 0) :: news) -> (∀ p ∈ news, p.1 < D) -> Q (.ref D) { s with heap := h' }) : wpAny (model prog w) A (binaryOp .Mult (.ref l) (.int x u)) Q E s :=
 KMa.mul F N hl (by omega) (by omega) (by simp only [List.length_cons, List.length_nil]; omega) (rep_one _) fun D h' F' N' l1 => h D h' _ (ints_rep1 c t _) F' N' l1
end
local macro_rules | `(tactic| walk_at "binaryOp Mult ref int") => `(tactic| (k_dflt (refine mul_one (by k_asm) (by k_asm) (by walk_at "m") (by assumption) (by omega) ?_); intro D' h' vs' hi' F' N' l1; (try k_lt l1); (try k_sweep)))
theorem len_two {α : Type} {l : List α} (h : l.length = 2) : ∃ x y, l = [x, y] := by
 obtain ⟨x, l, rfl⟩ := List.exists_cons_of_length_eq_add_one h
 obtain ⟨y, l, rfl⟩ := List.exists_cons_of_length_eq_add_one (Nat.succ.inj h)
 obtain rfl := List.length_eq_zero_iff.mp (Nat.succ.inj (Nat.succ.inj h))
 exact ⟨x, y, rfl⟩
theorem two_ints {vs : List Value} {ns : List Int} (h : IntsAre vs ns) (e : ns.length = 2) : ∃ x y tx ty, vs = [.int x tx, .int y ty] ∧ ns = [x, y] := by
 obtain ⟨x, y, rfl⟩ := len_two e
 obtain ⟨t0, _, rfl, h1⟩ := ints_inv h
 obtain ⟨t1, _, rfl, h2⟩ := ints_inv h1
 obtain rfl := ints_nil h2
 exact ⟨x, y, t0, t1, rfl, rfl⟩
local macro_rules | `(tactic| k_ne) => `(tactic| (refine neN ?_; (try dsimp only); first | exact NeD.l (by assumption) (by k_mem) | exact NeD.r (by assumption) (by k_mem)))
theorem nmOf {h : Heap} {a : Addr} {o : Option Obj} {r : Prop} (_ : h.get? a = o ∧ r) : ∃ b : Addr, b = a := ⟨a, rfl⟩
section
variable {prog : Program} {w : World} {A : Around} {E : Value -> Shared -> Prop} {h₀ : Heap} {L l D b : Addr} {m : Str -> Option Value} {news : List (Addr × Obj)} {value slice : PySem.Expr} {vl vu : Value} {lo hi : Option Int} {Q : Value -> Shared -> Prop}
theorem bslice {hp : Heap} {gs : Array GenState} {dr : Drawn} {tk : Nat} {os : OsState} {xs : List Value} (F : Fr h₀ L hp m) (N : News h₀ L hp news) (hl : hp.IsList l xs.toArray) (pl : IsPart vl lo) (pu : IsPart vu hi) (hx : xs.length ≤ 2)
   (h : ∀ D h', Fr h₀ L h' m -> News h₀ L h' ((D, lst (pick xs lo hi) 0) :: news) -> (∀ p ∈ news, p.1 < D) -> Q (.ref D) ⟨h', gs, dr, tk, os⟩)
   (hs : subscripted slice false (.ref l) (.ref hp.objs.size) = operate [.ref hp.objs.size, .ref l] (getItem (.ref l) (.ref hp.objs.size))) (ht : ∀ r, letTemporaryGo value (.ref l) r = pure ()) :
   wpAny (model prog w) A (subscriptTail value slice (.ref l) (.ref hp.objs.size)) Q E ⟨hp.push { cls := .type "slice", data := .fields #[vl, vu, .none] }, gs, dr, tk, os⟩ := by
 refine kmk_slice_lit (s := ⟨hp, gs, dr, tk, os⟩) F N hl pl pu rfl (fun D h' => h D h') hs ht ?_
 rw [List.size_toArray]
 exact Nat.le_trans hx (Nat.le_of_ble_eq_true rfl)
theorem bext {s : Shared} {vs zs : List Value} {n n2 : Nat} {g : Obj -> List (Addr × Obj)} (F : Fr h₀ L s.heap m) (N : News h₀ L s.heap news) (hb : (b, lst zs n2) ∈ news) (U : UpdF D (lst vs n) news g) (hv : vs.length ≤ 100) (hz : zs.length ≤ 2)
   (h : ∀ h' n', Fr h₀ L h' m -> News h₀ L h' (g (lst (vs ++ zs) n')) -> Q .none { s with heap := h' }) : wpAny (model prog w) A (call (.builtin "list.extend") [.ref D, .ref b]) Q E s := by
 have e0 : ¬ (!vs.toArray.isEmpty && Builtin.List.listTooLong (vs.toArray.size + zs.toArray.size)) = true := by
   have : Builtin.List.listTooLong (vs.toArray.size + zs.toArray.size) = false := by
     unfold Builtin.List.listTooLong
     simp only [List.size_toArray]
     apply decide_eq_false
     have : (102 : Nat) ≤ sizeLine := Nat.le_of_ble_eq_true rfl
     omega
   rw [this, Bool.and_false]; exact Bool.false_ne_true
 have e1 : vs.toArray.toList.length ≤ sizeLine := Nat.le_trans hv (Nat.le_of_ble_eq_true rfl)
 have e2 : vs.toArray.size + zs.toArray.size ≤ sizeLine + 1 := by
   simp only [List.size_toArray]
   have : (102 : Nat) ≤ sizeLine + 1 := Nat.le_of_ble_eq_true rfl
   omega
 cases zs with
 | nil => exact kxn_extend (its := vs.toArray) (its2 := #[]) F N hb rfl (updOf U _) e0 e1 e2 fun h' F' N' => h h' n F' (by rw [List.append_nil]; exact N')
 | cons z zs => exact kl_extend (its := vs.toArray) (its2 := (z :: zs).toArray) (l := vs ++ z :: zs) F N hb (by simp) (Nat.succ_ne_zero _) (updOf U _) e0 e1 e2 fun h' F' N' => h h' _ F' N'
end
def OpAt (g : Heap) (L : Addr) (muts : List Addr) (h : Heap) (v : Value) (x : String × Int × Int × Int × Int) : Prop :=
 ∃ D n tt ta tb tc td, v = .ref D ∧ h.get? D = some (tup [.str (oS x.1) tt, .int x.2.1 ta, .int x.2.2.1 tb, .int x.2.2.2.1 tc, .int x.2.2.2.2 td] n) ∧ (@Ne Nat D L ∧ g.get? D = none) ∧ D ∉ muts
theorem OpAt.ks {g h h' : Heap} {L : Addr} {muts : List Addr} {v : Value} {x : String × Int × Int × Int × Int} (k : KeepsSeq muts h h') (H : OpAt g L muts h v x) : OpAt g L muts h' v x := by
 exact Exists.imp (fun _ => Exists.imp fun _ => Exists.imp fun _ => Exists.imp fun _ => Exists.imp fun _ => Exists.imp fun _ => Exists.imp fun _ => And.imp_right fun q => ⟨k _ _ isSeq_tup q.2.2 q.1, q.2⟩) H
theorem off_map {l l' : List (Addr × Obj)} {I : Addr} {o : Obj} (h : ∀ p ∈ l, p.1 < I) (e : l'.map Prod.fst = l.map Prod.fst) : ∀ p ∈ l', ∀ q ∈ [(I, o)], p.1 ≠ q.1 := fun p hp q hq => by
 rw [List.mem_singleton.mp hq]
 have z : p.1 ∈ l.map Prod.fst := e ▸ List.mem_map_of_mem hp
 obtain ⟨r, hr, er⟩ := List.mem_map.mp z
 exact er ▸ Nat.ne_of_lt (h r hr)
def BeyRet (h₀ : Heap) (L : Addr) (m : Str -> Option Value) (s : Shared) (Q : Value -> Shared -> Prop) (one two : Int × Int × Int) : Prop :=
 ∀ R R0 R1 c c0 c1 vs0 vs1 l0 l1 h' tk', Fr h₀ L h' m -> Keeps s.heap h' -> h'.get? R = some (lst [.ref R0, .ref R1] c) -> h'.get? R0 = some (lst vs0 c0) -> h'.get? R1 = some (lst vs1 c1) ->
   s.heap.get? R = none -> s.heap.get? R0 = none -> s.heap.get? R1 = none -> IntsAre vs0 l0 -> IntsAre vs1 l1 -> RestsOk one two l0 l1 -> Q (.ref R) { s with heap := h', toks := tk' }
local macro_rules | `(tactic| k_all) => `(tactic| assumption)
local macro_rules | `(tactic| walk_at $k) => if ["exec For Tuple Call", "exec Assign cons BinOp", "call ref", "pyIter ref", "UnrPostW", "subscriptTail Name Slice ref ref", "call builtin:list.extend"].contains k.getString then `(tactic| refine Halt.go ?_) else Lean.Macro.throwUnsupported
section
variable (w : World) (loose : List Str) (mean : ExcName -> Option Value) (mg mb : Str -> Option Value) (un : Nat) (gd : Option (List Code)) (cn : Str) (cs : Scope) (a : Addr) (ccd : Value) (cl : List (Str × Addr)) (outer : List Env) (A₀ : Around) (base h₀ : Heap) (L : Addr) (m : Str -> Option Value) (s : Shared) (Q E : Value -> Shared -> Prop) (a1 a2 : Addr) (x0 x1 x2 y0 y1 y2 : Int) (tx0 tx1 tx2 ty0 ty1 ty2 : Tok) (n1 n2 : Nat)
def Qbeyond_spec : Prop :=
 ∀ (h1 : s.heap.get? a1 = some (lst [.int x0 tx0, .int x1 tx1, .int x2 tx2] n1)),
 ∀ (h2 : s.heap.get? a2 = some (lst [.int y0 ty0, .int y1 ty1, .int y2 ty2] n2)),
 ∀ (hx0 : 0 ≤ x0),
 ∀ (hx1 : 0 ≤ x1),
 ∀ (hx2 : 0 ≤ x2),
 ∀ (hxs : x0 + x1 + x2 = 2),
 ∀ (hy0 : 0 ≤ y0),
 ∀ (hy1 : 0 ≤ y1),
 ∀ (hy2 : 0 ≤ y2),
 ∀ (hys : y0 + y1 + y2 = 2),
 ∀ (hne : ¬ (x0 = y0 ∧ x1 = y1 ∧ x2 = y2)),
 ∀ (hun : un < 450),
 ∀ (ret : BeyRet h₀ L m s Q (x0, x1, x2) (y0, y1, y2)),
 wpAny (model PW w) (ktrTop 303 un gd cn cs L a ccd cl outer) (call (.ref 315) [.ref a1, .ref a2]) Q E s
def Sbeyond_spec : Prop :=
 ∀ (B : Below A₀ base outer h₀),
 ∀ (F : Fr h₀ L s.heap m),
 ∀ (X : (Mine.KR w.params).In h₀),
 ∀ (T : Top topProg loose mean mg mb h₀),
 ∀ (hk : cs.kind = .function),
 Qbeyond_spec w un gd cn cs a ccd cl outer h₀ L m s Q E a1 a2 x0 x1 x2 y0 y1 y2 tx0 tx1 tx2 ty0 ty1 ty2 n1 n2
end
abbrev Tbeyond_spec : Type := (((((World × (List Str)) × (ExcName -> Option Value)) × ((Str -> Option Value) × (Str -> Option Value))) × (((Nat × (Option (List Code))) × Str) × (Scope × Addr))) × ((((Value × (List (Str × Addr))) × (List Env)) × (Around × Heap)) × ((Heap × Addr) × ((Str -> Option Value) × Shared)))) × ((((((Value -> Shared -> Prop) × (Value -> Shared -> Prop)) × Addr) × (Addr × Int)) × ((Int × Int) × (Int × Int))) × ((((Int × Tok) × Tok) × (Tok × Tok)) × ((Tok × Tok) × (Nat × Nat))))
def Pbeyond_spec (p : Tbeyond_spec) : Prop := Sbeyond_spec p.1.1.1.1.1.1 p.1.1.1.1.1.2 p.1.1.1.1.2 p.1.1.1.2.1 p.1.1.1.2.2 p.1.1.2.1.1.1 p.1.1.2.1.1.2 p.1.1.2.1.2 p.1.1.2.2.1 p.1.1.2.2.2 p.1.2.1.1.1.1 p.1.2.1.1.1.2 p.1.2.1.1.2 p.1.2.1.2.1 p.1.2.1.2.2 p.1.2.2.1.1 p.1.2.2.1.2 p.1.2.2.2.1 p.1.2.2.2.2 p.2.1.1.1.1.1 p.2.1.1.1.1.2 p.2.1.1.1.2 p.2.1.1.2.1 p.2.1.1.2.2 p.2.1.2.1.1 p.2.1.2.1.2 p.2.1.2.2.1 p.2.1.2.2.2 p.2.2.1.1.1.1 p.2.2.1.1.1.2 p.2.2.1.1.2 p.2.2.1.2.1 p.2.2.1.2.2 p.2.2.2.1.1 p.2.2.2.1.2 p.2.2.2.2.1 p.2.2.2.2.2
theorem nbeyond_spec : Nonempty Tbeyond_spec := ⟨((((((Classical.choice neW, default), default), default), default), ((default, (callerA, default)), (default, (default, {})))), default)⟩
namespace Cbeyond_spec
def pt := ep nbeyond_spec Pbeyond_spec
@[irreducible] def w := pt.1.1.1.1.1.1
@[irreducible] def loose := pt.1.1.1.1.1.2
@[irreducible] def mean := pt.1.1.1.1.2
@[irreducible] def mg := pt.1.1.1.2.1
@[irreducible] def mb := pt.1.1.1.2.2
@[irreducible] def un := pt.1.1.2.1.1.1
@[irreducible] def gd := pt.1.1.2.1.1.2
@[irreducible] def cn := pt.1.1.2.1.2
@[irreducible] def cs := pt.1.1.2.2.1
@[irreducible] def a := pt.1.1.2.2.2
@[irreducible] def ccd := pt.1.2.1.1.1.1
@[irreducible] def cl := pt.1.2.1.1.1.2
@[irreducible] def outer := pt.1.2.1.1.2
@[irreducible] def A₀ := pt.1.2.1.2.1
@[irreducible] def base := pt.1.2.1.2.2
@[irreducible] def h₀ := pt.1.2.2.1.1
@[irreducible] def L := pt.1.2.2.1.2
@[irreducible] def m := pt.1.2.2.2.1
@[irreducible] def s := pt.1.2.2.2.2
@[irreducible] def Q := pt.2.1.1.1.1.1
@[irreducible] def E := pt.2.1.1.1.1.2
@[irreducible] def a1 := pt.2.1.1.1.2
@[irreducible] def a2 := pt.2.1.1.2.1
@[irreducible] def x0 := pt.2.1.1.2.2
@[irreducible] def x1 := pt.2.1.2.1.1
@[irreducible] def x2 := pt.2.1.2.1.2
@[irreducible] def y0 := pt.2.1.2.2.1
@[irreducible] def y1 := pt.2.1.2.2.2
@[irreducible] def y2 := pt.2.2.1.1.1.1
@[irreducible] def tx0 := pt.2.2.1.1.1.2
@[irreducible] def tx1 := pt.2.2.1.1.2
@[irreducible] def tx2 := pt.2.2.1.2.1
@[irreducible] def ty0 := pt.2.2.1.2.2
@[irreducible] def ty1 := pt.2.2.2.1.1
@[irreducible] def ty2 := pt.2.2.2.1.2
@[irreducible] def n1 := pt.2.2.2.2.1
@[irreducible] def n2 := pt.2.2.2.2.2
@[irreducible] def L' : Addr := s.heap.objs.size
theorem hLc : s.heap.objs.size = L' := by delta L'; rfl
noncomputable def sg0 : (P0 : Nat -> Addr -> Heap -> Int -> Int -> Tok -> Tok -> Prop) ×' ((∀ x0 x1 x2 x3 x4 x5 x6, P0 x0 x1 x2 x3 x4 x5 x6) -> Sbeyond_spec w loose mean mg mb un gd cn cs a ccd cl outer A₀ base h₀ L m s Q E a1 a2 x0 x1 x2 y0 y1 y2 tx0 tx1 tx2 ty0 ty1 ty2 n1 n2) := by
 apply PSigma.mk
 case snd =>
   intro hP0
   unfold Sbeyond_spec
   intro B F X T hk h1 h2 hx0 hx1 hx2 hxs hy0 hy1 hy2 hys hne hun ret
   unfold BeyRet at ret
   refine wpAny_call ?_
   k_dflt (refine' enter_plainTC (L' := L') (hL := ?hL) ?k1 ?k2 ?k3 ?k5 ?kA ?kF ?kK ?k6 ?k7 ?k8 ?k9 ?kB ?_ ?c2 ?c3 ?c4 ?c5; (case kA | kF => exact rfl); (case kK => assumption); (case k1 | k2 => k_asm); (case hL => exact hLc); (case k3 | k5 => k_asm); (case k6 | k7 => k_is); (case k8 => ktr_room); (case k9 => exact BindsTo.of_eq rfl); (case kB => exact locs rfl); (case c2 | c3 | c4 => exact rfl); (case c5 => decide); intro h' tk' F' N' B' X' T'; (try dsimp only); (try k_fold))
   rename Fr s.heap L' _ _ => F1
   replace F1 : Fr s.heap L' h' (fun y => List.lookup y [(oS "two", .ref a2), (oS "one", .ref a1)]) := by with_unfolding_all exact F1
   k_steps
   refine Halt.mk ?_
   walk_at "exec Assign"
   k_steps
   rename Fr s.heap L' _ _ => F9
   rename News s.heap L' _ _ => N9
   rename IntsAre _ (List.replicate x0.toNat 0 ++ List.replicate x1.toNat 1 ++ List.replicate x2.toNat 2) => hi1
   have nA := N9 _ (.head _)
   dsimp only at nA
   obtain ⟨ra, eR⟩ := nmOf nA; subst eR
   have NL := news_cons nA news_nil
   obtain ⟨hX, eR⟩ := nmH NL; subst eR
   clear N9 nA
   have ln1 := two_ints hi1 (by simp only [List.length_append, List.length_replicate]; omega)
   obtain ⟨x, y, tx, ty, e1, e1'⟩ := ln1
   subst e1
   revert e1'; revert NL; revert F9; revert T'; revert X'; revert B'; revert ret; revert hun; revert hne; revert hys; revert hy2; revert hy1; revert hy0; revert hxs; revert hx2; revert hx1; revert hx0; revert h2; revert h1; revert hk; revert T; revert X; revert F; revert B
   exact hP0 tk ra hX x y tx ty
namespace K0_0
abbrev TT : Type := ((Nat × Addr) × (Heap × Int)) × ((Int × Tok) × Tok)
def PP (p : TT) : Prop := sg0.1 p.1.1.1 p.1.1.2 p.1.2.1 p.1.2.2 p.2.1.1 p.2.1.2 p.2.2
def pt := ep ⟨default⟩ PP
@[irreducible] def tk := pt.1.1.1
@[irreducible] def ra := pt.1.1.2
@[irreducible] def hX := pt.1.2.1
@[irreducible] def x := pt.1.2.2
@[irreducible] def y := pt.2.1.1
@[irreducible] def tx := pt.2.1.2
@[irreducible] def ty := pt.2.2
noncomputable def sg1 : (P0 : Nat -> Int -> Int -> Tok -> Tok -> (List Int) -> (List Int) -> Addr -> Addr -> Addr -> Addr -> Heap -> Prop) ×' ((∀ x0 x1 x2 x3 x4 x5 x6 x7 x8 x9 x10 x11, P0 x0 x1 x2 x3 x4 x5 x6 x7 x8 x9 x10 x11) -> sg0.1 tk ra hX x y tx ty) := by
 apply PSigma.mk
 case snd =>
   intro hP0
   unfold sg0
   dsimp only
   intro B F X T hk h1 h2 hx0 hx1 hx2 hxs hy0 hy1 hy2 hys hne hun ret B' X' T' F9 NL e1'
   try dsimp only
   refine Halt.mk ?_
   walk_at "exec Assign"
   k_steps
   rename Fr s.heap L' _ _ => F9
   with_unfolding_all refine For_turns F9 ?_
   k_steps
   rename IntsAre _ (List.replicate y0.toNat 0 ++ List.replicate y1.toNat 1 ++ List.replicate y2.toNat 2) => hi2
   have ln2 := two_ints hi2 (by simp only [List.length_append, List.length_replicate]; omega)
   obtain ⟨u, v, tu, tv, e2, e2'⟩ := ln2
   subst e2
   obtain ⟨l0, l1, hpat, hrests⟩ := pats hx0 hx1 hx2 hxs hy0 hy1 hy2 hys hne e1' e2'
   clear hi2 e1' e2' hx0 hx1 hx2 hxs hy0 hy1 hy2 hys hne
   rename Fr s.heap L' _ _ => F9
   rename News s.heap L' _ _ => N9
   have nR := N9 _ (.head _)
   have nR1 := N9 _ (.tail _ (.head _))
   have nR0 := N9 _ (.tail _ (.tail _ (.head _)))
   have nB := N9 _ (.tail _ (.tail _ (.tail _ (.head _))))
   have nA : _ ∧ _ := N9 (ra, _) (by k_mem)
   dsimp only at nR nR1 nR0 nB nA
   obtain ⟨R, eR⟩ := nmOf nR; subst eR
   obtain ⟨R1, eR⟩ := nmOf nR1; subst eR
   obtain ⟨R0, eR⟩ := nmOf nR0; subst eR
   obtain ⟨rb, eR⟩ := nmOf nB; subst eR
   have R10 : (@LT.lt Nat _ R0 R1 ∧ @LT.lt Nat _ R1 R) ∧ @LT.lt Nat _ ra rb ∧ @LT.lt Nat _ rb R0 := ⟨⟨by omega, by omega⟩, by omega, by omega⟩
   have NL := news_cons nB (news_cons nR (news_cons nR1 (news_cons nR0 (news_cons nA news_nil))))
   obtain ⟨hX, eR⟩ := nmH NL; subst eR
   revert R10; revert hrests; revert hpat; revert NL; revert F9; revert T'; revert X'; revert B'; revert ret; revert hun; revert h2; revert h1; revert hk; revert T; revert X; revert F; revert B
   exact hP0 tk u v tu tv l0 l1 R R1 R0 rb hX
namespace K1_0
abbrev TT : Type := (((Nat × Int) × Int) × ((Tok × Tok) × (List Int))) × ((((List Int) × Addr) × Addr) × ((Addr × Addr) × Heap))
def PP (p : TT) : Prop := sg1.1 p.1.1.1.1 p.1.1.1.2 p.1.1.2 p.1.2.1.1 p.1.2.1.2 p.1.2.2 p.2.1.1.1 p.2.1.1.2 p.2.1.2 p.2.2.1.1 p.2.2.1.2 p.2.2.2
def pt := ep ⟨default⟩ PP
@[irreducible] def tk := pt.1.1.1.1
@[irreducible] def u := pt.1.1.1.2
@[irreducible] def v := pt.1.1.2
@[irreducible] def tu := pt.1.2.1.1
@[irreducible] def tv := pt.1.2.1.2
@[irreducible] def l0 := pt.1.2.2
@[irreducible] def l1 := pt.2.1.1.1
@[irreducible] def R := pt.2.1.1.2
@[irreducible] def R1 := pt.2.1.2
@[irreducible] def R0 := pt.2.2.1.1
@[irreducible] def rb := pt.2.2.1.2
@[irreducible] def hX := pt.2.2.2
noncomputable def sg2 : (P0 : (List (String × Int × Int × Int × Int)) -> Addr -> (List Value) -> Nat -> Heap -> Nat -> (List (Addr × Obj)) -> Addr -> Nat -> Heap -> Nat -> Nat -> Nat -> Nat -> (Str -> Option Value) -> Obj -> Addr -> Nat -> Tok -> Tok -> Tok -> Tok -> Tok -> String -> Int -> Int -> Int -> Int -> (List Value) -> (List Value) -> Prop) ×' ((∀ x0 x1 x2 x3 x4 x5 x6 x7 x8 x9 x10 x11 x12 x13 x14 x15 x16 x17 x18 x19 x20 x21 x22 x23 x24 x25 x26 x27 x28 x29, P0 x0 x1 x2 x3 x4 x5 x6 x7 x8 x9 x10 x11 x12 x13 x14 x15 x16 x17 x18 x19 x20 x21 x22 x23 x24 x25 x26 x27 x28 x29) -> sg1.1 tk u v tu tv l0 l1 R R1 R0 rb hX) := by
 apply PSigma.mk
 case snd =>
   intro hP0
   unfold sg1
   dsimp only
   intro B F X T hk h1 h2 hun ret B' X' T' F9 NL hpat hrests R10
   refine init_spec w loose mean mg mb _ _ _ _ _ _ _ _ _ _ _ _ _ _ _ _ B' F9 X' T' rfl _ _ _ u v _ _ _ NL ?_ (by show un + 3 < 460; omega) ?_
   . intro p hp
     rcases in4 hp with rfl | rfl | rfl | rfl <;> (refine neN ?_; dsimp only; omega)
   intro sm dx d2 d4 d5 t0 t1 t2 t3 t4 t5 t6 t7 t8 t9 o2 kvs led h8 tk8 F8 N8 ldx hsd hd2 hkv hd4 hB hlo2
   clear NL F9
   try dsimp only
   simp only [AllLt, and_true] at ldx
   k_steps
   have esm := N8 _ (.head _)
   have edx := N8 _ (.tail _ (.head _))
   have eB := N8 _ (.tail _ (.tail _ (.head _)))
   have eR := N8 _ (.tail _ (.tail _ (.tail _ (.head _))))
   have eR1 := N8 _ (.tail _ (.tail _ (.tail _ (.tail _ (.head _)))))
   have eR0 := N8 _ (.tail _ (.tail _ (.tail _ (.tail _ (.tail _ (.head _))))))
   have eA := N8 _ (.tail _ (.tail _ (.tail _ (.tail _ (.tail _ (.tail _ (.head _)))))))
   dsimp only at esm edx eB eR eR1 eR0 eA
   have kB := hideAll_get [sm, dx] eB.1 (not_two (a := sm) (b := dx) (c := rb) (by omega) (by omega))
   have kR := hideAll_get [sm, dx] eR.1 (not_two (a := sm) (b := dx) (c := R) (by omega) (by omega))
   have kR1 := hideAll_get [sm, dx] eR1.1 (not_two (a := sm) (b := dx) (c := R1) (by omega) (by omega))
   have kR0 := hideAll_get [sm, dx] eR0.1 (not_two (a := sm) (b := dx) (c := R0) (by omega) (by omega))
   have kA := hideAll_get [sm, dx] eA.1 (not_two (a := sm) (b := dx) (c := ra) (by omega) (by omega))
   have N88 := news_cons esm (news_cons edx news_nil)
   clear ldx
   refine op_all w loose mean mg mb _ _ _ _ _ _ _ _ _ _ _ _ _ _ _ _ B' F8 X' T' rfl sm dx ra rb d2 d4 d5 t0 t1 t2 t3 t4 t5 t6 t7 t8 t9 _ _ x y u v _ _ _ _ o2 kvs led l0 l1 N88 hsd kA kB hd2 hkv hd4 hB hlo2 (by show un + 3 < 460; omega) hpat ?_
   intro ops hok S acc c h7 tk7 F7 K7 hS S0 Ssm Sdx hacc
   have S00 := fresh_of S0 (not_two Ssm Sdx)
   have nS := news_new F8 S00 hS
   obtain ⟨tl, NT, off, kp⟩ := swallow F7 [S, R, R0, R1, rb, ra]
   have hops : AllAt (OpAt s.heap L' [S, R, R0, R1, rb, ra]) h7 acc ops := allAt_imp hacc fun v x => Exists.imp fun D => Exists.imp fun _ => Exists.imp fun _ => Exists.imp fun _ => Exists.imp fun _ => Exists.imp fun _ => Exists.imp fun _ => And.imp_right fun z => by
     obtain ⟨hD, D0, Ds, Dd⟩ := z
     refine ⟨hD, (news_new F8 (fresh_of D0 (not_two Ds Dd)) hD).2, fun q => ?_⟩
     rcases in6 q with rfl | rfl | rfl | rfl | rfl | rfl
     . rw [hS] at hD; simp at hD
     . rw [kR] at D0; cases D0
     . rw [kR0] at D0; cases D0
     . rw [kR1] at D0; cases D0
     . rw [kB] at D0; cases D0
     . rw [kA] at D0; cases D0
   have N10 := news_cons nS (news_cons ⟨K7 _ _ kR, eR.2⟩ (news_cons ⟨K7 _ _ kR0, eR0.2⟩ (news_cons ⟨K7 _ _ kR1, eR1.2⟩ (news_cons ⟨K7 _ _ kB, eB.2⟩ (news_cons ⟨K7 _ _ kA, eA.2⟩ NT)))))
   have nSx := News.neD N8 S00
   have ne1 : @Ne Nat R0 S := nSx (R0, _) (by k_mem)
   have ne2 : @Ne Nat R1 S := nSx (R1, _) (by k_mem)
   have ord : (@LT.lt Nat _ rb R0 ∧ @LT.lt Nat _ ra R0) ∧ @LT.lt Nat _ R0 R1 ∧ @LT.lt Nat _ R1 R := ⟨⟨by omega, by omega⟩, by omega, by omega⟩
   have tl0 : ∀ p ∈ tl, p.1 ≠ R0 := fun p hp q => off p hp (by simp [q])
   have tl1 : ∀ p ∈ tl, p.1 ≠ R1 := fun p hp q => off p hp (by simp [q])
   clear N8 N88 F8 K7 esm edx eB eR eR1 eR0 eA kB kR kR1 kR0 kA hd2 hkv hd4 hB hlo2 Ssm Sdx S0 S00 hS hacc NT nS nSx off hpat
   try dsimp only
   have F9 := fr_over [(oS "rests", .ref R), (oS "other", .ref rb), (oS "row", .ref ra), (oS "two", .ref a2), (oS "one", .ref a1)] F7 (by with_unfolding_all exact ⟨rfl, rfl, rfl, rfl, rfl, trivial⟩)
   clear F7
   k_steps
   refine Halt.mk ?_
   with_unfolding_all refine iter_listTurns (by rfl) F9 N10 (.head _) rfl rfl fun I hI => items_J (J := fun n m n' => SubL [(S, lst acc c)] n' ∧ ∃ cR c0 c1 r, m = over [(oS "rests", .ref R), (oS "other", .ref rb), (oS "row", .ref ra), (oS "two", .ref a2), (oS "one", .ref a1)] r ∧
     n' = (S, lst acc c) :: (R, lst [.ref R0, .ref R1] cR) :: (R0, lst ((ops.take n).foldl (add0 [.int x tx, .int y ty]) []) c0) :: (R1, lst ((ops.take n).foldl (add1 [.int u tu, .int v tv]) []) c1) :: (rb, lst [.int u tu, .int v tv] _) :: (ra, lst [.int x tx, .int y ty] _) :: tl) ?turn ?fin _ 0 _ _ (Nat.zero_add _) ⟨⟨.head _, trivial⟩, _, _, _, _, rfl, rfl⟩
   case turn =>
     rintro n x1 v1 m₁ news₁ h tk hget hv ⟨-, cR, c0, c1, r, rfl, rfl⟩ F5
     intro oI hcI N5
     have hv' := vals_get hget hv
     simp only [List.cons_append, List.nil_append] at N5
     replace F5 : Fr s.heap L' h _ := F5
     replace N5 : News s.heap L' h _ := N5
     have hnlt : n < acc.length := by
       rcases Nat.lt_or_ge n acc.length with q | q
       . exact q
       . rw [List.getElem?_eq_none q] at hv'; cases hv'
     obtain ⟨v2, o, e1, e2, hop⟩ := hops.get hnlt
     rw [hv'] at e1; cases e1
     obtain ⟨D, nD, tt, ta, tb, tc, td, rfl, hD, hD0, hDm⟩ := hop.ks (kp h F5.keep fun q hq => (N5 q (.tail _ (.tail _ (.tail _ (.tail _ (.tail _ (.tail _ (.tail _ hq)))))))).1)
     have htag := hok.2.1 o (List.mem_of_getElem? e2)
     have q0 := fold_take (add0 [.int x tx, .int y ty]) [] ops e2
     have q1 := fold_take (add1 [.int u tu, .int v tv]) [] ops e2
     have z0 := len0 (xs := [.int x tx, .int y ty]) (Nat.le_refl 2) (ops.take n) []
     have z1 := len1 (xs := [.int u tu, .int v tv]) (Nat.le_refl 2) (ops.take n) []
     have z2 : (ops.take n).length ≤ 3 := by rw [List.length_take]; exact Nat.le_trans (Nat.min_le_right _ _) hok.1
     have hDR : @Ne Nat D R0 := fun q => hDm (by simp [q])
     have hDR1 : @Ne Nat D R1 := fun q => hDm (by simp [q])
     have lI0 : @LT.lt Nat _ R0 I := hI (R0, _) (by k_mem)
     have lI1 : @LT.lt Nat _ R1 I := hI (R1, _) (by k_mem)
     have N6 := news_cons ⟨hD, hD0⟩ N5
     have hl0 : ((ops.take n).foldl (add0 [.int x tx, .int y ty]) []).length ≤ 100 := by rw [List.length_nil] at z0; omega
     have hl1 : ((ops.take n).foldl (add1 [.int u tu, .int v tv]) []).length ≤ 100 := by rw [List.length_nil] at z1; omega
     clear z0 z1 z2 N5 hop hDm
     obtain ⟨tg, i, j, k, k'⟩ := o
     dsimp only at htag hD q0 q1 N6
     generalize (ops.take n).foldl (add0 [.int x tx, .int y ty]) [] = A0 at *
     generalize (ops.take n).foldl (add1 [.int u tu, .int v tv]) [] = A1 at *
     revert ord; revert ne2; revert ne1; revert hI; revert lI1; revert lI0; revert hDR1; revert hDR; revert tl1; revert tl0; revert hl1; revert hl0; revert q1; revert q0; revert htag; revert N6; revert F5; revert T'; revert X'; revert B'; revert ret; revert hun; revert h2; revert h1; revert hk; revert T; revert X; revert F; revert B
     exact hP0 ops S acc c h7 tk7 tl I n h tk cR c0 c1 r oI D nD tt ta tb tc td tg i j k k' A0 A1
   case fin =>
     rintro m₁ news₁ h tk ⟨-, cR, c0, c1, r, rfl, rfl⟩ F5 N5
     replace F5 : Fr s.heap L' h _ := F5
     replace N5 : News s.heap L' h _ := N5
     have z : (acc.map Itm.val).length = ops.length := by rw [List.length_map]; exact hops.1
     rw [z, List.take_length] at N5
     try dsimp only
     k_steps
     rename Fr h₀ L _ _ => kF
     rename News h₀ L _ _ => kN
     exact ret R R0 R1 _ _ _ _ _ l0 l1 _ _ kF F5.keep (kN (R, _) (by k_mem)).1 (kN (R0, _) (by k_mem)).1 (kN (R1, _) (by k_mem)).1 (N5 (R, _) (by k_mem)).2.2 (N5 (R0, _) (by k_mem)).2.2 (N5 (R1, _) (by k_mem)).2.2 (hok.2.2 tx ty tu tv).1 (hok.2.2 tx ty tu tv).2 hrests
namespace K2_0
abbrev TT : Type := (((((List (String × Int × Int × Int × Int)) × Addr) × ((List Value) × Nat)) × ((Heap × Nat) × ((List (Addr × Obj)) × Addr))) × (((Nat × Heap) × (Nat × Nat)) × ((Nat × Nat) × (Str -> Option Value)))) × ((((Obj × Addr) × (Nat × Tok)) × ((Tok × Tok) × (Tok × Tok))) × (((String × Int) × (Int × Int)) × ((Int × (List Value)) × (List Value))))
def PP (p : TT) : Prop := sg2.1 p.1.1.1.1.1 p.1.1.1.1.2 p.1.1.1.2.1 p.1.1.1.2.2 p.1.1.2.1.1 p.1.1.2.1.2 p.1.1.2.2.1 p.1.1.2.2.2 p.1.2.1.1.1 p.1.2.1.1.2 p.1.2.1.2.1 p.1.2.1.2.2 p.1.2.2.1.1 p.1.2.2.1.2 p.1.2.2.2 p.2.1.1.1.1 p.2.1.1.1.2 p.2.1.1.2.1 p.2.1.1.2.2 p.2.1.2.1.1 p.2.1.2.1.2 p.2.1.2.2.1 p.2.1.2.2.2 p.2.2.1.1.1 p.2.2.1.1.2 p.2.2.1.2.1 p.2.2.1.2.2 p.2.2.2.1.1 p.2.2.2.1.2 p.2.2.2.2
def pt := ep ⟨default⟩ PP
@[irreducible] def ops := pt.1.1.1.1.1
@[irreducible] def S := pt.1.1.1.1.2
@[irreducible] def acc := pt.1.1.1.2.1
@[irreducible] def c := pt.1.1.1.2.2
@[irreducible] def h7 := pt.1.1.2.1.1
@[irreducible] def tk7 := pt.1.1.2.1.2
@[irreducible] def tl := pt.1.1.2.2.1
@[irreducible] def I := pt.1.1.2.2.2
@[irreducible] def n := pt.1.2.1.1.1
@[irreducible] def h := pt.1.2.1.1.2
@[irreducible] def tk := pt.1.2.1.2.1
@[irreducible] def cR := pt.1.2.1.2.2
@[irreducible] def c0 := pt.1.2.2.1.1
@[irreducible] def c1 := pt.1.2.2.1.2
@[irreducible] def r := pt.1.2.2.2
@[irreducible] def oI := pt.2.1.1.1.1
@[irreducible] def D := pt.2.1.1.1.2
@[irreducible] def nD := pt.2.1.1.2.1
@[irreducible] def tt := pt.2.1.1.2.2
@[irreducible] def ta := pt.2.1.2.1.1
@[irreducible] def tb := pt.2.1.2.1.2
@[irreducible] def tc := pt.2.1.2.2.1
@[irreducible] def td := pt.2.1.2.2.2
@[irreducible] def tg := pt.2.2.1.1.1
@[irreducible] def i := pt.2.2.1.1.2
@[irreducible] def j := pt.2.2.1.2.1
@[irreducible] def k := pt.2.2.1.2.2
@[irreducible] def k' := pt.2.2.2.1.1
@[irreducible] def A0 := pt.2.2.2.1.2
@[irreducible] def A1 := pt.2.2.2.2
theorem sg3 : sg2.1 ops S acc c h7 tk7 tl I n h tk cR c0 c1 r oI D nD tt ta tb tc td tg i j k k' A0 A1 := by
 unfold sg2
 dsimp only
 intro B F X T hk h1 h2 hun ret B' X' T' F5 N6 htag q0 q1 hl0 hl1 tl0 tl1 hDR hDR1 lI0 lI1 hI ne1 ne2 ord
 have fin' : ∀ {h' : Heap} {tk' : Nat} {m' : Str -> Option Value} {all : List (Addr × Obj)} {B0 B1 : List Value} {b0 b1 : Nat}, Fr s.heap L' h' (over [(oS "rests", .ref R), (oS "other", .ref rb), (oS "row", .ref ra), (oS "two", .ref a2), (oS "one", .ref a1)] m') -> News s.heap L' h' all ->
     (I, oI) ∈ all -> (∀ p, p ∈ (S, lst acc c) :: (R, lst [.ref R0, .ref R1] cR) :: (R0, lst B0 b0) :: (R1, lst B1 b1) :: (rb, lst [.int u tu, .int v tv] _) :: (ra, lst [.int x tx, .int y ty] _) :: tl -> p ∈ all) ->
     (ops.take (n + 1)).foldl (add0 [.int x tx, .int y ty]) [] = B0 -> (ops.take (n + 1)).foldl (add1 [.int u tu, .int v tv]) [] = B1 ->
     UnrEndW s.heap L' { s with heap := h, toks := tk } [(I, oI)] (fun m' n' => SubL [(S, lst acc c)] n' ∧ SubL [(S, lst acc c)] n' ∧ ∃ cR c0 c1 r, m' = over [(oS "rests", .ref R), (oS "other", .ref rb), (oS "row", .ref ra), (oS "two", .ref a2), (oS "one", .ref a1)] r ∧
       n' = (S, lst acc c) :: (R, lst [.ref R0, .ref R1] cR) :: (R0, lst ((ops.take (n + 1)).foldl (add0 [.int x tx, .int y ty]) []) c0) :: (R1, lst ((ops.take (n + 1)).foldl (add1 [.int u tu, .int v tv]) []) c1) :: (rb, lst [.int u tu, .int v tv] _) :: (ra, lst [.int x tx, .int y ty] _) :: tl) { s with heap := h', toks := tk' } :=
   fun {h' tk' m' all B0 B1 b0 b1} F11 N11 hi sub e0 e1 => unr_end F11 N11 (fun p hp => List.mem_singleton.mp hp ▸ hi) sub (off_map hI rfl) ⟨⟨.head _, trivial⟩, ⟨.head _, trivial⟩, cR, b0, b1, m', rfl, by rw [e0, e1]⟩
 rcases htag with et | et | et | et
 . rw [et] at N6 q0 q1
   k_steps
   rename Fr s.heap L' _ _ => F11
   rename News s.heap L' _ _ => N11
   refine Halt.mk ?_
   exact fin' (fr_over [(oS "rests", .ref R), (oS "other", .ref rb), (oS "row", .ref ra), (oS "two", .ref a2), (oS "one", .ref a1)] F11 (by with_unfolding_all exact ⟨rfl, rfl, rfl, rfl, rfl, trivial⟩)) N11 (by k_mem) (fun p hp => by repeat (first | exact hp | apply List.Mem.tail)) (q0.trans (if_neg (by dsimp only; decide))) (q1.trans (if_neg (by dsimp only; decide)))
 . rw [et] at N6 q0 q1
   k_steps
   refine Halt.mk ?_
   k_dflt (refine bslice (by k_asm) (by k_asm) (by walk_at "m") (by kmk_part) (by kmk_part) (by exact Nat.le_refl 2) ?_ (by with_unfolding_all rfl) (by kmk_pure))
   intro D' h' F' N' l1
   k_lt l1
   try k_sweep
   k_steps
   refine Halt.mk ?_
   first | k_dflt (refine bext (by k_asm) (by k_asm) (by k_mem) (by k_updF) (by assumption) (by exact pick_len (Nat.le_refl 2)) ?_) | fail
   intro h' n' F' N'
   try dsimp only at N'
   try k_sweep
   k_steps
   refine Halt.mk ?_
   k_dflt (refine bslice (by k_asm) (by k_asm) (by walk_at "m") (by kmk_part) (by kmk_part) (by exact Nat.le_refl 2) ?_ (by with_unfolding_all rfl) (by kmk_pure))
   intro D' h' F' N' l1
   k_lt l1
   try k_sweep
   k_steps
   refine Halt.mk ?_
   first | k_dflt (refine bext (by k_asm) (by k_asm) (by k_mem) (by k_updF) (by assumption) (by exact pick_len (Nat.le_refl 2)) ?_) | fail
   intro h' n' F' N'
   try dsimp only at N'
   try k_sweep
   k_steps
   rename Fr s.heap L' _ _ => F11
   rename News s.heap L' _ _ => N11
   refine Halt.mk ?_
   exact fin' (fr_over [(oS "rests", .ref R), (oS "other", .ref rb), (oS "row", .ref ra), (oS "two", .ref a2), (oS "one", .ref a1)] F11 (by with_unfolding_all exact ⟨rfl, rfl, rfl, rfl, rfl, trivial⟩)) N11 (by k_mem) (fun p hp => by repeat (first | exact hp | apply List.Mem.tail)) (q0.trans (if_pos (.inl rfl))) (q1.trans (if_pos (.inl rfl)))
 . rw [et] at N6 q0 q1
   k_steps
   refine Halt.mk ?_
   k_dflt (refine bslice (by k_asm) (by k_asm) (by walk_at "m") (by kmk_part) (by kmk_part) (by exact Nat.le_refl 2) ?_ (by with_unfolding_all rfl) (by kmk_pure))
   intro D' h' F' N' l1
   k_lt l1
   try k_sweep
   k_steps
   refine Halt.mk ?_
   first | k_dflt (refine bext (by k_asm) (by k_asm) (by k_mem) (by k_updF) (by assumption) (by exact pick_len (Nat.le_refl 2)) ?_) | fail
   intro h' n' F' N'
   try dsimp only at N'
   try k_sweep
   k_steps
   rename Fr s.heap L' _ _ => F11
   rename News s.heap L' _ _ => N11
   refine Halt.mk ?_
   exact fin' (fr_over [(oS "rests", .ref R), (oS "other", .ref rb), (oS "row", .ref ra), (oS "two", .ref a2), (oS "one", .ref a1)] F11 (by with_unfolding_all exact ⟨rfl, rfl, rfl, rfl, rfl, trivial⟩)) N11 (by k_mem) (fun p hp => by repeat (first | exact hp | apply List.Mem.tail)) (q0.trans (if_pos (.inr rfl))) (q1.trans (if_neg (by dsimp only; decide)))
 . rw [et] at N6 q0 q1
   k_steps
   refine Halt.mk ?_
   k_dflt (refine bslice (by k_asm) (by k_asm) (by walk_at "m") (by kmk_part) (by kmk_part) (by exact Nat.le_refl 2) ?_ (by with_unfolding_all rfl) (by kmk_pure))
   intro D' h' F' N' l1
   k_lt l1
   try k_sweep
   k_steps
   refine Halt.mk ?_
   first | k_dflt (refine bext (by k_asm) (by k_asm) (by k_mem) (by k_updF) (by assumption) (by exact pick_len (Nat.le_refl 2)) ?_) | fail
   intro h' n' F' N'
   try dsimp only at N'
   try k_sweep
   k_steps
   rename Fr s.heap L' _ _ => F11
   rename News s.heap L' _ _ => N11
   refine Halt.mk ?_
   exact fin' (fr_over [(oS "rests", .ref R), (oS "other", .ref rb), (oS "row", .ref ra), (oS "two", .ref a2), (oS "one", .ref a1)] F11 (by with_unfolding_all exact ⟨rfl, rfl, rfl, rfl, rfl, trivial⟩)) N11 (by k_mem) (fun p hp => by repeat (first | exact hp | apply List.Mem.tail)) (q0.trans (if_neg (by dsimp only; decide))) (q1.trans (if_pos (.inr rfl)))
theorem fin : ∀ x, PP x := drink ⟨default⟩ PP (by with_unfolding_all exact sg3)
end K2_0
theorem fin : ∀ x, PP x := drink ⟨default⟩ PP (by with_unfolding_all exact sg2.2 (by intros; exact K2_0.fin (((((_, _), (_, _)), ((_, _), (_, _))), (((_, _), (_, _)), ((_, _), _))), ((((_, _), (_, _)), ((_, _), (_, _))), (((_, _), (_, _)), ((_, _), _))))))
end K1_0
theorem fin : ∀ x, PP x := drink ⟨default⟩ PP (by with_unfolding_all exact sg1.2 (by intros; exact K1_0.fin ((((_, _), _), ((_, _), _)), (((_, _), _), ((_, _), _)))))
end K0_0
theorem main : Sbeyond_spec w loose mean mg mb un gd cn cs a ccd cl outer A₀ base h₀ L m s Q E a1 a2 x0 x1 x2 y0 y1 y2 tx0 tx1 tx2 ty0 ty1 ty2 n1 n2 := sg0.2 (by intros; exact K0_0.fin (((_, _), (_, _)), ((_, _), _)))
end Cbeyond_spec
theorem beyond_spec : ∀ w loose mean mg mb un gd cn cs a ccd cl outer A₀ base h₀ L m s Q E (B : Below A₀ base outer h₀) (F : Fr h₀ L s.heap m) (X : (Mine.KR w.params).In h₀) (T : Top topProg loose mean mg mb h₀) (hk : cs.kind = .function) a1 a2 x0 x1 x2 y0 y1 y2 tx0 tx1 tx2 ty0 ty1 ty2 n1 n2, Qbeyond_spec w un gd cn cs a ccd cl outer h₀ L m s Q E a1 a2 x0 x1 x2 y0 y1 y2 tx0 tx1 tx2 ty0 ty1 ty2 n1 n2 :=
 fun w loose mean mg mb un gd cn cs a ccd cl outer A₀ base h₀ L m s Q E B F X T hk a1 a2 x0 x1 x2 y0 y1 y2 tx0 tx1 tx2 ty0 ty1 ty2 n1 n2 => drink nbeyond_spec Pbeyond_spec (by with_unfolding_all exact Cbeyond_spec.main) ((((((w, loose), mean), (mg, mb)), (((un, gd), cn), (cs, a))), ((((ccd, cl), outer), (A₀, base)), ((h₀, L), (m, s)))), (((((Q, E), a1), (a2, x0)), ((x1, x2), (y0, y1))), ((((y2, tx0), tx1), (tx2, ty0)), ((ty1, ty2), (n1, n2))))) B F X T hk
end
end Mine
end
noncomputable section
example : True := by w_top off; trivial
namespace Mine
noncomputable section
local macro_rules | `(tactic| omega) => `(tactic| walk_at "o")
local macro_rules | `(tactic| walk_at "CompEnd") => `(tactic| (refine LCg.CompEnd.intro (by assumption) (by assumption) _ (fun _ hp => hp) (by first | assumption | (simp only [LCg.Off3, and_true]; assumption)) (by lcg_src) ?_))
local macro_rules | `(tactic| walk_at "assign Tuple") => `(tactic| (k_here; k_dflt (refine unpackL (by k_asm) (by k_asm) (by walk_at "l") (by exact rfl) (by exact rfl) (by exact rfl) ?_); intro h' F' N'; (try k_sweep)))
local macro_rules | `(tactic| walk_at "call builtin:len") => `(tactic| (k_dflt (refine len_lst (by walk_at "m") (by assumption) ?_)))
local macro_rules | `(tactic| walk_at $k) => if ["call ref", "exec Assign cons ListComp", "exec For Tuple Name", "pyIter ref", "UnrPostW"].contains k.getString then `(tactic| refine Halt.go ?_) else Lean.Macro.throwUnsupported
theorem not_one {a b : Addr} (h : @Ne Nat b a) : b ∉ [a] := fun q => h (List.mem_singleton.mp q)
theorem not_one' {a b : Addr} (h : b ≠ a) : b ∉ [a] := fun q => h (List.mem_singleton.mp q)
theorem news_seq {g h : Heap} {L D : Addr} {m : Str -> Option Value} {o : Obj} (F : Fr g L h m) (s : IsSeq o) (e : h.get? D = some o) (n : g.get? D = none) : h.get? D = some o ∧ D ≠ L ∧ g.get? D = none :=
 ⟨e, (fun q => by
   obtain ⟨oL, es, ep, hL, hLd, _⟩ := F.ns
   rw [q, hL] at e
   cases e
   obtain ⟨vs, n, rfl | rfl⟩ := s <;> cases hLd), n⟩
theorem none_of {g h : Heap} {D : Addr} (k : Keeps g h) (e : h.get? D = none) : g.get? D = none := by
 cases q : g.get? D with
 | none => rfl
 | some o => rw [k _ _ q] at e; cases e
theorem KeepsSeq.drop {R I : Addr} {h h' : Heap} (k : KeepsSeq [R, I] h h') (n : ∀ o, h.get? I = some o -> ¬ IsSeq o) : KeepsSeq [R] h h' := fun b o s hb e => k b o s (fun q => by
 simp only [List.mem_cons, List.not_mem_nil, or_false] at q
 rcases q with q | q
 . exact hb (by simp [q])
 . exact n o (q ▸ e) s) e
theorem not_seq {o : Obj} (h : o.cls = .type "list_iterator") : ¬ IsSeq o := by
 rintro ⟨vs, n, rfl | rfl⟩
 . exact absurd h (by simp [lst])
 . exact absurd h (by simp [tup])
theorem nmN {h₀ h : Heap} {L a : Addr} {o : Obj} {l : List (Addr × Obj)} (_ : News h₀ L h ((a, o) :: l)) : ∃ b : Addr, b = a := ⟨a, rfl⟩
theorem take_snoc {α : Type} {l : List α} {n : Nat} {x : α} (h : l[n]? = some x) : l.take (n + 1) = l.take n ++ [x] := by
 rw [List.take_succ, h]; rfl
local macro_rules | `(tactic| walk_at "subscriptTail Name Name ref int") => `(tactic| (with_unfolding_all refine itN (by walk_at "m") (by assumption) (by omega) ?_))
theorem size_upN (n : Nat) : Builtin.Range.rangeSize 0 (n : Int) 1 = ((n : Nat) : Int) := by rw [size_up (by omega)]; simp
def PrAt (g : Heap) (vs : List Value) (h : Heap) (v : Value) (q : Nat × Nat) : Prop := ∃ p n a b, v = .ref p ∧ g.get? p = none ∧ h.get? p = some (tup [a, b] n) ∧ vs[q.1]? = some a ∧ vs[q.2]? = some b
theorem ints1 {vs : List Value} {a : Int} (h : IntsAre vs [a]) : ∃ t, vs = [.int a t] := by
 obtain ⟨t, _, rfl, h1⟩ := ints_inv h
 obtain rfl := ints_nil h1
 exact ⟨t, rfl⟩
theorem two_vals {vs : List Value} {ns : List Int} (h : IntsAre vs ns) (l : ns.length = 2) : ∃ u v, vs = [u, v] ∧ True := by
 obtain ⟨u, v, e⟩ := len_two (h.length.trans l)
 exact ⟨u, v, e, trivial⟩
theorem RlAt.at' {h : Heap} {R t a b : Addr} {n : Nat} {r : Rl} (H : RlAt (hideAll h [R]) (.ref t) r) (e : h.get? t = some (tup [.ref a, .ref b] n)) :
   IsW (hideAll h [R]) a r.1.1 r.1.2.1 r.1.2.2 ∧ IsW (hideAll h [R]) b r.2.1 r.2.2.1 r.2.2.2 := by
 obtain ⟨p, va, vb, m, e1, e2, ⟨a', ea, h1⟩, ⟨b', eb, h2⟩⟩ := H
 obtain rfl := Value.ref.inj e1
 have z := List.cons.inj (Array.mk.inj (Data.seq.inj (congrArg Obj.data (Option.some.inj (e.symm.trans (of_hideAll _ e2))))).1)
 rw [Value.ref.inj (z.1.trans ea), Value.ref.inj ((List.cons.inj z.2).1.trans eb)]
 exact ⟨h1, h2⟩
theorem IsW.off {h : Heap} {R a : Addr} {x y z : Int} (H : IsW (hideAll h [R]) a x y z) : ∃ t0 t1 t2 n, h.get? a = some (lst [.int x t0, .int y t1, .int z t2] n) := Exists.imp (fun _ => Exists.imp fun _ => Exists.imp fun _ => Exists.imp fun _ => of_hideAll _) H
theorem IsW.in {h : Heap} {R a : Addr} {x y z : Int} {vs : List Value} {n nr : Nat} (e : h.get? a = some (lst vs n)) (i : IntsAre vs [x, y, z]) (ne : a ≠ R) : IsW (hideAll h [R]) a x y z := (IsW.of e i).hide (by simpa using ne)
theorem off4 {P R C I : Addr} {oP oR oC oI : Obj} {tl : List (Addr × Obj)} (a : P < I) (b : R < I) (c : C < I) (d : ∀ p ∈ tl, p.1 ≠ I) : ∀ p ∈ (P, oP) :: (R, oR) :: (C, oC) :: tl, ∀ q ∈ [(I, oI)], p.1 ≠ q.1 := by
 intro p hp q hq
 rw [List.mem_singleton.mp hq]
 rcases List.mem_cons.mp hp with rfl | hp
 . exact Nat.ne_of_lt a
 rcases List.mem_cons.mp hp with rfl | hp
 . exact Nat.ne_of_lt b
 rcases List.mem_cons.mp hp with rfl | hp
 . exact Nat.ne_of_lt c
 . exact d p hp
theorem PrAt.ks {g h h' : Heap} {vs : List Value} {v : Value} {q : Nat × Nat} (H : PrAt g vs h v q) (k : KS h h') : PrAt g vs h' v q := Exists.imp (fun _ => Exists.imp fun _ => Exists.imp fun _ => Exists.imp fun _ => And.imp_right (And.imp_right (And.imp_left (k _ _ isSeq_tup)))) H
def PrJ (g : Heap) (vs : List Value) (nr : Nat) (R C : Addr) (oc : Obj) (tl : List (Addr × Obj)) (ps : List (Nat × Nat)) (ys : List Value) (news : List (Addr × Obj)) : Prop :=
 ∃ tp, news = (R, lst vs nr) :: (C, oc) :: tp ∧ (∀ p ∈ tp, p.1 ≠ R) ∧ (∀ h, Has tp h -> Has tl h) ∧ ys.length = ps.length ∧ ∀ h, Has tp h -> AllAt (PrAt g vs) h ys ps
theorem perm_in2 {α : Type} {x a b c d e f : α} {tl : List α} {p : α} (h : p ∈ [a, b, c, d] ++ e :: f :: x :: tl) : p ∈ x :: a :: b :: c :: d :: e :: f :: tl :=
 (List.perm_middle (l₁ := [a, b, c, d, e, f])).mem_iff.mp h
theorem off_in2 {a b c d x : Addr} {o : Obj} {e f : Addr × Obj} {tl : List (Addr × Obj)} (h : Off [a, b, c, d] (e :: f :: tl)) (ha : a < x) (hb : b < x) (hc : c < x) (hd : d < x) : Off [a, b, c, d] (e :: f :: (x, o) :: tl) := by
 intro p hp
 rcases List.mem_cons.mp hp with rfl | hp
 . exact h _ (.head _)
 . rcases List.mem_cons.mp hp with rfl | hp
   . exact h _ (.tail _ (.head _))
   . rcases List.mem_cons.mp hp with rfl | hp
     . intro q
       simp only [List.mem_cons, List.not_mem_nil, or_false] at q
       rcases q with q | q | q | q
       . exact absurd q (Nat.ne_of_gt ha)
       . exact absurd q (Nat.ne_of_gt hb)
       . exact absurd q (Nat.ne_of_gt hc)
       . exact absurd q (Nat.ne_of_gt hd)
     . exact h _ (.tail _ (.tail _ hp))
def RulJ2 (g : Heap) (R C P I : Addr) (oc : Obj) (i0 d0 i1 d1 : Int) (ta ao : Addr) (vs0 ys : List Value) (rs0 : List Rl) (n : Nat) (m₁ : Str -> Option Value) (news₁ : List (Addr × Obj)) : Prop :=
 ∃ vs nr rs tl r, rs.length ≤ 3 + n ∧ PairsAll i0 d0 i1 d1 rs0 ((ips rs0.length).take n) rs ∧ OkR i0 d0 i1 d1 rs ∧ m₁ = over [(oS "order", .ref ao), (oS "ties", .ref ta)] r ∧
   news₁ = (P, LCg.lst ys) :: (R, lst vs nr) :: (C, oc) :: tl ∧ (∀ p ∈ tl, p.1 ≠ R ∧ p.1 ≠ I) ∧ ∀ h, Keeps g h -> Has tl h -> AllAt RlAt (hideAll h [R]) vs rs ∧ AllAt RlAt (hideAll h [R]) vs0 rs0 ∧ AllAt (PrAt g vs0) (hideAll h [R]) ys (ips rs0.length)
def RulJ (g : Heap) (R C : Addr) (oc : Obj) (i0 d0 i1 d1 : Int) (ties : List (Wd × Wd)) (ta ao : Addr) (n : Nat) (m₁ : Str -> Option Value) (news₁ : List (Addr × Obj)) : Prop :=
 ∃ vs nr rs tl r, rs.length ≤ n ∧ LearnAll i0 d0 i1 d1 (ties.take n) rs ∧ Ok2 i0 d0 i1 d1 rs ∧ (∀ v ∈ vs, ∃ D, v = .ref D ∧ g.get? D = none) ∧ m₁ = over [(oS "order", .ref ao), (oS "ties", .ref ta)] r ∧
   news₁ = (R, lst vs nr) :: (C, oc) :: tl ∧ (∀ p ∈ tl, p.1 ≠ R) ∧ ∀ h, Keeps g h -> Has tl h -> AllAt RlAt (hideAll h [R]) vs rs
section
variable (w : World) (loose : List Str) (mean : ExcName -> Option Value) (mg mb : Str -> Option Value) (un : Nat) (gd : Option (List Code)) (cn : Str) (cs : Scope) (a : Addr) (ccd : Value) (cl : List (Str × Addr)) (outer : List Env) (A₀ : Around) (base h₀ : Heap) (L : Addr) (m : Str -> Option Value) (s : Shared) (Q E : Value -> Shared -> Prop) (ta ao : Addr) (vt : List Value) (nt : Nat) (ties : List (Wd × Wd)) (i0 d0 i1 d1 : Int)
def Qrules_spec : Prop :=
 ∀ (hta : s.heap.get? ta = some (lst vt nt)),
 ∀ (hties : AllAt TieAt s.heap vt ties),
 ∀ (ho : OrdAt s.heap ao i0 d0 i1 d1),
 ∀ (K : Keys i0 d0 i1 d1),
 ∀ (hlen : ties.length = 3),
 ∀ (hT : ∀ t ∈ ties, Nn 2 t.1 ∧ Nn 2 t.2),
 ∀ (hun : un < 440),
 ∀ (ret : ∀ D h' tk' vs n rs, Fr h₀ L h' m -> Keeps s.heap h' -> s.heap.get? D = none -> h'.get? D = some (lst vs n) -> AllAt RlAt h' vs rs -> RulesP i0 d0 i1 d1 ties rs -> OkR i0 d0 i1 d1 rs -> rs.length ≤ 6 -> Q (.ref D) { s with heap := h', toks := tk' }),
 wpAny (model PW w) (ktrTop 302 un gd cn cs L a ccd cl outer) (call (.ref 325) [.ref ta, .ref ao]) Q E s
def Srules_spec : Prop :=
 ∀ (B : Below A₀ base outer h₀),
 ∀ (F : Fr h₀ L s.heap m),
 ∀ (X : (Mine.KR w.params).In h₀),
 ∀ (T : Top topProg loose mean mg mb h₀),
 ∀ (hk : cs.kind = .function),
 Qrules_spec w un gd cn cs a ccd cl outer h₀ L m s Q E ta ao vt nt ties i0 d0 i1 d1
end
abbrev Trules_spec : Type := ((((World × (List Str)) × ((ExcName -> Option Value) × (Str -> Option Value))) × (((Str -> Option Value) × Nat) × ((Option (List Code)) × Str))) × (((Scope × Addr) × (Value × (List (Str × Addr)))) × (((List Env) × Around) × Heap))) × ((((Heap × Addr) × ((Str -> Option Value) × Shared)) × (((Value -> Shared -> Prop) × (Value -> Shared -> Prop)) × (Addr × Addr))) × ((((List Value) × Nat) × ((List (Wd × Wd)) × Int)) × ((Int × Int) × Int)))
def Prules_spec (p : Trules_spec) : Prop := Srules_spec p.1.1.1.1.1 p.1.1.1.1.2 p.1.1.1.2.1 p.1.1.1.2.2 p.1.1.2.1.1 p.1.1.2.1.2 p.1.1.2.2.1 p.1.1.2.2.2 p.1.2.1.1.1 p.1.2.1.1.2 p.1.2.1.2.1 p.1.2.1.2.2 p.1.2.2.1.1 p.1.2.2.1.2 p.1.2.2.2 p.2.1.1.1.1 p.2.1.1.1.2 p.2.1.1.2.1 p.2.1.1.2.2 p.2.1.2.1.1 p.2.1.2.1.2 p.2.1.2.2.1 p.2.1.2.2.2 p.2.2.1.1.1 p.2.2.1.1.2 p.2.2.1.2.1 p.2.2.1.2.2 p.2.2.2.1.1 p.2.2.2.1.2 p.2.2.2.2
theorem nrules_spec : Nonempty Trules_spec := ⟨(((((Classical.choice neW, default), default), default), (default, ((default, callerA), default))), (((default, (default, {})), default), default))⟩
namespace Crules_spec
def pt := ep nrules_spec Prules_spec
@[irreducible] def w := pt.1.1.1.1.1
@[irreducible] def loose := pt.1.1.1.1.2
@[irreducible] def mean := pt.1.1.1.2.1
@[irreducible] def mg := pt.1.1.1.2.2
@[irreducible] def mb := pt.1.1.2.1.1
@[irreducible] def un := pt.1.1.2.1.2
@[irreducible] def gd := pt.1.1.2.2.1
@[irreducible] def cn := pt.1.1.2.2.2
@[irreducible] def cs := pt.1.2.1.1.1
@[irreducible] def a := pt.1.2.1.1.2
@[irreducible] def ccd := pt.1.2.1.2.1
@[irreducible] def cl := pt.1.2.1.2.2
@[irreducible] def outer := pt.1.2.2.1.1
@[irreducible] def A₀ := pt.1.2.2.1.2
@[irreducible] def base := pt.1.2.2.2
@[irreducible] def h₀ := pt.2.1.1.1.1
@[irreducible] def L := pt.2.1.1.1.2
@[irreducible] def m := pt.2.1.1.2.1
@[irreducible] def s := pt.2.1.1.2.2
@[irreducible] def Q := pt.2.1.2.1.1
@[irreducible] def E := pt.2.1.2.1.2
@[irreducible] def ta := pt.2.1.2.2.1
@[irreducible] def ao := pt.2.1.2.2.2
@[irreducible] def vt := pt.2.2.1.1.1
@[irreducible] def nt := pt.2.2.1.1.2
@[irreducible] def ties := pt.2.2.1.2.1
@[irreducible] def i0 := pt.2.2.1.2.2
@[irreducible] def d0 := pt.2.2.2.1.1
@[irreducible] def i1 := pt.2.2.2.1.2
@[irreducible] def d1 := pt.2.2.2.2
@[irreducible] def L' : Addr := s.heap.objs.size
theorem hLc : s.heap.objs.size = L' := by delta L'; rfl
noncomputable def sg0 : (P0 : Nat -> Obj -> Heap -> Obj -> Addr -> Prop) ×' ((∀ x0 x1 x2 x3 x4, P0 x0 x1 x2 x3 x4) -> Srules_spec w loose mean mg mb un gd cn cs a ccd cl outer A₀ base h₀ L m s Q E ta ao vt nt ties i0 d0 i1 d1) := by
 apply PSigma.mk
 case snd =>
   intro hP0
   unfold Srules_spec
   intro B F X T hk hta hties ho K hlen hT hun ret
   refine wpAny_call ?_
   k_dflt (refine' enter_cellsC (L' := L') (hL := ?hL) ?k1 ?k2 ?k3 ?k5 ?kA ?kF ?kK ?k6 ?k7 ?k8 ?k9 ?kB ?kD ?_ ?c2 ?c3 ?c4; (case kA | kF => exact rfl); (case kK => assumption); (case k1 | k2 => k_asm); (case hL => exact hLc); (case k3 | k5 => k_asm); (case k6 | k7 => k_is); (case k8 => ktr_room); (case k9 => exact BindsTo.of_eq rfl); (case kB => exact rfl); (case kD => decide +kernel); (case c2 | c3 | c4 => exact rfl); intro h' tk' cells' F' N' Y' B' X' T'; k_cells Y'; (try dsimp only); (try k_fold))
   rename_i o1 dc1
   rename Fr s.heap L' _ _ => F1
   replace dc1 : o1.data = .cell none := by with_unfolding_all exact dc1
   replace F1 : Fr s.heap L' h' (fun y => if y = oS "order" then some (.ref ao) else if y = oS "ties" then some (.ref ta) else none) := by with_unfolding_all exact F1
   k_steps
   rename Fr s.heap L' _ _ => F9
   rename News s.heap L' _ _ => N9
   rename _ = Data.cell (some (Value.ref _)) => dc
   rename Obj => oc
   have F3 := fr_over [(oS "order", .ref ao), (oS "ties", .ref ta)] F9 (by with_unfolding_all exact ⟨rfl, rfl, trivial⟩)
   clear F9
   obtain ⟨R, eR⟩ := nmN N9; subst eR
   have hRC : @LT.lt Nat _ (L' + 1) R := by omega
   have hgR : s.heap.get? R = none := (N9 _ (.head _)).2.2
   revert hgR; revert hRC; revert dc; revert N9; revert F3; revert dc1; revert T'; revert X'; revert B'; revert ret; revert hun; revert hT; revert hlen; revert K; revert ho; revert hties; revert hta; revert hk; revert T; revert X; revert F; revert B
   rename_i _ v1 _
   exact hP0 tk' o1 v1 oc R
namespace K0_0
abbrev TT : Type := ((Nat × Obj) × Heap) × (Obj × Addr)
def PP (p : TT) : Prop := sg0.1 p.1.1.1 p.1.1.2 p.1.2 p.2.1 p.2.2
def pt := ep ⟨default⟩ PP
@[irreducible] def tk' := pt.1.1.1
@[irreducible] def o1 := pt.1.1.2
@[irreducible] def v1 := pt.1.2
@[irreducible] def oc := pt.2.1
@[irreducible] def R := pt.2.2
noncomputable def sg1 : (P0 : Addr -> Nat -> Itm -> Heap -> Nat -> (List Value) -> Nat -> (List Rl) -> (List (Addr × Obj)) -> (Str -> Option Value) -> Obj -> Rl -> Addr -> Nat -> Addr -> Addr -> Prop) ×' (P1 : Heap -> Nat -> (List Value) -> Nat -> (List Rl) -> (List (Addr × Obj)) -> (Str -> Option Value) -> Prop) ×' ((∀ x0 x1 x2 x3 x4 x5 x6 x7 x8 x9 x10 x11 x12 x13 x14 x15, P0 x0 x1 x2 x3 x4 x5 x6 x7 x8 x9 x10 x11 x12 x13 x14 x15) -> (∀ x0 x1 x2 x3 x4 x5 x6, P1 x0 x1 x2 x3 x4 x5 x6) -> sg0.1 tk' o1 v1 oc R) := by
 apply PSigma.mk
 case snd =>
   apply PSigma.mk
   case snd =>
     intro hP0 hP1
     unfold sg0
     dsimp only
     intro B F X T hk hta hties ho K hlen hT hun ret B' X' T' dc1 F3 N9 dc hRC hgR
     with_unfolding_all refine For_turns F3 ?_
     k_steps
     refine Halt.mk ?_
     with_unfolding_all refine turns_base (by rfl) F3 N9 (isl0 hta) fun I hI => items_J (J := RulJ s.heap R (L' + 1) oc i0 d0 i1 d1 ties ta ao) ?turn ?fin _ 0 _ _ (Nat.zero_add _) ⟨[], 0, [], [], _, Nat.zero_le _, LearnAll.nil, ⟨fun r hr => (by cases hr), .nil⟩, fun v hv => (by cases hv), rfl, rfl, fun p hp => (by cases hp), fun h _ _ => AllAt.nil⟩
     case turn =>
       rintro n x v m₁ news₁ h tk hget hv ⟨vs, nr, rs, tl, r, hn, hla, hok, hfr, rfl, rfl, htl, hall⟩ F5
       intro oI hcI N5
       have hv' := vals_get hget hv
       simp only [List.cons_append, List.nil_append] at N5
       replace F5 : Fr s.heap L' h _ := F5
       replace N5 : News s.heap L' h _ := N5
       have hnlt : n < vt.length := by
         rcases Nat.lt_or_ge n vt.length with q | q
         . exact q
         . rw [List.getElem?_eq_none q] at hv'; cases hv'
       obtain ⟨v2, t, e1, e2, htie⟩ := hties.get hnlt
       rw [hv'] at e1; cases e1
       obtain ⟨p, va, vb, n2, rfl, hp, ⟨a1, rfl, hw1⟩, ⟨a2, rfl, hw2⟩⟩ := htie
       have hIR : @LT.lt Nat _ R I := hI _ (.head _)
       have hIC : @LT.lt Nat _ (L' + 1) I := hI _ (.tail _ (.head _))
       have ht2 := hT t (List.mem_of_getElem? e2)
       revert ht2; revert hIC; revert hIR; revert hp; revert hw2; revert hw1; revert hv'; revert hv; revert e2; revert hnlt; revert N5; revert F5; revert hcI; revert hall; revert htl; revert hfr; revert hok; revert hla; revert hn; revert hget; revert hI; revert hgR; revert hRC; revert dc; revert N9; revert F3; revert dc1; revert T'; revert X'; revert B'; revert ret; revert hun; revert hT; revert hlen; revert K; revert ho; revert hties; revert hta; revert hk; revert T; revert X; revert F; revert B
       exact hP0 I n x h tk vs nr rs tl r oI t p n2 a1 a2
     case fin =>
       rintro m₁ news₁ h tk ⟨vs, nr, rs, tl, r, hn, hla, hok, hfr, rfl, rfl, htl, hall⟩ F5 N5
       replace F5 : Fr s.heap L' h _ := F5
       replace N5 : News s.heap L' h _ := N5
       have hla' : LearnAll i0 d0 i1 d1 ties rs := by
         have z : (vt.map Itm.val).length = ties.length := by rw [List.length_map]; exact hties.1
         rw [z, List.take_length] at hla
         exact hla
       have hn3 : rs.length ≤ 3 := by
         have z : (vt.map Itm.val).length = ties.length := by rw [List.length_map]; exact hties.1
         omega
       clear hla hn hI
       revert hn3; revert hla'; revert N5; revert F5; revert hall; revert htl; revert hfr; revert hok; revert hgR; revert hRC; revert dc; revert N9; revert F3; revert dc1; revert T'; revert X'; revert B'; revert ret; revert hun; revert hT; revert hlen; revert K; revert ho; revert hties; revert hta; revert hk; revert T; revert X; revert F; revert B
       exact hP1 h tk vs nr rs tl r
namespace K1_0
abbrev TT : Type := (((Addr × Nat) × (Itm × Heap)) × ((Nat × (List Value)) × (Nat × (List Rl)))) × ((((List (Addr × Obj)) × (Str -> Option Value)) × (Obj × Rl)) × ((Addr × Nat) × (Addr × Addr)))
theorem nn : Nonempty TT := ⟨(((default, (Itm.val .none, default)), default), default)⟩
def PP (p : TT) : Prop := sg1.1 p.1.1.1.1 p.1.1.1.2 p.1.1.2.1 p.1.1.2.2 p.1.2.1.1 p.1.2.1.2 p.1.2.2.1 p.1.2.2.2 p.2.1.1.1 p.2.1.1.2 p.2.1.2.1 p.2.1.2.2 p.2.2.1.1 p.2.2.1.2 p.2.2.2.1 p.2.2.2.2
def pt := ep nn PP
@[irreducible] def I := pt.1.1.1.1
@[irreducible] def n := pt.1.1.1.2
@[irreducible] def x := pt.1.1.2.1
@[irreducible] def h := pt.1.1.2.2
@[irreducible] def tk := pt.1.2.1.1
@[irreducible] def vs := pt.1.2.1.2
@[irreducible] def nr := pt.1.2.2.1
@[irreducible] def rs := pt.1.2.2.2
@[irreducible] def tl := pt.2.1.1.1
@[irreducible] def r := pt.2.1.1.2
@[irreducible] def oI := pt.2.1.2.1
@[irreducible] def t := pt.2.1.2.2
@[irreducible] def p := pt.2.2.1.1
@[irreducible] def n2 := pt.2.2.1.2
@[irreducible] def a1 := pt.2.2.2.1
@[irreducible] def a2 := pt.2.2.2.2
theorem sg2 : sg1.1 I n x h tk vs nr rs tl r oI t p n2 a1 a2 := by
 unfold sg1
 dsimp only
 intro B F X T hk hta hties ho K hlen hT hun ret B' X' T' dc1 F3 N9 dc hRC hgR hI hget hn hla hok hfr htl hall hcI F5 N5 hnlt e2 hv hv' hw1 hw2 hp hIR hIC ht2
 k_steps
 rename Fr s.heap L' _ _ => F9
 rename News s.heap L' _ _ => N9
 have hnR := toHide hgR F9
 have eR := N9 _ (.tail _ (.head _))
 have eC := N9 _ (.tail _ (.tail _ (.head _)))
 have eI := N9 _ (.head _)
 dsimp only at eR eC eI
 have nR : News s.heap L' _ [(R, lst vs nr)] := news_cons eR news_nil
 refine learn_spec w loose mean mg mb _ _ _ _ _ _ _ _ _ _ _ _ _ _ _ _ _ B' F9 X' T' rfl R a1 a2 ao t.1 t.2 vs nr rs (Nn 2) (mu i0 d0 i1 d1) i0 d0 i1 d1 nR (hall _ F9.keep fun q hq => (N9 q (.tail _ (.tail _ (.tail _ hq)))).1) ?hvs (hw1.ks (KS.of hnR)) (hw2.ks (KS.of hnR)) (ho.keep hnR) K.1 K.2.1 ht2.1 ht2.2
   (fun u r hu hr hf => mu_step K (by decide) hu (hok.1 r hr) hf) (by show 302 + 1 < 490; decide) (by show un + 3 < 480; omega) ?_
 case hvs =>
   have := (hall _ F9.keep fun q hq => (N9 q (.tail _ (.tail _ (.tail _ hq)))).1).1
   have := hties.1
   omega
 intro h6 tk6 vs' n' rs' G1 K1 hR hrs' hlearn hle hnew
 have kC := K1 _ _ (hideAll_get _ eC.1 (not_one (Nat.ne_of_lt hRC)))
 have kI := K1 _ _ (hideAll_get _ eI.1 (not_one (Nat.ne_of_gt hIR)))
 obtain ⟨tl2, NT2, off2, kp2'⟩ := swallow G1 [R, I]
 have kp2 : ∀ h₂, Keeps s.heap h₂ -> Has tl2 h₂ -> KeepsSeq [R] h6 h₂ := fun h₂ a b => (kp2' h₂ a b).drop fun o e => by rw [kI] at e; cases e; exact not_seq hcI
 clear kp2'
 have NN := news_cons ⟨kI, eI.2⟩ (news_cons ⟨hR, eR.2⟩ (news_cons ⟨kC, eC.2⟩ NT2))
 clear N9 K1 NT2 nR eR eC eI kC kI
 try dsimp only
 k_steps
 rename Fr s.heap L' _ _ => F11
 rename News s.heap L' _ _ => N11
 refine Halt.mk ?_
 obtain ⟨hok', hle'⟩ := hok.step K ht2.1 ht2.2 hlearn
 refine unr_end (news' := (R, lst vs' n') :: (L' + 1, oc) :: tl2) (fr_over [(oS "order", .ref ao), (oS "ties", .ref ta)] F11 (by with_unfolding_all exact ⟨rfl, rfl, trivial⟩)) N11 (sub1 (by k_mem)) (fun p hp => .tail _ hp) ?off ⟨trivial, vs', n', rs', tl2, _, by omega, ?_, hok', ?_, rfl, rfl, fun p hp q => off2 p hp (by simp [q]), ?_⟩
 case off =>
   intro p hp q hq
   rw [List.mem_singleton.mp hq]
   rcases List.mem_cons.mp hp with rfl | hp
   . exact Nat.ne_of_lt hIR
   rcases List.mem_cons.mp hp with rfl | hp
   . exact Nat.ne_of_lt hIC
   . exact fun e => off2 p hp (by simp [e])
 . exact (take_snoc e2) ▸ hla.snoc hlearn
 . intro v hv
   rcases hnew v hv with q | ⟨D, rfl, hD⟩
   . exact hfr v q
   . exact ⟨D, rfl, none_of hnR hD⟩
 . exact fun h hk ht => hrs'.keep fun v x q => q.ks (kp2 h hk ht).hide
theorem fin : ∀ x, PP x := drink nn PP (by with_unfolding_all exact sg2)
end K1_0
namespace K1_1
abbrev TT : Type := ((Heap × Nat) × ((List Value) × Nat)) × (((List Rl) × (List (Addr × Obj))) × (Str -> Option Value))
def PP (p : TT) : Prop := sg1.2.1 p.1.1.1 p.1.1.2 p.1.2.1 p.1.2.2 p.2.1.1 p.2.1.2 p.2.2
def pt := ep ⟨default⟩ PP
@[irreducible] def h := pt.1.1.1
@[irreducible] def tk := pt.1.1.2
@[irreducible] def vs := pt.1.2.1
@[irreducible] def nr := pt.1.2.2
@[irreducible] def rs := pt.2.1.1
@[irreducible] def tl := pt.2.1.2
@[irreducible] def r := pt.2.2
noncomputable def sg3 : (P0 : Heap -> (List Value) -> (List (Addr × Obj)) -> Addr -> Heap -> Nat -> Addr -> Nat -> Itm -> Heap -> Nat -> (List Value) -> Nat -> (List Rl) -> (List (Addr × Obj)) -> (Str -> Option Value) -> Obj -> Nat -> Nat -> Addr -> Nat -> Rl -> Rl -> Addr -> Nat -> Addr -> Addr -> Addr -> Nat -> Addr -> Addr -> Prop) ×' (P1 : Heap -> Tok -> Tok -> Tok -> Nat -> (List Value) -> Addr -> Obj -> Addr -> Obj -> Addr -> (Str -> Option Value) -> Heap -> Nat -> (List (Addr × Obj)) -> Tok -> Heap -> Nat -> Tok -> Tok -> Tok -> Prop) ×' ((∀ x0 x1 x2 x3 x4 x5 x6 x7 x8 x9 x10 x11 x12 x13 x14 x15 x16 x17 x18 x19 x20 x21 x22 x23 x24 x25 x26 x27 x28 x29 x30, P0 x0 x1 x2 x3 x4 x5 x6 x7 x8 x9 x10 x11 x12 x13 x14 x15 x16 x17 x18 x19 x20 x21 x22 x23 x24 x25 x26 x27 x28 x29 x30) -> (∀ x0 x1 x2 x3 x4 x5 x6 x7 x8 x9 x10 x11 x12 x13 x14 x15 x16 x17 x18 x19 x20, P1 x0 x1 x2 x3 x4 x5 x6 x7 x8 x9 x10 x11 x12 x13 x14 x15 x16 x17 x18 x19 x20) -> sg1.2.1 h tk vs nr rs tl r) := by
 apply PSigma.mk
 case snd =>
   apply PSigma.mk
   case snd =>
     intro hP0 hP1
     unfold sg1
     dsimp only
     intro B F X T hk hta hties ho K hlen hT hun ret B' X' T' dc1 F3 N9 dc hRC hgR hok hfr htl hall F5 N5 hla' hn3
     try dsimp only
     k_steps
     have hlr : vs.length = rs.length := (hall _ F5.keep fun q hq => (N5 q (.tail _ (.tail _ hq))).1).1
     have hv3 : vs.length ≤ 3 := by omega
     have hv1000 : vs.length ≤ 1000 := Nat.le_trans hv3 (by decide)
     refine Assign_ListComp2 (h₀ := s.heap) (L := L') (m := over [(oS "order", .ref ao), (oS "ties", .ref ta)] r) (by rfl) (by with_unfolding_all rfl) (by with_unfolding_all rfl) (by rfl) (by rfl) (by with_unfolding_all rfl) (by decide) (by rfl) (by decide) (by rfl) (by rfl) (by decide) ?_ (by intro _; rfl) (by intro _ _; rfl)
     k_steps
     rename_i hKs
     rename IsRange _ _ _ _ _ _ _ _ => hR
     rename Fr s.heap L' _ _ => F6
     rename News s.heap L' _ _ => N6
     refine ⟨_, 0, vs.length, 1, _, _, _, vs.length, _, _, _, rfl, rfl, F6, N6, hR, by (obtain q | q | q | q : vs.length = 0 ∨ vs.length = 1 ∨ vs.length = 2 ∨ vs.length = 3 := by omega) <;> (rw [q]; decide), size_upN _,
       fun i => PrJ s.heap vs nr R (L' + 1) oc tl (ips i), ⟨tl, rfl, htl, fun _ q => q, rfl, fun h _ => AllAt.nil⟩, ?_, ?_⟩
     . rintro ys news ⟨tp, rfl, htp, hsub, hlen', hpr⟩ P h6 tk6 F7 N7 off7
       clear F6 N6 hR
       have F8 := fr_over [(oS "order", .ref ao), (oS "ties", .ref ta)] F7 (by with_unfolding_all exact ⟨rfl, rfl, trivial⟩)
       clear F7
       k_steps
       have hPR : @Ne Nat P R := fun q => off7 (R, lst vs nr) (.head _) (by simp [show P = R from q])
       have e0 := N7 _ (.head _)
       with_unfolding_all refine For_turns F8 ?_
       k_steps
       refine Halt.mk ?_
       with_unfolding_all refine iter_listTurns (by rfl) F8 N7 (.head _) rfl rfl fun I hI => items_J (J := fun n m n' => SubL [(P, LCg.lst ys)] n' ∧ RulJ2 s.heap R (L' + 1) P I oc i0 d0 i1 d1 ta ao vs ys rs n m n') ?turn ?fin _ 0 _ _ (Nat.zero_add _) ⟨⟨.head _, trivial⟩, vs, nr, rs, tp, _, by omega, .nil, hok.okR, rfl, rfl, fun p hp => ⟨htp p hp, Nat.ne_of_lt (hI p (.tail _ (.tail _ (.tail _ hp))))⟩, fun h hk ht => ⟨hall h hk (hsub h ht), hall h hk (hsub h ht), hlr ▸ hpr _ fun q hq => hideAll_get _ (ht q hq) (not_one' (htp q hq))⟩⟩
       case turn =>
         rintro n x v m₁ news₁ h tk hget hv ⟨-, vs', nr', rs', tl', r', hn, hpa, hok', rfl, rfl, htl', hall'⟩ F5
         intro oI hcI N5
         have hv' := vals_get hget hv
         simp only [List.cons_append, List.nil_append] at N5
         replace F5 : Fr s.heap L' h _ := F5
         replace N5 : News s.heap L' h _ := N5
         obtain ⟨ha1, ha2, ha3⟩ := hall' h F5.keep fun q hq => (N5 q (.tail _ (.tail _ (.tail _ (.tail _ hq))))).1
         have hnlt : n < ys.length := by
           rcases Nat.lt_or_ge n ys.length with q | q
           . exact q
           . rw [List.getElem?_eq_none q] at hv'; cases hv'
         obtain ⟨v2, ⟨k, j⟩, e1, e2, p, np, va, vb, rfl, hp0, hp, g1, g2⟩ := ha3.get hnlt
         rw [hv'] at e1; cases e1
         dsimp only at g1 g2
         obtain ⟨hjk, hkn⟩ := ips_mem (List.mem_of_getElem? e2)
         have hjn : j < rs.length := Nat.lt_trans hjk hkn
         have q1 := List.getElem?_eq_getElem hkn
         have q2 := List.getElem?_eq_getElem hjn
         have hne : rs[j].1 ≠ rs[k].1 := List.pairwise_iff_getElem.mp hok.2 j k hjn hkn hjk
         have r1 := hok.1 _ (List.getElem_mem hkn)
         have r2 := hok.1 _ (List.getElem_mem hjn)
         generalize rs[k] = ra at q1 hne r1
         generalize rs[j] = rb at q2 hne r2
         have hf1 := hfr va (List.mem_of_getElem? g1)
         have hf2 := hfr vb (List.mem_of_getElem? g2)
         obtain ⟨t1, x1, y1, n1, rfl, ht1, ⟨a1, rfl, hw1⟩, ⟨b1, rfl, hz1⟩⟩ := ha2.2 k va ra g1 q1
         obtain ⟨t2, x2, y2, n2, rfl, ht2, ⟨a2, rfl, hw2⟩, ⟨b2, rfl, hz2⟩⟩ := ha2.2 j vb rb g2 q2
         obtain ⟨_, eD, hD1⟩ := hf1; cases eD
         obtain ⟨_, eD, hD2⟩ := hf2; cases eD
         have ep : _ ∧ _ := news_seq F5 isSeq_tup (of_hideAll _ hp) hp0
         have et1 : _ ∧ _ := news_seq F5 isSeq_tup (of_hideAll _ ht1) hD1
         have et2 : _ ∧ _ := news_seq F5 isSeq_tup (of_hideAll _ ht2) hD2
         have N6 := news_cons ep (news_cons et1 (news_cons et2 N5))
         clear N5
         have hIR : @LT.lt Nat _ R I := hI _ (.tail _ (.head _))
         have hIC : @LT.lt Nat _ (L' + 1) I := hI _ (.tail _ (.tail _ (.head _)))
         have hIP : @LT.lt Nat _ P I := hI _ (.head _)
         have hoffI : ∀ p ∈ (P, LCg.lst ys) :: (R, lst vs' nr') :: (L' + 1, oc) :: tl', ∀ q ∈ [(I, oI)], p.1 ≠ q.1 := off4 hIP hIR hIC fun p hp => (htl' p hp).2
         clear hget ha3
         revert hoffI; revert hIP; revert hIC; revert hIR; revert N6; revert et2; revert et1; revert ep; revert hD2; revert hD1; revert ht2; revert hz2; revert hw2; revert hp; revert g2; revert ht1; revert hz1; revert hw1; revert g1; revert r2; revert hne; revert q2; revert r1; revert q1; revert hjn; revert hkn; revert hjk; revert hv'; revert hv; revert hp0; revert e2; revert hnlt; revert ha2; revert ha1; revert F5; revert hcI; revert hall'; revert htl'; revert hok'; revert hpa; revert hn; revert hI; revert e0; revert hPR; revert F8; revert off7; revert N7; revert hpr; revert hlen'; revert hsub; revert htp; revert hKs; revert hv1000; revert hv3; revert hlr; revert hn3; revert hla'; revert hall; revert htl; revert hfr; revert hok; revert hgR; revert hRC; revert dc; revert N9; revert F3; revert dc1; revert T'; revert X'; revert B'; revert ret; revert hun; revert hT; revert hlen; revert K; revert ho; revert hties; revert hta; revert hk; revert T; revert X; revert F; revert B
         rename_i _ _ v2 _ _ _ _
         exact hP0 v2 ys tp P h6 tk6 I n x h tk vs' nr' rs' tl' r' oI k j p np ra rb t1 n1 a1 b1 t2 n2 a2 b2
       case fin =>
         rintro m₁ news₁ h tk ⟨-, vs', nr', rs', tl', r', hn, hpa, hok', rfl, rfl, htl', hall'⟩ F5 N5
         replace F5 : Fr s.heap L' h _ := F5
         replace N5 : News s.heap L' h _ := N5
         have hnl : (ips rs.length).length ≤ 3 := ips_len (by omega)
         obtain ⟨hr1, hr2, hr3⟩ := hall' _ F5.keep fun q hq => (N5 q (by repeat (first | exact hq | apply List.Mem.tail))).1
         have hyl : ys.length = (ips rs.length).length := hr3.1
         rw [List.length_map, hyl, List.take_length] at hpa
         rw [List.length_map] at hn
         have eR : _ ∧ _ := N5 (R, _) (by k_mem)
         dsimp only at eR
         clear hr2 hr3
         try dsimp only
         k_steps
         rename Fr h₀ L _ m => kF9
         exact ret R _ _ vs' nr' rs' kF9 F5.keep eR.2.2 eR.1 (hr1.keep fun v x q => q.ks KS.hidden) ⟨rs, hla', hok, hpa⟩ hok' (by omega)
     . rintro i ys news I oI C oC D m₂ h tk E' hi ⟨tp, rfl, htp, hsub, hlen, hpr⟩ hC t hx F7 N7 off7 nd
       simp only [List.nodup_cons, List.mem_cons, List.not_mem_nil, or_false, not_or, List.nodup_nil, and_true, not_false_eq_true] at nd
       simp only [List.cons_append, List.nil_append] at N7
       k_steps
       rename IsRange _ _ _ _ _ _ _ _ => hR2
       rename Fr s.heap L' _ _ => F8
       rename News s.heap L' _ _ => N8
       have e2 : ((0 : Int) + (i : Nat) * 1) = ((i : Nat) : Int) := by omega
       rw [e2] at hR2
       revert e2; revert N8; revert F8; revert hR2; revert nd; revert off7; revert hx; revert hC; revert hpr; revert hsub; revert htp; revert hi; revert hKs; revert N6; revert F6; revert hR; revert hv1000; revert hv3; revert hlr; revert hn3; revert hla'; revert hall; revert htl; revert hfr; revert hok; revert hgR; revert hRC; revert dc; revert N9; revert F3; revert dc1; revert T'; revert X'; revert B'; revert ret; revert hun; revert hT; revert hlen; revert K; revert ho; revert hties; revert hta; revert hk; revert T; revert X; revert F; revert B
       rename_i _ _ v2 _ v4 v5 v6 _ _ v9 v10 v11 v12 v13 _
       exact hP1 v2 v4 v5 v6 i ys I oI C oC D m₂ h tk tp t v9 v10 v11 v12 v13
namespace K3_0
abbrev TT : Type := ((((Heap × (List Value)) × ((List (Addr × Obj)) × Addr)) × ((Heap × Nat) × (Addr × Nat))) × (((Itm × Heap) × (Nat × (List Value))) × ((Nat × (List Rl)) × ((List (Addr × Obj)) × (Str -> Option Value))))) × ((((Obj × Nat) × (Nat × Addr)) × ((Nat × Rl) × (Rl × Addr))) × (((Nat × Addr) × (Addr × Addr)) × ((Nat × Addr) × Addr)))
theorem nn : Nonempty TT := ⟨((default, (((Itm.val .none, default), default), default)), default)⟩
def PP (p : TT) : Prop := sg3.1 p.1.1.1.1.1 p.1.1.1.1.2 p.1.1.1.2.1 p.1.1.1.2.2 p.1.1.2.1.1 p.1.1.2.1.2 p.1.1.2.2.1 p.1.1.2.2.2 p.1.2.1.1.1 p.1.2.1.1.2 p.1.2.1.2.1 p.1.2.1.2.2 p.1.2.2.1.1 p.1.2.2.1.2 p.1.2.2.2.1 p.1.2.2.2.2 p.2.1.1.1.1 p.2.1.1.1.2 p.2.1.1.2.1 p.2.1.1.2.2 p.2.1.2.1.1 p.2.1.2.1.2 p.2.1.2.2.1 p.2.1.2.2.2 p.2.2.1.1.1 p.2.2.1.1.2 p.2.2.1.2.1 p.2.2.1.2.2 p.2.2.2.1.1 p.2.2.2.1.2 p.2.2.2.2
def pt := ep nn PP
@[irreducible] def v2 := pt.1.1.1.1.1
@[irreducible] def ys := pt.1.1.1.1.2
@[irreducible] def tp := pt.1.1.1.2.1
@[irreducible] def P := pt.1.1.1.2.2
@[irreducible] def h6 := pt.1.1.2.1.1
@[irreducible] def tk6 := pt.1.1.2.1.2
@[irreducible] def I := pt.1.1.2.2.1
@[irreducible] def n := pt.1.1.2.2.2
@[irreducible] def x := pt.1.2.1.1.1
@[irreducible] def h := pt.1.2.1.1.2
@[irreducible] def tk := pt.1.2.1.2.1
@[irreducible] def vs' := pt.1.2.1.2.2
@[irreducible] def nr' := pt.1.2.2.1.1
@[irreducible] def rs' := pt.1.2.2.1.2
@[irreducible] def tl' := pt.1.2.2.2.1
@[irreducible] def r' := pt.1.2.2.2.2
@[irreducible] def oI := pt.2.1.1.1.1
@[irreducible] def k := pt.2.1.1.1.2
@[irreducible] def j := pt.2.1.1.2.1
@[irreducible] def p := pt.2.1.1.2.2
@[irreducible] def np := pt.2.1.2.1.1
@[irreducible] def ra := pt.2.1.2.1.2
@[irreducible] def rb := pt.2.1.2.2.1
@[irreducible] def t1 := pt.2.1.2.2.2
@[irreducible] def n1 := pt.2.2.1.1.1
@[irreducible] def a1 := pt.2.2.1.1.2
@[irreducible] def b1 := pt.2.2.1.2.1
@[irreducible] def t2 := pt.2.2.1.2.2
@[irreducible] def n2 := pt.2.2.2.1.1
@[irreducible] def a2 := pt.2.2.2.1.2
@[irreducible] def b2 := pt.2.2.2.2
noncomputable def sg4 : (P0 : Heap -> Nat -> Addr -> Addr -> Addr -> Nat -> Nat -> Nat -> (List Int) -> (List Int) -> Heap -> Nat -> Value -> Value -> Value -> Value -> Prop) ×' (P1 : Heap -> Nat -> Addr -> Addr -> Addr -> Nat -> Nat -> Nat -> Heap -> Nat -> Int -> Int -> Tok -> Tok -> Prop) ×' ((∀ x0 x1 x2 x3 x4 x5 x6 x7 x8 x9 x10 x11 x12 x13 x14 x15, P0 x0 x1 x2 x3 x4 x5 x6 x7 x8 x9 x10 x11 x12 x13 x14 x15) -> (∀ x0 x1 x2 x3 x4 x5 x6 x7 x8 x9 x10 x11 x12 x13, P1 x0 x1 x2 x3 x4 x5 x6 x7 x8 x9 x10 x11 x12 x13) -> sg3.1 v2 ys tp P h6 tk6 I n x h tk vs' nr' rs' tl' r' oI k j p np ra rb t1 n1 a1 b1 t2 n2 a2 b2) := by
 apply PSigma.mk
 case snd =>
   apply PSigma.mk
   case snd =>
     intro hP0 hP1
     unfold sg3
     dsimp only
     intro B F X T hk hta hties ho K hlen hT hun ret B' X' T' dc1 F3 N9 dc hRC hgR hok hfr htl hall hla' hn3 hlr hv3 hv1000 hKs htp hsub hlen' hpr N7 off7 F8 hPR e0 hI hn hpa hok' htl' hall' hcI F5 ha1 ha2 hnlt e2 hp0 hv hv' hjk hkn hjn q1 r1 q2 hne r2 g1 hw1 hz1 ht1 g2 hp hw2 hz2 ht2 hD1 hD2 ep et1 et2 N6 hIR hIC hIP hoffI
     k_steps
     rename Fr s.heap L' _ _ => F9
     rename News s.heap L' _ _ => N9
     have hnR := toHide hgR F9
     have hrl := (hall' _ F9.keep fun q hq => (N9 q (.tail _ (.tail _ (.tail _ (.tail _ (.tail _ (.tail _ (.tail _ hq)))))))).1).2.1
     obtain ⟨ta0, ta1, ta2, na, hA⟩ := ((hrl.2 k _ ra g1 q1).at' (N9 (t1, _) (.tail _ (.head _))).1).1.off
     obtain ⟨tb0, tb1, tb2, nb, hB⟩ := ((hrl.2 j _ rb g2 q2).at' (N9 (t2, _) (.tail _ (.tail _ (.head _)))).1).1.off
     refine beyond_spec w loose mean mg mb _ _ _ _ _ _ _ _ _ _ _ _ _ _ _ _ B' F9 X' T' rfl a1 a2 ra.1.1 ra.1.2.1 ra.1.2.2 rb.1.1 rb.1.2.1 rb.1.2.2 ta0 ta1 ta2 tb0 tb1 tb2 na nb hA hB r1.1.1 r1.1.2.1 r1.1.2.2.1 r1.1.2.2.2 r2.1.1 r2.1.2.1 r2.1.2.2.1 r2.1.2.2.2 (fun q => hne (by rw [Prod.ext_iff, Prod.ext_iff]; exact ⟨q.1.symm, q.2.1.symm, q.2.2.symm⟩)) (by show un + 3 < 450; omega) ?_
     intro R' R0 R1 c c0 c1 vs0 vs1 l0 l1 h7 tk7 G1 K1 hR' hR0 hR1 nR' nR0 nR1 i0' i1' hro
     have NN := news_cons (news_new F9 nR' hR') (news_cons (news_new F9 nR0 hR0) (news_cons (news_new F9 nR1 hR1) (News.keep N9 K1)))
     have hro' := hro
     clear N9 F9 hrl hA hB hnR K1
     rcases hro with ⟨z0, z1, -⟩ | ⟨p0, q0, rfl, rfl, hp0', hq0', s0, s1, s2⟩
     . obtain ⟨u0, u1, e0', -⟩ := two_vals i0' z0
       obtain ⟨w0, w1, e1', -⟩ := two_vals i1' z1
       subst e0'
       subst e1'
       revert NN; revert i1'; revert hR1; revert i0'; revert hR0; revert z1; revert z0; revert hro'; revert nR1; revert nR0; revert nR'; revert hR'; revert G1; revert hoffI; revert hIP; revert hIC; revert hIR; revert et2; revert et1; revert ep; revert hD2; revert hD1; revert ht2; revert hz2; revert hw2; revert hp; revert g2; revert ht1; revert hz1; revert hw1; revert g1; revert r2; revert hne; revert q2; revert r1; revert q1; revert hjn; revert hkn; revert hjk; revert hv'; revert hv; revert hp0; revert e2; revert hnlt; revert ha2; revert ha1; revert hcI; revert hall'; revert htl'; revert hok'; revert hpa; revert hn; revert hI; revert e0; revert hPR; revert off7; revert hpr; revert hlen'; revert hsub; revert htp; revert hKs; revert hv1000; revert hv3; revert hlr; revert hn3; revert hla'; revert hall; revert htl; revert hfr; revert hok; revert hgR; revert hRC; revert dc; revert dc1; revert T'; revert X'; revert B'; revert ret; revert hun; revert hT; revert hlen; revert K; revert ho; revert hties; revert hta; revert hk; revert T; revert X; revert F; revert B
       rename_i _ _ v2
       exact hP0 v2 tk R' R0 R1 c c0 c1 l0 l1 h7 tk7 u0 u1 w0 w1
     . obtain ⟨tp0, rfl⟩ := ints1 i0'
       obtain ⟨tq0, rfl⟩ := ints1 i1'
       revert NN; revert i1'; revert hR1; revert i0'; revert hR0; revert s2; revert s1; revert s0; revert hq0'; revert hp0'; revert hro'; revert nR1; revert nR0; revert nR'; revert hR'; revert G1; revert hoffI; revert hIP; revert hIC; revert hIR; revert et2; revert et1; revert ep; revert hD2; revert hD1; revert ht2; revert hz2; revert hw2; revert hp; revert g2; revert ht1; revert hz1; revert hw1; revert g1; revert r2; revert hne; revert q2; revert r1; revert q1; revert hjn; revert hkn; revert hjk; revert hv'; revert hv; revert hp0; revert e2; revert hnlt; revert ha2; revert ha1; revert hcI; revert hall'; revert htl'; revert hok'; revert hpa; revert hn; revert hI; revert e0; revert hPR; revert off7; revert hpr; revert hlen'; revert hsub; revert htp; revert hKs; revert hv1000; revert hv3; revert hlr; revert hn3; revert hla'; revert hall; revert htl; revert hfr; revert hok; revert hgR; revert hRC; revert dc; revert dc1; revert T'; revert X'; revert B'; revert ret; revert hun; revert hT; revert hlen; revert K; revert ho; revert hties; revert hta; revert hk; revert T; revert X; revert F; revert B
       rename_i _ _ v2
       exact hP1 v2 tk R' R0 R1 c c0 c1 h7 tk7 p0 q0 tp0 tq0
namespace K4_0
abbrev TT : Type := (((Heap × Nat) × (Addr × Addr)) × ((Addr × Nat) × (Nat × Nat))) × ((((List Int) × (List Int)) × (Heap × Nat)) × ((Value × Value) × (Value × Value)))
def PP (p : TT) : Prop := sg4.1 p.1.1.1.1 p.1.1.1.2 p.1.1.2.1 p.1.1.2.2 p.1.2.1.1 p.1.2.1.2 p.1.2.2.1 p.1.2.2.2 p.2.1.1.1 p.2.1.1.2 p.2.1.2.1 p.2.1.2.2 p.2.2.1.1 p.2.2.1.2 p.2.2.2.1 p.2.2.2.2
def pt := ep ⟨default⟩ PP
@[irreducible] def v2 := pt.1.1.1.1
@[irreducible] def tk := pt.1.1.1.2
@[irreducible] def R' := pt.1.1.2.1
@[irreducible] def R0 := pt.1.1.2.2
@[irreducible] def R1 := pt.1.2.1.1
@[irreducible] def c := pt.1.2.1.2
@[irreducible] def c0 := pt.1.2.2.1
@[irreducible] def c1 := pt.1.2.2.2
@[irreducible] def l0 := pt.2.1.1.1
@[irreducible] def l1 := pt.2.1.1.2
@[irreducible] def h7 := pt.2.1.2.1
@[irreducible] def tk7 := pt.2.1.2.2
@[irreducible] def u0 := pt.2.2.1.1
@[irreducible] def u1 := pt.2.2.1.2
@[irreducible] def w0 := pt.2.2.2.1
@[irreducible] def w1 := pt.2.2.2.2
theorem sg5 : sg4.1 v2 tk R' R0 R1 c c0 c1 l0 l1 h7 tk7 u0 u1 w0 w1 := by
 unfold sg4
 dsimp only
 intro B F X T hk hta hties ho K hlen hT hun ret B' X' T' dc1 dc hRC hgR hok hfr htl hall hla' hn3 hlr hv3 hv1000 hKs htp hsub hlen' hpr off7 hPR e0 hI hn hpa hok' htl' hall' hcI ha1 ha2 hnlt e2 hp0 hv hv' hjk hkn hjn q1 r1 q2 hne r2 g1 hw1 hz1 ht1 g2 hp hw2 hz2 ht2 hD1 hD2 ep et1 et2 hIR hIC hIP hoffI G1 hR' nR' nR0 nR1 hro' z0 z1 hR0 i0' hR1 i1' NN
 k_steps
 rename Fr s.heap L' _ _ => F11
 rename News s.heap L' _ _ => N11
 refine Halt.mk ?_
 refine unr_end (news' := (P, LCg.lst ys) :: (R, lst vs' nr') :: (L' + 1, oc) :: tl') (fr_over [(oS "order", .ref ao), (oS "ties", .ref ta)] F11 (by with_unfolding_all exact ⟨rfl, rfl, trivial⟩)) N11 (sub1 (by k_mem)) ?sub ?off ⟨⟨.head _, trivial⟩, ⟨.head _, trivial⟩, vs', nr', rs', tl', _, by omega, ?_, hok', rfl, rfl, htl', hall'⟩
 case sub => exact fun p hp => by repeat (first | exact hp | apply List.Mem.tail)
 case off => exact hoffI
 exact (take_snoc e2) ▸ hpa.snoc q1 q2 ⟨_, _, hro', .inr ⟨z0, z1, rfl⟩⟩
theorem fin : ∀ x, PP x := drink ⟨default⟩ PP (by with_unfolding_all exact sg5)
end K4_0
namespace K4_1
abbrev TT : Type := (((Heap × Nat) × (Addr × Addr)) × ((Addr × Nat) × Nat)) × (((Nat × Heap) × (Nat × Int)) × ((Int × Tok) × Tok))
def PP (p : TT) : Prop := sg4.2.1 p.1.1.1.1 p.1.1.1.2 p.1.1.2.1 p.1.1.2.2 p.1.2.1.1 p.1.2.1.2 p.1.2.2 p.2.1.1.1 p.2.1.1.2 p.2.1.2.1 p.2.1.2.2 p.2.2.1.1 p.2.2.1.2 p.2.2.2
def pt := ep ⟨default⟩ PP
@[irreducible] def v2 := pt.1.1.1.1
@[irreducible] def tk := pt.1.1.1.2
@[irreducible] def R' := pt.1.1.2.1
@[irreducible] def R0 := pt.1.1.2.2
@[irreducible] def R1 := pt.1.2.1.1
@[irreducible] def c := pt.1.2.1.2
@[irreducible] def c0 := pt.1.2.2
@[irreducible] def c1 := pt.2.1.1.1
@[irreducible] def h7 := pt.2.1.1.2
@[irreducible] def tk7 := pt.2.1.2.1
@[irreducible] def p0 := pt.2.1.2.2
@[irreducible] def q0 := pt.2.2.1.1
@[irreducible] def tp0 := pt.2.2.1.2
@[irreducible] def tq0 := pt.2.2.2
noncomputable def sg6 : (P0 : Nat -> Nat -> Addr -> Nat -> Addr -> Heap -> Nat -> Addr -> Heap -> Nat -> Tok -> Tok -> Tok -> Nat -> Prop) ×' ((∀ x0 x1 x2 x3 x4 x5 x6 x7 x8 x9 x10 x11 x12 x13, P0 x0 x1 x2 x3 x4 x5 x6 x7 x8 x9 x10 x11 x12 x13) -> sg4.2.1 v2 tk R' R0 R1 c c0 c1 h7 tk7 p0 q0 tp0 tq0) := by
 apply PSigma.mk
 case snd =>
   intro hP0
   unfold sg4
   dsimp only
   intro B F X T hk hta hties ho K hlen hT hun ret B' X' T' dc1 dc hRC hgR hok hfr htl hall hla' hn3 hlr hv3 hv1000 hKs htp hsub hlen' hpr off7 hPR e0 hI hn hpa hok' htl' hall' hcI ha1 ha2 hnlt e2 hp0 hv hv' hjk hkn hjn q1 r1 q2 hne r2 g1 hw1 hz1 ht1 g2 hp hw2 hz2 ht2 hD1 hD2 ep et1 et2 hIR hIC hIP hoffI G1 hR' nR' nR0 nR1 hro' hp0' hq0' s0 s1 s2 hR0 i0' hR1 i1' NN
   k_steps
   rename Fr s.heap L' _ _ => F9
   rename News s.heap L' _ _ => N9
   have hrl := (hall' _ F9.keep fun q hq => (N9 q (by repeat (first | exact hq | apply List.Mem.tail))).1).2.1
   obtain ⟨us1, m1, -, gl1, gi1⟩ := ((hrl.2 k _ ra g1 q1).at' (N9 (t1, _) (by k_mem)).1).2.out
   refine with_spec w loose mean mg mb _ _ _ _ _ _ _ _ _ _ _ _ _ _ _ _ _ B' F9 X' T' rfl b1 R1 ra.2.1 ra.2.2.1 ra.2.2.2 us1 [.int q0 tq0] [q0] (gl1.at fun o e => of_hideAll _ e) gi1 c1 (N9 (R1, _) (by k_mem)).1 ⟨_, (N9 (R1, _) (by k_mem)).1, rfl, c1, rfl⟩ (.cons _ _ .nil) (by show 302 + 1 < 500; decide) (by show un + 3 < 500; omega) ?_
   intro D1 h8 tk8 G2 K2 hD1 ⟨v0, v1, v2, nD1, eD1⟩
   have NN := news_cons (news_new F9 hD1 eD1) (News.keep N9 K2)
   have hD1R : D1 ≠ R := ne_none (N9 (R, _) (by k_mem)).1 hD1
   clear N9 F9 hrl gl1 gi1 K2 hD1 eD1
   revert hD1R; revert NN; revert G2; revert i1'; revert hR1; revert i0'; revert hR0; revert s2; revert s1; revert s0; revert hq0'; revert hp0'; revert hro'; revert nR1; revert nR0; revert nR'; revert hR'; revert hoffI; revert hIP; revert hIC; revert hIR; revert et2; revert et1; revert ep; revert hD2; revert hD1; revert ht2; revert hz2; revert hw2; revert hp; revert g2; revert ht1; revert hz1; revert hw1; revert g1; revert r2; revert hne; revert q2; revert r1; revert q1; revert hjn; revert hkn; revert hjk; revert hv'; revert hv; revert hp0; revert e2; revert hnlt; revert ha2; revert ha1; revert hcI; revert hall'; revert htl'; revert hok'; revert hpa; revert hn; revert hI; revert e0; revert hPR; revert off7; revert hpr; revert hlen'; revert hsub; revert htp; revert hKs; revert hv1000; revert hv3; revert hlr; revert hn3; revert hla'; revert hall; revert htl; revert hfr; revert hok; revert hgR; revert hRC; revert dc; revert dc1; revert T'; revert X'; revert B'; revert ret; revert hun; revert hT; revert hlen; revert K; revert ho; revert hties; revert hta; revert hk; revert T; revert X; revert F; revert B
   rename_i _ _ _ _ _ _ _ _ _ _ v10 _ _ _ _ _ _ _ _ _ _ _ _ _ v24 _ _ _ _ _ _ v31 _ v33 _ v35 v36 _
   exact hP0 v10 v24 v31 v33 v35 v36 tk D1 h8 tk8 v0 v1 v2 nD1
namespace K6_0
abbrev TT : Type := (((Nat × Nat) × (Addr × Nat)) × ((Addr × Heap) × Nat)) × (((Addr × Heap) × (Nat × Tok)) × ((Tok × Tok) × Nat))
def PP (p : TT) : Prop := sg6.1 p.1.1.1.1 p.1.1.1.2 p.1.1.2.1 p.1.1.2.2 p.1.2.1.1 p.1.2.1.2 p.1.2.2 p.2.1.1.1 p.2.1.1.2 p.2.1.2.1 p.2.1.2.2 p.2.2.1.1 p.2.2.1.2 p.2.2.2
def pt := ep ⟨default⟩ PP
@[irreducible] def v10 := pt.1.1.1.1
@[irreducible] def v24 := pt.1.1.1.2
@[irreducible] def v31 := pt.1.1.2.1
@[irreducible] def v33 := pt.1.1.2.2
@[irreducible] def v35 := pt.1.2.1.1
@[irreducible] def v36 := pt.1.2.1.2
@[irreducible] def tk := pt.1.2.2
@[irreducible] def D1 := pt.2.1.1.1
@[irreducible] def h8 := pt.2.1.1.2
@[irreducible] def tk8 := pt.2.1.2.1
@[irreducible] def v0 := pt.2.1.2.2
@[irreducible] def v1 := pt.2.2.1.1
@[irreducible] def v2 := pt.2.2.1.2
@[irreducible] def nD1 := pt.2.2.2
noncomputable def sg7 : (P0 : Addr -> Heap -> Nat -> Tok -> Tok -> Tok -> Nat -> Prop) ×' ((∀ x0 x1 x2 x3 x4 x5 x6, P0 x0 x1 x2 x3 x4 x5 x6) -> sg6.1 v10 v24 v31 v33 v35 v36 tk D1 h8 tk8 v0 v1 v2 nD1) := by
 apply PSigma.mk
 case snd =>
   intro hP0
   unfold sg6
   dsimp only
   intro B F X T hk hta hties ho K hlen hT hun ret B' X' T' dc1 dc hRC hgR hok hfr htl hall hla' hn3 hlr hv3 hv1000 hKs htp hsub hlen' hpr off7 hPR e0 hI hn hpa hok' htl' hall' hcI ha1 ha2 hnlt e2 hp0 hv hv' hjk hkn hjn q1 r1 q2 hne r2 g1 hw1 hz1 ht1 g2 hp hw2 hz2 ht2 hD1 hD2 ep et1 et2 hIR hIC hIP hoffI hR' nR' nR0 nR1 hro' hp0' hq0' s0 s1 s2 hR0 i0' hR1 i1' G2 NN hD1R
   k_steps
   rename Fr s.heap L' _ _ => F9
   rename News s.heap L' _ _ => N9
   have hrl := (hall' _ F9.keep fun q hq => (N9 q (by repeat (first | exact hq | apply List.Mem.tail))).1).2.1
   obtain ⟨us2, m2, -, gl2, gi2⟩ := ((hrl.2 j _ rb g2 q2).at' (N9 (t2, _) (by k_mem)).1).2.out
   refine with_spec w loose mean mg mb _ _ _ _ _ _ _ _ _ _ _ _ _ _ _ _ _ B' F9 X' T' rfl b2 R0 rb.2.1 rb.2.2.1 rb.2.2.2 us2 [.int p0 tp0] [p0] (gl2.at fun o e => of_hideAll _ e) gi2 c0 (N9 (R0, _) (by k_mem)).1 ⟨_, (N9 (R0, _) (by k_mem)).1, rfl, c0, rfl⟩ (.cons _ _ .nil) (by show 302 + 1 < 500; decide) (by show un + 3 < 500; omega) ?_
   intro D2 h9 tk9 G2 K2 hD2 ⟨y0, y1, y2, nD2, eD2⟩
   have NN := news_cons (news_new F9 hD2 eD2) (News.keep N9 K2)
   have hD2R : D2 ≠ R := ne_none (N9 (R, _) (by k_mem)).1 hD2
   clear N9 F9 hrl gl2 gi2 K2 hD2 eD2
   revert hD2R; revert NN; revert G2; revert hD1R; revert i1'; revert hR1; revert i0'; revert hR0; revert s2; revert s1; revert s0; revert hq0'; revert hp0'; revert hro'; revert nR1; revert nR0; revert nR'; revert hR'; revert hoffI; revert hIP; revert hIC; revert hIR; revert et2; revert et1; revert ep; revert hD2; revert hD1; revert ht2; revert hz2; revert hw2; revert hp; revert g2; revert ht1; revert hz1; revert hw1; revert g1; revert r2; revert hne; revert q2; revert r1; revert q1; revert hjn; revert hkn; revert hjk; revert hv'; revert hv; revert hp0; revert e2; revert hnlt; revert ha2; revert ha1; revert hcI; revert hall'; revert htl'; revert hok'; revert hpa; revert hn; revert hI; revert e0; revert hPR; revert off7; revert hpr; revert hlen'; revert hsub; revert htp; revert hKs; revert hv1000; revert hv3; revert hlr; revert hn3; revert hla'; revert hall; revert htl; revert hfr; revert hok; revert hgR; revert hRC; revert dc; revert dc1; revert T'; revert X'; revert B'; revert ret; revert hun; revert hT; revert hlen; revert K; revert ho; revert hties; revert hta; revert hk; revert T; revert X; revert F; revert B
   exact hP0 D2 h9 tk9 y0 y1 y2 nD2
namespace K7_0
abbrev TT : Type := ((Addr × Heap) × (Nat × Tok)) × ((Tok × Tok) × Nat)
def PP (p : TT) : Prop := sg7.1 p.1.1.1 p.1.1.2 p.1.2.1 p.1.2.2 p.2.1.1 p.2.1.2 p.2.2
def pt := ep ⟨default⟩ PP
@[irreducible] def D2 := pt.1.1.1
@[irreducible] def h9 := pt.1.1.2
@[irreducible] def tk9 := pt.1.2.1
@[irreducible] def y0 := pt.1.2.2
@[irreducible] def y1 := pt.2.1.1
@[irreducible] def y2 := pt.2.1.2
@[irreducible] def nD2 := pt.2.2
noncomputable def sg8 : (P0 : Heap -> Nat -> (List Value) -> Nat -> (List Rl) -> (List (Addr × Obj)) -> Prop) ×' ((∀ x0 x1 x2 x3 x4 x5, P0 x0 x1 x2 x3 x4 x5) -> sg7.1 D2 h9 tk9 y0 y1 y2 nD2) := by
 apply PSigma.mk
 case snd =>
   intro hP0
   unfold sg7
   dsimp only
   intro B F X T hk hta hties ho K hlen hT hun ret B' X' T' dc1 dc hRC hgR hok hfr htl hall hla' hn3 hlr hv3 hv1000 hKs htp hsub hlen' hpr off7 hPR e0 hI hn hpa hok' htl' hall' hcI ha1 ha2 hnlt e2 hp0 hv hv' hjk hkn hjn q1 r1 q2 hne r2 g1 hw1 hz1 ht1 g2 hp hw2 hz2 ht2 hD1 hD2 ep et1 et2 hIR hIC hIP hoffI hR' nR' nR0 nR1 hro' hp0' hq0' s0 s1 s2 hR0 i0' hR1 i1' hD1R G2 NN hD2R
   k_steps
   rename Fr s.heap L' _ _ => F9
   rename News s.heap L' _ _ => N9
   have hnR := toHide hgR F9
   obtain ⟨hr1, hr2, hr3⟩ := hall' _ F9.keep fun q hq => (N9 q (by repeat (first | exact hq | apply List.Mem.tail))).1
   have eR : _ ∧ _ := N9 (R, _) (by k_mem)
   have eC : _ ∧ _ := N9 (L' + 1, _) (by k_mem)
   have eI : _ ∧ _ := N9 (I, _) (by k_mem)
   have eP : _ ∧ _ := N9 (P, _) (by k_mem)
   have eD1 := (N9 (D1, _) (by k_mem)).1
   have eD2 := (N9 (D2, _) (by k_mem)).1
   dsimp only at eR eC eI eP
   have hvl : vs'.length = rs'.length := hr1.1
   have hnl : (ips rs.length).length ≤ 3 := ips_len (by omega)
   have hyl : ys.length = (ips rs.length).length := hr3.1
   refine learn_spec w loose mean mg mb _ _ _ _ _ _ _ _ _ _ _ _ _ _ _ _ _ B' F9 X' T' rfl R D1 D2 ao (wth ra.2 [q0]) (wth rb.2 [p0]) vs' nr' rs' (Nn 3) (mu i0 d0 i1 d1) i0 d0 i1 d1 (news_cons eR news_nil) hr1 (by omega) ⟨_, _, _, _, hideAll_get _ eD1 (not_one' hD1R)⟩ ⟨_, _, _, _, hideAll_get _ eD2 (not_one' hD2R)⟩ (ho.keep hnR) K.1 K.2.1 (nn_wth1 r1.2.1 hq0') (nn_wth1 r2.2.1 hp0')
     (fun u r hu hr hf => by obtain ⟨e, o⟩ := hok' r hr; exact mu_step K (by decide) hu o hf) (by show 302 + 1 < 490; decide) (by show un + 3 < 480; omega) ?_
   intro h10 tk10 vs2 n2' rs2 G1 K1 hR2 hrs2 hlearn hle hnew
   have kC := K1 _ _ (hideAll_get _ eC.1 (not_one' (Nat.ne_of_lt hRC)))
   have kI := K1 _ _ (hideAll_get _ eI.1 (not_one' (Nat.ne_of_gt hIR)))
   have kP := K1 _ _ (hideAll_get _ eP.1 (not_one' hPR))
   have ks1 := KeepsSeq.hide (muts := [R]) fun b o _ hb e => K1 b o (hideAll_get _ e hb)
   have hr2' := hr2.keep fun v x (q : RlAt _ v x) => q.ks ks1
   have hr3' := hr3.keep fun v x (q : PrAt _ _ _ v x) => q.ks ks1
   obtain ⟨tl2, NT2, off2, kp2'⟩ := swallow G1 [R, I]
   have kp2 : ∀ h₂, Keeps s.heap h₂ -> Has tl2 h₂ -> KeepsSeq [R] h10 h₂ := fun h₂ a b => (kp2' h₂ a b).drop fun o e => by rw [kI] at e; cases e; exact not_seq hcI
   have NN := news_cons ⟨kI, eI.2⟩ (news_cons ⟨kP, eP.2⟩ (news_cons ⟨hR2, eR.2⟩ (news_cons ⟨kC, eC.2⟩ NT2)))
   clear N9 K1 NT2 eR eC eI eP kC kI kP eD1 eD2 kp2' ks1 hr1 hr2 hr3 F9 hall' hnR
   revert NN; revert kp2; revert off2; revert hr3'; revert hr2'; revert hnew; revert hle; revert hlearn; revert hrs2; revert hR2; revert G1; revert hyl; revert hnl; revert hvl; revert hD2R; revert hD1R; revert i1'; revert hR1; revert i0'; revert hR0; revert s2; revert s1; revert s0; revert hq0'; revert hp0'; revert hro'; revert nR1; revert nR0; revert nR'; revert hR'; revert hoffI; revert hIP; revert hIC; revert hIR; revert et2; revert et1; revert ep; revert hD2; revert hD1; revert ht2; revert hz2; revert hw2; revert hp; revert g2; revert ht1; revert hz1; revert hw1; revert g1; revert r2; revert hne; revert q2; revert r1; revert q1; revert hjn; revert hkn; revert hjk; revert hv'; revert hv; revert hp0; revert e2; revert hnlt; revert ha2; revert ha1; revert hcI; revert htl'; revert hok'; revert hpa; revert hn; revert hI; revert e0; revert hPR; revert off7; revert hpr; revert hlen'; revert hsub; revert htp; revert hKs; revert hv1000; revert hv3; revert hlr; revert hn3; revert hla'; revert hall; revert htl; revert hfr; revert hok; revert hgR; revert hRC; revert dc; revert dc1; revert T'; revert X'; revert B'; revert ret; revert hun; revert hT; revert hlen; revert K; revert ho; revert hties; revert hta; revert hk; revert T; revert X; revert F; revert B
   exact hP0 h10 tk10 vs2 n2' rs2 tl2
namespace K8_0
abbrev TT : Type := ((Heap × Nat) × (List Value)) × ((Nat × (List Rl)) × (List (Addr × Obj)))
def PP (p : TT) : Prop := sg8.1 p.1.1.1 p.1.1.2 p.1.2 p.2.1.1 p.2.1.2 p.2.2
def pt := ep ⟨default⟩ PP
@[irreducible] def h10 := pt.1.1.1
@[irreducible] def tk10 := pt.1.1.2
@[irreducible] def vs2 := pt.1.2
@[irreducible] def n2' := pt.2.1.1
@[irreducible] def rs2 := pt.2.1.2
@[irreducible] def tl2 := pt.2.2
theorem sg9 : sg8.1 h10 tk10 vs2 n2' rs2 tl2 := by
 unfold sg8
 dsimp only
 intro B F X T hk hta hties ho K hlen hT hun ret B' X' T' dc1 dc hRC hgR hok hfr htl hall hla' hn3 hlr hv3 hv1000 hKs htp hsub hlen' hpr off7 hPR e0 hI hn hpa hok' htl' hcI ha1 ha2 hnlt e2 hp0 hv hv' hjk hkn hjn q1 r1 q2 hne r2 g1 hw1 hz1 ht1 g2 hp hw2 hz2 ht2 hD1 hD2 ep et1 et2 hIR hIC hIP hoffI hR' nR' nR0 nR1 hro' hp0' hq0' s0 s1 s2 hR0 i0' hR1 i1' hD1R hD2R hvl hnl hyl G1 hR2 hrs2 hlearn hle hnew hr2' hr3' off2 kp2 NN
 try dsimp only
 k_steps
 rename Fr s.heap L' _ _ => F11
 rename News s.heap L' _ _ => N11
 refine Halt.mk ?_
 obtain ⟨hok2, hle2⟩ := hok'.step K (nn_wth1 r1.2.1 hq0') (nn_wth1 r2.2.1 hp0') hlearn
 refine unr_end (news' := (P, LCg.lst ys) :: (R, lst vs2 n2') :: (L' + 1, oc) :: tl2) (fr_over [(oS "order", .ref ao), (oS "ties", .ref ta)] F11 (by with_unfolding_all exact ⟨rfl, rfl, trivial⟩)) N11 (sub1 (by k_mem)) (fun p hp => .tail _ hp) (off4 hIP hIR hIC fun p hp q => off2 p hp (by simp [q])) ⟨⟨.head _, trivial⟩, ⟨.head _, trivial⟩, vs2, n2', rs2, tl2, _, by omega, ?_, hok2, rfl, rfl, fun p hp => ⟨fun q => off2 p hp (by simp [q]), fun q => off2 p hp (by simp [q])⟩, fun h hk ht => ?_⟩
 . exact (take_snoc e2) ▸ hpa.snoc q1 q2 ⟨_, _, hro', .inl ⟨rfl, rfl, hlearn⟩⟩
 . have kk := (kp2 h hk ht).hide
   exact ⟨hrs2.keep fun v x q => q.ks kk, hr2'.keep fun v x q => q.ks kk, hr3'.keep fun v x q => q.ks kk⟩
theorem fin : ∀ x, PP x := drink ⟨default⟩ PP (by with_unfolding_all exact sg9)
end K8_0
theorem fin : ∀ x, PP x := drink ⟨default⟩ PP (by with_unfolding_all exact sg8.2 (by intros; exact K8_0.fin (((_, _), _), ((_, _), _))))
end K7_0
theorem fin : ∀ x, PP x := drink ⟨default⟩ PP (by with_unfolding_all exact sg7.2 (by intros; exact K7_0.fin (((_, _), (_, _)), ((_, _), _))))
end K6_0
theorem fin : ∀ x, PP x := drink ⟨default⟩ PP (by with_unfolding_all exact sg6.2 (by intros; exact K6_0.fin ((((_, _), (_, _)), ((_, _), _)), (((_, _), (_, _)), ((_, _), _)))))
end K4_1
theorem fin : ∀ x, PP x := drink nn PP (by with_unfolding_all exact sg4.2.2 (by intros; exact K4_0.fin ((((_, _), (_, _)), ((_, _), (_, _))), (((_, _), (_, _)), ((_, _), (_, _))))) (by intros; exact K4_1.fin ((((_, _), (_, _)), ((_, _), _)), (((_, _), (_, _)), ((_, _), _)))))
end K3_0
namespace K3_1
abbrev TT : Type := ((((Heap × Tok) × Tok) × ((Tok × Nat) × (List Value))) × (((Addr × Obj) × Addr) × (Obj × Addr))) × (((((Str -> Option Value) × Heap) × Nat) × ((List (Addr × Obj)) × Tok)) × (((Heap × Nat) × Tok) × (Tok × Tok)))
def PP (p : TT) : Prop := sg3.2.1 p.1.1.1.1.1 p.1.1.1.1.2 p.1.1.1.2 p.1.1.2.1.1 p.1.1.2.1.2 p.1.1.2.2 p.1.2.1.1.1 p.1.2.1.1.2 p.1.2.1.2 p.1.2.2.1 p.1.2.2.2 p.2.1.1.1.1 p.2.1.1.1.2 p.2.1.1.2 p.2.1.2.1 p.2.1.2.2 p.2.2.1.1.1 p.2.2.1.1.2 p.2.2.1.2 p.2.2.2.1 p.2.2.2.2
def pt := ep ⟨default⟩ PP
@[irreducible] def v2 := pt.1.1.1.1.1
@[irreducible] def v4 := pt.1.1.1.1.2
@[irreducible] def v5 := pt.1.1.1.2
@[irreducible] def v6 := pt.1.1.2.1.1
@[irreducible] def i := pt.1.1.2.1.2
@[irreducible] def ys := pt.1.1.2.2
@[irreducible] def I := pt.1.2.1.1.1
@[irreducible] def oI := pt.1.2.1.1.2
@[irreducible] def C := pt.1.2.1.2
@[irreducible] def oC := pt.1.2.2.1
@[irreducible] def D := pt.1.2.2.2
@[irreducible] def m₂ := pt.2.1.1.1.1
@[irreducible] def h := pt.2.1.1.1.2
@[irreducible] def tk := pt.2.1.1.2
@[irreducible] def tp := pt.2.1.2.1
@[irreducible] def t := pt.2.1.2.2
@[irreducible] def v9 := pt.2.2.1.1.1
@[irreducible] def v10 := pt.2.2.1.1.2
@[irreducible] def v11 := pt.2.2.1.2
@[irreducible] def v12 := pt.2.2.2.1
@[irreducible] def v13 := pt.2.2.2.2
noncomputable def sg10 : (P0 : Nat -> (List Value) -> Addr -> Obj -> Addr -> Obj -> Addr -> Obj -> Addr -> (Str -> Option Value) -> Heap -> Nat -> (Value -> Shared -> Prop) -> (List (Addr × Obj)) -> Tok -> Value -> Value -> Prop) ×' ((∀ x0 x1 x2 x3 x4 x5 x6 x7 x8 x9 x10 x11 x12 x13 x14 x15 x16, P0 x0 x1 x2 x3 x4 x5 x6 x7 x8 x9 x10 x11 x12 x13 x14 x15 x16) -> sg3.2.1 v2 v4 v5 v6 i ys I oI C oC D m₂ h tk tp t v9 v10 v11 v12 v13) := by
 apply PSigma.mk
 case snd =>
   intro hP0
   unfold sg3
   dsimp only
   intro B F X T hk hta hties ho K hlen hT hun ret B' X' T' dc1 F3 N9 dc hRC hgR hok hfr htl hall hla' hn3 hlr hv3 hv1000 hR F6 N6 hKs hi htp hsub hpr hC hx off7 nd hR2 F8 N8 e2
   refine ⟨_, 0, i, 1, _, _, _, i, _, _, (R, lst vs nr) :: (L' + 1, oc) :: tp, rfl, rfl, F8, N8, off7, hR2, ?_, size_upN _,
     fun j ys news => j ≤ i ∧ PrJ s.heap vs nr R (L' + 1) oc tl (ips i ++ ipr i j) ys news, ⟨Nat.zero_le _, tp, rfl, htp, hsub, by simpa [ipr] using hlen, fun h ht => by simpa [ipr] using hpr h ht⟩, ?_, ?_, ?_⟩
   . have ei : i = 0 ∨ i = 1 ∨ i = 2 := by omega
     rcases ei with e | e | e <;> rw [e] <;> decide
   . rintro ys' news'' ⟨-, h⟩
     rw [ips_succ]; exact h
   . rintro j ys' news'' ⟨hj, tp', rfl, -, -, hlen', -⟩
     rw [hlen', List.length_append]
     have q1 := ips_len (n := i) (by omega)
     have q2 : (ipr i j).length = j := by simp [ipr]
     omega
   . rintro j ys' news'' I2 oI2 I oI C oC D m₃ h tk E'' hj ⟨hj', tp', rfl, htp', hsub', hlen', hpr'⟩ hC' hx' ⟨t2, hy'⟩ F3 N3 off3 nd3
     simp only [List.nodup_cons, List.mem_cons, List.not_mem_nil, or_false, not_or, List.nodup_nil, and_true, not_false_eq_true] at nd3
     simp only [List.cons_append, List.nil_append] at N3
     have g1 : vs[((0 : Int) + (i : Nat) * 1).toNat]? = some (vs[i]'hi) := by rw [e2]; exact List.getElem?_eq_getElem hi
     have hj3 : j < vs.length := Nat.lt_trans hj hi
     have g2 : vs[((0 : Int) + (j : Nat) * 1).toNat]? = some (vs[j]'hj3) := by rw [show ((0 : Int) + (j : Nat) * 1) = ((j : Nat) : Int) by omega]; exact List.getElem?_eq_getElem hj3
     generalize vs[i]'hi = va at g1
     generalize vs[j]'hj3 = vb at g2
     revert g2; revert g1; revert hj3; revert nd3; revert off3; revert N3; revert F3; revert hy'; revert hx'; revert hC'; revert hpr'; revert hlen'; revert hsub'; revert htp'; revert hj'; revert hj; revert e2; revert N8; revert F8; revert hR2; revert nd; revert off7; revert hx; revert hC; revert hpr; revert hsub; revert htp; revert hi; revert hKs; revert N6; revert F6; revert hR; revert hv1000; revert hv3; revert hlr; revert hn3; revert hla'; revert hall; revert htl; revert hfr; revert hok; revert hgR; revert hRC; revert dc; revert N9; revert dc1; revert T'; revert X'; revert B'; revert ret; revert hun; revert hT; revert hlen; revert K; revert ho; revert hties; revert hta; revert hk; revert T; revert X; revert F; revert B
     exact hP0 j ys' I2 oI2 I oI C oC D m₃ h tk E'' tp' t2 va vb
namespace K10_0
abbrev TT : Type := ((((Nat × (List Value)) × Addr) × (Obj × Addr)) × ((Obj × Addr) × (Obj × Addr))) × ((((Str -> Option Value) × Heap) × (Nat × (Value -> Shared -> Prop))) × (((List (Addr × Obj)) × Tok) × (Value × Value)))
def PP (p : TT) : Prop := sg10.1 p.1.1.1.1.1 p.1.1.1.1.2 p.1.1.1.2 p.1.1.2.1 p.1.1.2.2 p.1.2.1.1 p.1.2.1.2 p.1.2.2.1 p.1.2.2.2 p.2.1.1.1 p.2.1.1.2 p.2.1.2.1 p.2.1.2.2 p.2.2.1.1 p.2.2.1.2 p.2.2.2.1 p.2.2.2.2
def pt := ep ⟨default⟩ PP
@[irreducible] def j := pt.1.1.1.1.1
@[irreducible] def ys' := pt.1.1.1.1.2
@[irreducible] def I2 := pt.1.1.1.2
@[irreducible] def oI2 := pt.1.1.2.1
@[irreducible] def I := pt.1.1.2.2
@[irreducible] def oI := pt.1.2.1.1
@[irreducible] def C := pt.1.2.1.2
@[irreducible] def oC := pt.1.2.2.1
@[irreducible] def D := pt.1.2.2.2
@[irreducible] def m₃ := pt.2.1.1.1
@[irreducible] def h := pt.2.1.1.2
@[irreducible] def tk := pt.2.1.2.1
@[irreducible] def E'' := pt.2.1.2.2
@[irreducible] def tp' := pt.2.2.1.1
@[irreducible] def t2 := pt.2.2.1.2
@[irreducible] def va := pt.2.2.2.1
@[irreducible] def vb := pt.2.2.2.2
theorem sg11 : sg10.1 j ys' I2 oI2 I oI C oC D m₃ h tk E'' tp' t2 va vb := by
 unfold sg10
 dsimp only
 intro B F X T hk hta hties ho K hlen hT hun ret B' X' T' dc1 N9 dc hRC hgR hok hfr htl hall hla' hn3 hlr hv3 hv1000 hR F6 N6 hKs hi htp hsub hpr hC hx off7 nd hR2 F8 N8 e2 hj hj' htp' hsub' hlen' hpr' hC' hx' hy' F3 N3 off3 nd3 hj3 g1 g2
 k_steps
 rename Fr s.heap L' _ _ => F4
 rename AllLt _ ((I2, _) :: _) => l1; simp only [AllLt, and_true] at l1
 rename News s.heap L' _ ((_, _) :: (I2, oI2) :: _) => N4
 obtain ⟨P4, eP⟩ := nmN N4; subst eP
 refine ⟨_, _, (R, lst vs nr) :: (L' + 1, oc) :: (P4, _) :: tp', rfl, F4, fun p hp => N4 p (perm_in2 hp), off_in2 off3 l1.1 l1.2.1 l1.2.2.1 l1.2.2.2.1, by omega, _, rfl, fun p hp => ?_, fun h ht => hsub' h fun q hq => ht q (.tail _ hq), by simp [hlen', ipr, Nat.add_assoc], fun h ht => ?_⟩
 . rcases List.mem_cons.mp hp with rfl | hp
   . exact Nat.ne_of_gt l1.2.2.2.2.1
   . exact htp' p hp
 . rw [ipr_succ, ← List.append_assoc]
   refine (hpr' h fun q hq => ht q (.tail _ hq)).push ⟨P4, 0, va, vb, rfl, (N4 _ (.head _)).2.2, ht _ (.head _), ?_, ?_⟩
   . rw [← g1, e2]; rfl
   . rw [← g2, show ((0 : Int) + (j : Nat) * 1) = ((j : Nat) : Int) by omega]; rfl
theorem fin : ∀ x, PP x := drink ⟨default⟩ PP (by with_unfolding_all exact sg11)
end K10_0
theorem fin : ∀ x, PP x := drink ⟨default⟩ PP (by with_unfolding_all exact sg10.2 (by intros; exact K10_0.fin (((((_, _), _), (_, _)), ((_, _), (_, _))), (((_, _), (_, _)), ((_, _), (_, _))))))
end K3_1
theorem fin : ∀ x, PP x := drink ⟨default⟩ PP (by with_unfolding_all exact sg3.2.2 (by intros; exact K3_0.fin (((((_, _), (_, _)), ((_, _), (_, _))), (((_, _), (_, _)), ((_, _), (_, _)))), ((((_, _), (_, _)), ((_, _), (_, _))), (((_, _), (_, _)), ((_, _), _))))) (by intros; exact K3_1.fin (((((_, _), _), ((_, _), _)), (((_, _), _), (_, _))), ((((_, _), _), (_, _)), (((_, _), _), (_, _))))))
end K1_1
theorem fin : ∀ x, PP x := drink ⟨default⟩ PP (by with_unfolding_all exact sg1.2.2 (by intros; exact K1_0.fin ((((_, _), (_, _)), ((_, _), (_, _))), (((_, _), (_, _)), ((_, _), (_, _))))) (by intros; exact K1_1.fin (((_, _), (_, _)), ((_, _), _))))
end K0_0
theorem main : Srules_spec w loose mean mg mb un gd cn cs a ccd cl outer A₀ base h₀ L m s Q E ta ao vt nt ties i0 d0 i1 d1 := sg0.2 (by intros; exact K0_0.fin (((_, _), _), (_, _)))
end Crules_spec
theorem rules_spec : ∀ w loose mean mg mb un gd cn cs a ccd cl outer A₀ base h₀ L m s Q E (B : Below A₀ base outer h₀) (F : Fr h₀ L s.heap m) (X : (Mine.KR w.params).In h₀) (T : Top topProg loose mean mg mb h₀) (hk : cs.kind = .function) ta ao vt nt ties i0 d0 i1 d1, Qrules_spec w un gd cn cs a ccd cl outer h₀ L m s Q E ta ao vt nt ties i0 d0 i1 d1 :=
 fun w loose mean mg mb un gd cn cs a ccd cl outer A₀ base h₀ L m s Q E B F X T hk ta ao vt nt ties i0 d0 i1 d1 => drink nrules_spec Prules_spec (by with_unfolding_all exact Crules_spec.main) (((((w, loose), (mean, mg)), ((mb, un), (gd, cn))), (((cs, a), (ccd, cl)), ((outer, A₀), base))), ((((h₀, L), (m, s)), ((Q, E), (ta, ao))), (((vt, nt), (ties, i0)), ((d0, i1), d1)))) B F X T hk
end
end Mine
end
noncomputable section
example : True := by w_top off; trivial
namespace Mine
noncomputable section
local macro_rules | `(tactic| omega) => `(tactic| walk_at "o")
local macro_rules | `(tactic| walk_at "assign Tuple") => `(tactic| (k_here; k_dflt (refine unpackL (by k_asm) (by k_asm) (by walk_at "l") (by exact rfl) (by exact rfl) (by exact rfl) ?_); intro h' F' N'; (try k_sweep)))
local macro_rules | `(tactic| walk_at "call builtin:len") => `(tactic| (k_dflt (refine len_lst (by walk_at "l") (by assumption) ?_)))
local macro_rules | `(tactic| walk_at "getMethod ref") => `(tactic| (k_dflt (refine getMethod_list_of PySem.F.slot_list_index PySem.F.type_list_index (by walk_at "l") (by exact nodict_of (by assumption) (by assumption)) ?_)))
local macro_rules | `(tactic| walk_at "subscriptTail Name Call") => `(tactic| (with_unfolding_all refine itC (by walk_at "m") (by assumption) (by omega) ?_))
local macro_rules | `(tactic| walk_at $k) => if ["call ref", "exec Assign cons ListComp", "exec For Tuple Name", "exec For Name List cons nil", "pyIter ref", "UnrPostW", "call builtin:list.index", "CompEnd", "CompSrc", "FinA"].contains k.getString then `(tactic| refine Halt.go ?_) else Lean.Macro.throwUnsupported
theorem relab_take {h t : Int} {ks : List Int} {i : Nat} (hi : i < ks.length) : relab h t (ks.take (i + 1)) = relab h t (ks.take i) ++ [if ks[i] = t then h else ks[i]] := by
 unfold relab
 rw [List.take_add_one, List.getElem?_eq_getElem hi]
 simp only [Option.toList_some, List.map_append, List.map_cons, List.map_nil]
theorem off3c {K C H I : Addr} {oK oC oH oI : Obj} (a : @Ne Nat K I) (b : @Ne Nat C I) (c : @Ne Nat H I) : ∀ p ∈ [(K, oK), (C, oC), (H, oH)], ∀ q ∈ [(I, oI)], p.1 ≠ q.1 := by
 intro p hp q hq
 rw [List.mem_singleton.mp hq]
 simp only [List.mem_cons, List.not_mem_nil, or_false] at hp
 rcases hp with rfl | rfl | rfl
 . exact a
 . exact b
 . exact c
theorem apart_gt {c a : Addr} {o : Obj} {l : List (Addr × Obj)} (h : @LT.lt Nat _ c a) (t : ApartOr c l) : ApartOr c ((a, o) :: l) := ⟨.inl (Nat.ne_of_gt h), t⟩
theorem apart_lt {c a : Addr} {o : Obj} {l : List (Addr × Obj)} (h : @LT.lt Nat _ a c) (t : ApartOr c l) : ApartOr c ((a, o) :: l) := ⟨.inl (Nat.ne_of_lt h), t⟩
theorem apart_ne {c a : Addr} {o : Obj} {l : List (Addr × Obj)} (h : @Ne Nat a c) (t : ApartOr c l) : ApartOr c ((a, o) :: l) := ⟨.inl h, t⟩
local macro_rules | `(tactic| cells_apart) => `(tactic| repeat (first | exact trivial | refine apart_gt (by assumption) ?_ | refine apart_ne (by assumption) ?_ | refine apart_gt (by omega) ?_ | refine apart_lt (by omega) ?_))
local macro_rules | `(tactic| walk_at "storeName") => `(tactic| (with_reducible refine haltCell (by with_unfolding_all rfl) ?_))
theorem news_cdr {h₀ h : Heap} {L : Addr} {a : Addr × Obj} {l : List (Addr × Obj)} (N : News h₀ L h (a :: l)) : News h₀ L h l := fun p hp => N p (.tail _ hp)
theorem more_at {g h : Heap} {c L m0 m1 m2 m3 : Addr} {t0 t1 t2 : Tok} {n : Nat} {v : Value} {all : List (Addr × Obj)} (hv : [Value.ref m0, .ref m1, .ref m2, .ref m3][n]? = some v) (N : News g L h all)
   (e0 : (m0, lst [] 0) ∈ all) (e1 : (m1, lst [.int 0 t0] 0) ∈ all) (e2 : (m2, lst [.int 1 t1] 0) ∈ all) (e3 : (m3, lst [.int 2 t2] 0) ∈ all) (l : @LT.lt Nat _ c m0 ∧ @LT.lt Nat _ c m1 ∧ @LT.lt Nat _ c m2 ∧ @LT.lt Nat _ c m3) :
   ∃ al us ys, v = .ref al ∧ @LT.lt Nat _ c al ∧ (h.get? al = some (lst us 0) ∧ al ≠ L ∧ g.get? al = none) ∧ IntsAre us ys ∧ mores[n]? = some ys := by
 match n, hv with
 | 0, hv => cases hv; exact ⟨m0, _, _, rfl, l.1, N _ e0, .nil, rfl⟩
 | 1, hv => cases hv; exact ⟨m1, _, _, rfl, l.2.1, N _ e1, .cons _ _ .nil, rfl⟩
 | 2, hv => cases hv; exact ⟨m2, _, _, rfl, l.2.2.1, N _ e2, .cons _ _ .nil, rfl⟩
 | 3, hv => cases hv; exact ⟨m3, _, _, rfl, l.2.2.2, N _ e3, .cons _ _ .nil, rfl⟩
 | n + 4, hv => simp at hv
theorem getD_at {ns : List Int} {i : Nat} (h : i < ns.length) : ns[i]? = some (ns.getD i 0) := by simp [List.getD, List.getElem?_eq_getElem h]
def KinJ (L' I : Addr) (names : List (Str × Value)) (pre : List (Addr × Obj)) (ks : List Int) (m₁ : Str -> Option Value) (news₁ : List (Addr × Obj)) : Prop :=
 ∃ (KA : Addr) (kvs : List Value) (kn : Nat) (oH oT : Obj) (x y : Option Value) (r : Str -> Option Value), (@Ne Nat KA (L' + 1) ∧ @Ne Nat KA (L' + 1 + 1) ∧ @Ne Nat KA I) ∧ IntsAre kvs ks ∧ oH.data = .cell x ∧ oT.data = .cell y ∧
   m₁ = over ((oS "kinds", .ref KA) :: names) r ∧ news₁ = pre ++ [(KA, lst kvs kn), (L' + 1 + 1, oT), (L' + 1, oH)]
theorem rangeKs0 (n : Nat) : rangeKs 0 ((n : Int) - 0).toNat = (List.range n).map fun i : Nat => (i : Int) := by
 simp [rangeKs]
theorem ktie_length {ws : List Wd} {ks : List Int} {t : Wd × Wd} : (ktie ws ks t).length = ks.length := by simp [ktie, mores, kstep_length]
theorem ktake_length {ws : List Wd} {ks : List Int} : ∀ {ts : List (Wd × Wd)}, (ts.foldl (ktie ws) ks).length = ks.length
 | [] => rfl
 | t :: ts => (ktake_length (ts := ts)).trans ktie_length
theorem kmore_length {ws : List Wd} {t : Wd × Wd} {ks : List Int} : ∀ {ms : List (List Int)}, (ms.foldl (kstep ws t) ks).length = ks.length
 | [] => rfl
 | _ :: ms => (kmore_length (ms := ms)).trans kstep_length
def Skinds_spec (w : World) (loose : List Str) (mean : ExcName -> Option Value) (mg : Str -> Option Value) (mb : Str -> Option Value) (dp : Nat) (un : Nat) (gd : Option (List Code)) (cn : Str) (cs : Scope) (a : Addr) (ccd : Value) (cl : List (Str × Addr)) (outer : List Env) (A₀ : Around) (base : Heap) (h₀ : Heap) (L : Addr) (m : Str -> Option Value) (s : Shared) (Q : Value -> Shared -> Prop) (E : Value -> Shared -> Prop) (ta : Addr) (wa : Addr) (vt : List Value) (nt : Nat) (nw : Nat) (ties : List (Wd × Wd)) (ws : List Wd) : Prop :=
 ∀ (B : Below A₀ base outer h₀),
 ∀ (F : Fr h₀ L s.heap m),
 ∀ (X : (Mine.KR w.params).In h₀),
 ∀ (T : Top topProg loose mean mg mb h₀),
 ∀ (hk : cs.kind = .function),
 ∀ (vs : List Value),
 ∀ (hta : s.heap.get? ta = some (lst vt nt)),
 ∀ (hties : AllAt TieAt s.heap vt ties),
 ∀ (hwa : s.heap.get? wa = some (lst vs nw)),
 ∀ (hws : AllAt WdAt s.heap vs ws),
 ∀ (hvs : vs.length ≤ 1000),
 ∀ (hmem : ∀ t ∈ ties, ∀ ys ∈ mores, wth t.1 ys ∈ ws ∧ wth t.2 ys ∈ ws),
 ∀ (hdp : dp < 490),
 ∀ (hun : un < 480),
 ∀ (ret : ∀ D h' tk' ks n, Fr h₀ L h' m -> Keeps s.heap h' -> s.heap.get? D = none -> h'.get? D = some (lst ks n) -> IntsAre ks (kindsP ws ties) -> Q (.ref D) { s with heap := h', toks := tk' }),
 wpAny (model PW w) (ktrTop dp un gd cn cs L a ccd cl outer) (call (.ref 330) [.ref ta, .ref wa]) Q E s
abbrev Tkinds_spec : Type := ((((World × (List Str)) × ((ExcName -> Option Value) × (Str -> Option Value))) × (((Str -> Option Value) × Nat) × (Nat × (Option (List Code))))) × (((Str × Scope) × (Addr × Value)) × (((List (Str × Addr)) × (List Env)) × Around))) × ((((Heap × Heap) × (Addr × (Str -> Option Value))) × ((Shared × (Value -> Shared -> Prop)) × (Value -> Shared -> Prop))) × (((Addr × Addr) × ((List Value) × Nat)) × ((Nat × (List (Wd × Wd))) × (List Wd))))
def Pkinds_spec (p : Tkinds_spec) : Prop := Skinds_spec p.1.1.1.1.1 p.1.1.1.1.2 p.1.1.1.2.1 p.1.1.1.2.2 p.1.1.2.1.1 p.1.1.2.1.2 p.1.1.2.2.1 p.1.1.2.2.2 p.1.2.1.1.1 p.1.2.1.1.2 p.1.2.1.2.1 p.1.2.1.2.2 p.1.2.2.1.1 p.1.2.2.1.2 p.1.2.2.2 p.2.1.1.1.1 p.2.1.1.1.2 p.2.1.1.2.1 p.2.1.1.2.2 p.2.1.2.1.1 p.2.1.2.1.2 p.2.1.2.2 p.2.2.1.1.1 p.2.2.1.1.2 p.2.2.1.2.1 p.2.2.1.2.2 p.2.2.2.1.1 p.2.2.2.1.2 p.2.2.2.2
theorem nkinds_spec : Nonempty Tkinds_spec := ⟨(((((Classical.choice neW, default), default), default), (default, (default, callerA))), ((default, (({}, default), default)), default))⟩
namespace Ckinds_spec
def pt := ep nkinds_spec Pkinds_spec
@[irreducible] def w := pt.1.1.1.1.1
@[irreducible] def loose := pt.1.1.1.1.2
@[irreducible] def mean := pt.1.1.1.2.1
@[irreducible] def mg := pt.1.1.1.2.2
@[irreducible] def mb := pt.1.1.2.1.1
@[irreducible] def dp := pt.1.1.2.1.2
@[irreducible] def un := pt.1.1.2.2.1
@[irreducible] def gd := pt.1.1.2.2.2
@[irreducible] def cn := pt.1.2.1.1.1
@[irreducible] def cs := pt.1.2.1.1.2
@[irreducible] def a := pt.1.2.1.2.1
@[irreducible] def ccd := pt.1.2.1.2.2
@[irreducible] def cl := pt.1.2.2.1.1
@[irreducible] def outer := pt.1.2.2.1.2
@[irreducible] def A₀ := pt.1.2.2.2
@[irreducible] def base := pt.2.1.1.1.1
@[irreducible] def h₀ := pt.2.1.1.1.2
@[irreducible] def L := pt.2.1.1.2.1
@[irreducible] def m := pt.2.1.1.2.2
@[irreducible] def s := pt.2.1.2.1.1
@[irreducible] def Q := pt.2.1.2.1.2
@[irreducible] def E := pt.2.1.2.2
@[irreducible] def ta := pt.2.2.1.1.1
@[irreducible] def wa := pt.2.2.1.1.2
@[irreducible] def vt := pt.2.2.1.2.1
@[irreducible] def nt := pt.2.2.1.2.2
@[irreducible] def nw := pt.2.2.2.1.1
@[irreducible] def ties := pt.2.2.2.1.2
@[irreducible] def ws := pt.2.2.2.2
@[irreducible] def L' : Addr := s.heap.objs.size
theorem hLc : s.heap.objs.size = L' := by delta L'; rfl
noncomputable def sg0 : (P0 : (List Value) -> Heap -> Nat -> Addr -> Nat -> Heap -> Nat -> Addr -> (List Value) -> Nat -> Obj -> Obj -> (Option Value) -> (Option Value) -> (Str -> Option Value) -> Obj -> Rl -> Addr -> Nat -> Addr -> Addr -> (List Int) -> Prop) ×' ((∀ x0 x1 x2 x3 x4 x5 x6 x7 x8 x9 x10 x11 x12 x13 x14 x15 x16 x17 x18 x19 x20 x21, P0 x0 x1 x2 x3 x4 x5 x6 x7 x8 x9 x10 x11 x12 x13 x14 x15 x16 x17 x18 x19 x20 x21) -> Skinds_spec w loose mean mg mb dp un gd cn cs a ccd cl outer A₀ base h₀ L m s Q E ta wa vt nt nw ties ws) := by
 apply PSigma.mk
 case snd =>
   intro hP0
   unfold Skinds_spec
   intro B F X T hk vs hta hties hwa hws hvs hmem hdp hun ret
   refine wpAny_call ?_
   k_dflt (refine' enter_cellsC (L' := L') (hL := ?hL) ?k1 ?k2 ?k3 ?k5 ?kA ?kF ?kK ?k6 ?k7 ?k8 ?k9 ?kB ?kD ?_ ?c2 ?c3 ?c4; (case kA | kF => exact rfl); (case kK => assumption); (case k1 | k2 => k_asm); (case hL => exact hLc); (case k3 | k5 => k_asm); (case k6 | k7 => k_is); (case k8 => ktr_room); (case k9 => exact BindsTo.of_eq rfl); (case kB => exact rfl); (case kD => decide +kernel); (case c2 | c3 | c4 => exact rfl); intro h' tk' cells' F' N' Y' B' X' T'; k_cells Y'; (try dsimp only); (try k_fold))
   rename Fr s.heap L' _ _ => F1
   rename News s.heap L' _ _ => N1
   rename_i o1 o2 d1 d2
   replace d1 : o1.data = .cell none := by with_unfolding_all exact d1
   replace d2 : o2.data = .cell none := by with_unfolding_all exact d2
   replace F1 : Fr s.heap L' h' (fun y => if y = oS "words" then some (.ref wa) else if y = oS "ties" then some (.ref ta) else none) := by with_unfolding_all exact F1
   k_steps
   rename Fr s.heap L' _ _ => F9
   rename News s.heap L' _ _ => N9
   rename IntsAre _ (rangeKs 0 _) => hI0
   rename AllLt _ ((L' + 1 + 1, _) :: _) => l9; simp only [AllLt, and_true] at l9
   rw [rangeKs0] at hI0
   have hln := hws.1
   have F3 := fr_over [(oS "kinds", _), (oS "words", .ref wa), (oS "ties", .ref ta)] F9 (by with_unfolding_all exact ⟨rfl, rfl, rfl, trivial⟩)
   clear F9
   rename IsRange _ _ _ _ _ _ _ _ => hRg
   clear hRg
   with_unfolding_all refine For_turns F3 ?_
   k_steps
   refine Halt.mk ?_
   with_unfolding_all refine turns_base (by rfl) F3 N9 (isl0 hta) fun I hI => items_J (J := fun n => KinJ L' I [(oS "words", .ref wa), (oS "ties", .ref ta)] [] ((ties.take n).foldl (ktie ws) ((List.range ws.length).map fun i : Nat => (i : Int)))) ?turn ?fin _ 0 _ _ (Nat.zero_add _) ⟨_, _, _, o2, o1, none, none, _, ⟨Nat.ne_of_gt l9.2, Nat.ne_of_gt l9.1, Nat.ne_of_lt (hI _ (.head _))⟩, hln ▸ hI0, d2, d1, rfl, rfl⟩
   case turn =>
     have hIC : @LT.lt Nat _ (L' + 1 + 1) I := hI _ (.tail _ (.head _))
     clear hI0 d1 d2 l9 N9 F3 hI
     rintro n x v m₁ news₁ h tk hget hv ⟨KA, kvs, kn, oH, oT, xc, yc, r, lK, hks, dH, dT, rfl, rfl⟩ F5
     intro oI hcI N5
     have hv' := vals_get hget hv
     simp only [List.cons_append, List.nil_append] at N5
     replace F5 : Fr s.heap L' h _ := F5
     replace N5 : News s.heap L' h _ := N5
     have hnlt : n < vt.length := by
       rcases Nat.lt_or_ge n vt.length with q | q
       . exact q
       . rw [List.getElem?_eq_none q] at hv'; cases hv'
     obtain ⟨v2, t, e1, e2, htie⟩ := hties.get hnlt
     rw [hv'] at e1; cases e1
     obtain ⟨p, va, vb, n2, rfl, hp, ⟨a1, rfl, hw1⟩, ⟨a2, rfl, hw2⟩⟩ := htie
     have hm := hmem t (List.mem_of_getElem? e2)
     obtain ⟨ks0, hks0⟩ : ∃ k, (ties.take n).foldl (ktie ws) ((List.range ws.length).map fun i : Nat => (i : Int)) = k := ⟨_, rfl⟩
     rw [hks0] at hks
     have hkl : ks0.length = ws.length := by rw [← hks0, ktake_length]; simp
     have hks1 : (ties.take (n + 1)).foldl (ktie ws) ((List.range ws.length).map fun i : Nat => (i : Int)) = ktie ws ks0 t := hks0 ▸ fold_take _ _ _ e2
     clear hks0 e2 hget hv hv' hnlt
     revert hks1; revert hkl; revert hks; revert hm; revert hp; revert hw2; revert hw1; revert N5; revert F5; revert hcI; revert dT; revert dH; revert lK; revert hIC; revert hln; revert T'; revert X'; revert B'; revert ret; revert hun; revert hdp; revert hmem; revert hvs; revert hws; revert hwa; revert hties; revert hta; revert hk; revert T; revert X; revert F; revert B
     rename_i _ _ _ _ _ _ _ _ _ _ _ v11 v12
     exact hP0 vs v11 v12 I n h tk KA kvs kn oH oT xc yc r oI t p n2 a1 a2 ks0
   case fin =>
     rintro m₁ news₁ h tk ⟨KA, kvs, kn, oH, oT, xc, yc, r, lK, hks, dH, dT, rfl, rfl⟩ F5 N5
     clear hI0 d1 d2 l9 N9 F3 hI
     replace F5 : Fr s.heap L' h _ := F5
     replace N5 : News s.heap L' h _ := N5
     rw [List.length_map, hties.1, List.take_length] at hks
     simp only [List.cons_append, List.nil_append] at N5
     k_steps
     rename Fr h₀ L _ m => kF9
     have e := N5 _ (.head _)
     exact ret KA _ _ kvs kn kF9 F5.keep e.2.2 e.1 hks
namespace K0_0
abbrev TT : Type := (((((List Value) × Heap) × Nat) × ((Addr × Nat) × Heap)) × (((Nat × Addr) × (List Value)) × (Nat × Obj))) × ((((Obj × (Option Value)) × (Option Value)) × (((Str -> Option Value) × Obj) × Rl)) × (((Addr × Nat) × Addr) × (Addr × (List Int))))
def PP (p : TT) : Prop := sg0.1 p.1.1.1.1.1 p.1.1.1.1.2 p.1.1.1.2 p.1.1.2.1.1 p.1.1.2.1.2 p.1.1.2.2 p.1.2.1.1.1 p.1.2.1.1.2 p.1.2.1.2 p.1.2.2.1 p.1.2.2.2 p.2.1.1.1.1 p.2.1.1.1.2 p.2.1.1.2 p.2.1.2.1.1 p.2.1.2.1.2 p.2.1.2.2 p.2.2.1.1.1 p.2.2.1.1.2 p.2.2.1.2 p.2.2.2.1 p.2.2.2.2
def pt := ep ⟨default⟩ PP
@[irreducible] def vs := pt.1.1.1.1.1
@[irreducible] def v11 := pt.1.1.1.1.2
@[irreducible] def v12 := pt.1.1.1.2
@[irreducible] def I := pt.1.1.2.1.1
@[irreducible] def n := pt.1.1.2.1.2
@[irreducible] def h := pt.1.1.2.2
@[irreducible] def tk := pt.1.2.1.1.1
@[irreducible] def KA := pt.1.2.1.1.2
@[irreducible] def kvs := pt.1.2.1.2
@[irreducible] def kn := pt.1.2.2.1
@[irreducible] def oH := pt.1.2.2.2
@[irreducible] def oT := pt.2.1.1.1.1
@[irreducible] def xc := pt.2.1.1.1.2
@[irreducible] def yc := pt.2.1.1.2
@[irreducible] def r := pt.2.1.2.1.1
@[irreducible] def oI := pt.2.1.2.1.2
@[irreducible] def t := pt.2.1.2.2
@[irreducible] def p := pt.2.2.1.1.1
@[irreducible] def n2 := pt.2.2.1.1.2
@[irreducible] def a1 := pt.2.2.1.2
@[irreducible] def a2 := pt.2.2.2.1
@[irreducible] def ks0 := pt.2.2.2.2
noncomputable def sg1 : (P0 : Nat -> Heap -> Addr -> Addr -> Addr -> Addr -> Addr -> Addr -> Nat -> Heap -> Nat -> Addr -> (List Value) -> Nat -> Obj -> Obj -> (Option Value) -> (Option Value) -> (Str -> Option Value) -> Obj -> Addr -> (List Value) -> (List Int) -> (List Int) -> Tok -> Tok -> Prop) ×' ((∀ x0 x1 x2 x3 x4 x5 x6 x7 x8 x9 x10 x11 x12 x13 x14 x15 x16 x17 x18 x19 x20 x21 x22 x23 x24 x25, P0 x0 x1 x2 x3 x4 x5 x6 x7 x8 x9 x10 x11 x12 x13 x14 x15 x16 x17 x18 x19 x20 x21 x22 x23 x24 x25) -> sg0.1 vs v11 v12 I n h tk KA kvs kn oH oT xc yc r oI t p n2 a1 a2 ks0) := by
 apply PSigma.mk
 case snd =>
   intro hP0
   unfold sg0
   dsimp only
   intro B F X T hk hta hties hwa hws hvs hmem hdp hun ret B' X' T' hln hIC lK dH dT hcI F5 N5 hw1 hw2 hp hm hks hkl hks1
   k_steps
   rename Fr s.heap L' _ _ => F6
   refine Halt.mk ?_
   have F7 := fr_over [(oS "kinds", .ref KA), (oS "one", .ref a1), (oS "two", .ref a2), (oS "words", .ref wa), (oS "ties", .ref ta)] F6 (by with_unfolding_all exact ⟨rfl, rfl, rfl, rfl, rfl, trivial⟩)
   clear F6
   with_unfolding_all refine For_turns F7 ?_
   k_steps
   rename Fr s.heap L' _ _ => F8
   rename News s.heap L' _ _ => N8
   refine Halt.mk ?_
   obtain ⟨M, eM⟩ := nmN N8; subst eM
   obtain ⟨m3, eM⟩ := nmN (news_cdr N8); subst eM
   obtain ⟨m2, eM⟩ := nmN (news_cdr (news_cdr N8)); subst eM
   obtain ⟨m1, eM⟩ := nmN (news_cdr (news_cdr (news_cdr N8))); subst eM
   obtain ⟨m0, eM⟩ := nmN (news_cdr (news_cdr (news_cdr (news_cdr N8)))); subst eM
   have lM : @LT.lt Nat _ (L' + 1 + 1) M ∧ @LT.lt Nat _ (L' + 1 + 1) m0 ∧ @LT.lt Nat _ (L' + 1 + 1) m1 ∧ @LT.lt Nat _ (L' + 1 + 1) m2 ∧ @LT.lt Nat _ (L' + 1 + 1) m3 := ⟨by omega, by omega, by omega, by omega, by omega⟩
   have lI : @LT.lt Nat _ I M ∧ @LT.lt Nat _ I m0 ∧ @LT.lt Nat _ I m1 ∧ @LT.lt Nat _ I m2 ∧ @LT.lt Nat _ I m3 := ⟨by omega, by omega, by omega, by omega, by omega⟩
   with_unfolding_all refine iter_listTurns (by rfl) F8 N8 (.head _) rfl rfl fun I2 hI2 => items_J (J := fun n m n' => SubL [(M, lst [.ref m0, .ref m1, .ref m2, .ref m3] 0)] n' ∧ KinJ L' I [(oS "one", .ref a1), (oS "two", .ref a2), (oS "words", .ref wa), (oS "ties", .ref ta)]
     [(M, lst [.ref m0, .ref m1, .ref m2, .ref m3] 0), (m3, lst [.int 2 (tk + 1 + 1)] 0), (m2, lst [.int 1 (tk + 1)] 0), (m1, lst [.int 0 tk] 0), (m0, lst [] 0), (I, oI)] ((mores.take n).foldl (kstep ws t) ks0) m n') ?turn2 ?fin2 _ 0 _ _ (Nat.zero_add _) ⟨⟨.head _, trivial⟩, _, _, _, oH, oT, xc, yc, _, lK, hks, dH, dT, rfl, rfl⟩
   case turn2 =>
     have hI2C : @LT.lt Nat _ (L' + 1 + 1) I2 := Nat.lt_trans lM.1 (hI2 _ (.head _))
     clear F8 N8
     rintro n x v m₁ news₁ h tk hget hv ⟨-, KA', kvs', kn', oH', oT', xc', yc', r', lK', hks', dH', dT', rfl, rfl⟩ F5
     intro oI2 hcI2 N5
     have hv' := vals_get (vs := [.ref m0, .ref m1, .ref m2, .ref m3]) hget hv
     simp only [List.cons_append, List.nil_append] at N5
     replace F5 : Fr s.heap L' h _ := F5
     replace N5 : News s.heap L' h _ := N5
     obtain ⟨al, us, ys, rfl, lal, hal, hus, hys⟩ := more_at hv' N5 (.tail _ (.tail _ (.tail _ (.tail _ (.tail _ (.head _)))))) (.tail _ (.tail _ (.tail _ (.tail _ (.head _))))) (.tail _ (.tail _ (.tail _ (.head _)))) (.tail _ (.tail _ (.head _))) lM.2
     have N6 := news_cons hal N5
     have lal1 : @LT.lt Nat _ (L' + 1) al := Nat.lt_of_succ_lt lal
     have hI1 : @LT.lt Nat _ (L' + 1) I := Nat.lt_of_succ_lt hIC
     have hI21 : @LT.lt Nat _ (L' + 1) I2 := Nat.lt_of_succ_lt hI2C
     obtain ⟨lK1, lK2, lK3⟩ := lK'
     have lcc : @LT.lt Nat _ (L' + 1) (L' + 1 + 1) := Nat.lt_succ_self _
     obtain ⟨hm1, hm2⟩ := hm ys (List.mem_of_getElem? hys)
     have hkl' : ((mores.take n).foldl (kstep ws t) ks0).length = ws.length := by rw [kmore_length, hkl]
     obtain ⟨ks, hks0⟩ : ∃ k, (mores.take n).foldl (kstep ws t) ks0 = k := ⟨_, rfl⟩
     have hks2 : (mores.take (n + 1)).foldl (kstep ws t) ks0 = kstep ws t ks ys := hks0 ▸ fold_take _ _ _ hys
     rw [hks0] at hks' hkl'
     obtain ⟨hx, ehx⟩ := hks'.get (ws.idxOf (wth t.1 ys)) _ (getD_at (by rw [hkl']; exact idx_lt hm1))
     obtain ⟨hy, ehy⟩ := hks'.get (ws.idxOf (wth t.2 ys)) _ (getD_at (by rw [hkl']; exact idx_lt hm2))
     clear N5 hget hv hv' hal
     have hl1 := idx_lt hm1
     have hl2 := idx_lt hm2
     have hl3 : ws.length ≤ 1000 := hws.1 ▸ hvs
     revert hl3; revert hl2; revert hl1; revert ehy; revert ehx; revert hks2; revert hks0; revert hks'; revert hkl'; revert hm2; revert hm1; revert lcc; revert lK3; revert lK2; revert lK1; revert hI21; revert hI1; revert lal1; revert N6; revert hys; revert hus; revert lal; revert F5; revert hcI2; revert dT'; revert dH'; revert hI2C; revert hI2; revert lI; revert lM; revert hks1; revert hkl; revert hks; revert hm; revert hp; revert hw2; revert hw1; revert hcI; revert dT; revert dH; revert lK; revert hIC; revert hln; revert T'; revert X'; revert B'; revert ret; revert hun; revert hdp; revert hmem; revert hvs; revert hws; revert hwa; revert hties; revert hta; revert hk; revert T; revert X; revert F; revert B
     rename_i _ _ _ v3 _ _ _ _ v8 _ _ _ _ _
     exact hP0 v3 v8 M m3 m2 m1 m0 I2 n h tk KA' kvs' kn' oH' oT' xc' yc' r' oI2 al us ys ks hx hy
   case fin2 =>
     rintro m₁ news₁ h tk ⟨-, KA', kvs', kn', oH', oT', xc', yc', r', lK', hks', dH', dT', rfl, rfl⟩ F5 N5
     replace F5 : Fr s.heap L' h _ := F5
     replace N5 : News s.heap L' h _ := N5
     simp only [List.cons_append, List.nil_append] at N5
     clear F8 N8
     try dsimp only
     k_steps
     rename Fr s.heap L' _ _ => F11
     rename News s.heap L' _ _ => N11
     refine Halt.mk ?_
     refine unr_end (news' := [(KA', lst kvs' kn'), (L' + 1 + 1, oT'), (L' + 1, oH')]) (fr_over [(oS "kinds", .ref KA'), (oS "words", .ref wa), (oS "ties", .ref ta)] F11 (by with_unfolding_all exact ⟨rfl, rfl, rfl, trivial⟩)) N11 (sub1 (by k_mem)) (fun p hp => by repeat (first | exact hp | apply List.Mem.tail)) ?off ⟨trivial, KA', kvs', kn', oH', oT', xc', yc', _, lK', hks1 ▸ hks', dH', dT', rfl, rfl⟩
     exact off3c lK'.2.2 (Nat.ne_of_lt hIC) (Nat.ne_of_lt (Nat.lt_of_succ_lt hIC))
namespace K1_0
abbrev TT : Type := ((((Nat × Heap) × (Addr × Addr)) × ((Addr × Addr) × Addr)) × (((Addr × Nat) × Heap) × ((Nat × Addr) × (List Value)))) × ((((Nat × Obj) × (Obj × (Option Value))) × (((Option Value) × (Str -> Option Value)) × Obj)) × (((Addr × (List Value)) × (List Int)) × (((List Int) × Tok) × Tok)))
def PP (p : TT) : Prop := sg1.1 p.1.1.1.1.1 p.1.1.1.1.2 p.1.1.1.2.1 p.1.1.1.2.2 p.1.1.2.1.1 p.1.1.2.1.2 p.1.1.2.2 p.1.2.1.1.1 p.1.2.1.1.2 p.1.2.1.2 p.1.2.2.1.1 p.1.2.2.1.2 p.1.2.2.2 p.2.1.1.1.1 p.2.1.1.1.2 p.2.1.1.2.1 p.2.1.1.2.2 p.2.1.2.1.1 p.2.1.2.1.2 p.2.1.2.2 p.2.2.1.1.1 p.2.2.1.1.2 p.2.2.1.2 p.2.2.2.1.1 p.2.2.2.1.2 p.2.2.2.2
def pt := ep ⟨default⟩ PP
@[irreducible] def v3 := pt.1.1.1.1.1
@[irreducible] def v8 := pt.1.1.1.1.2
@[irreducible] def M := pt.1.1.1.2.1
@[irreducible] def m3 := pt.1.1.1.2.2
@[irreducible] def m2 := pt.1.1.2.1.1
@[irreducible] def m1 := pt.1.1.2.1.2
@[irreducible] def m0 := pt.1.1.2.2
@[irreducible] def I2 := pt.1.2.1.1.1
@[irreducible] def n := pt.1.2.1.1.2
@[irreducible] def h := pt.1.2.1.2
@[irreducible] def tk := pt.1.2.2.1.1
@[irreducible] def KA' := pt.1.2.2.1.2
@[irreducible] def kvs' := pt.1.2.2.2
@[irreducible] def kn' := pt.2.1.1.1.1
@[irreducible] def oH' := pt.2.1.1.1.2
@[irreducible] def oT' := pt.2.1.1.2.1
@[irreducible] def xc' := pt.2.1.1.2.2
@[irreducible] def yc' := pt.2.1.2.1.1
@[irreducible] def r' := pt.2.1.2.1.2
@[irreducible] def oI2 := pt.2.1.2.2
@[irreducible] def al := pt.2.2.1.1.1
@[irreducible] def us := pt.2.2.1.1.2
@[irreducible] def ys := pt.2.2.1.2
@[irreducible] def ks := pt.2.2.2.1.1
@[irreducible] def hx := pt.2.2.2.1.2
@[irreducible] def hy := pt.2.2.2.2
theorem sg2 : sg1.1 v3 v8 M m3 m2 m1 m0 I2 n h tk KA' kvs' kn' oH' oT' xc' yc' r' oI2 al us ys ks hx hy := by
 unfold sg1
 dsimp only
 intro B F X T hk hta hties hwa hws hvs hmem hdp hun ret B' X' T' hln hIC lK dH dT hcI hw1 hw2 hp hm hks hkl hks1 lM lI hI2 hI2C dH' dT' hcI2 F5 lal hus hys N6 lal1 hI1 hI21 lK1 lK2 lK3 lcc hm1 hm2 hkl' hks' hks0 hks2 ehx ehy hl1 hl2 hl3
 k_steps
 rename Fr s.heap L' _ _ => F9
 rename News s.heap L' _ _ => N9
 obtain ⟨us1, z1, -, gl1, gi1⟩ := (hw1.ks (KS.of F9.keep)).out
 refine with_spec w loose mean mg mb _ _ _ _ _ _ _ _ _ _ _ _ _ _ _ _ _ B' F9 X' T' rfl a1 al t.1.1 t.1.2.1 t.1.2.2 us1 us ys gl1 gi1 0 (N9 (al, _) (.head _)).1 ⟨_, (N9 (al, _) (.head _)).1, rfl, 0, rfl⟩ hus (by show dp + 1 < 500; omega) (by show un + 3 < 500; omega) ?_
 intro D1 h8 tk8 G2 K2 hD1 hW1
 have NN := News.keep N9 K2
 clear N9 F9 K2 gl1 gi1
 k_steps
 rename Fr s.heap L' _ _ => F9
 refine index_words (u := wth t.1 ys) (isl_of F9 hwa) (hws.keep fun v x q => q.ks (KS.of F9.keep)) ⟨D1, rfl, hW1⟩ hm1 hvs (by show un + 3 + 64 < 9900; omega) ?_
 clear hW1 hD1
 try dsimp only
 k_steps
 refine Halt.mk ?_
 rename Fr _ _ _ _ => F'
 rename News _ _ _ _ => N'
 with_unfolding_all refine stCNk (own := [_, _, _, _, _, _, _, _, _, _]) (rest := []) F' N' rfl (by assumption) (by cells_apart) (by cells_apart) ?_
 intro _ _ _ _ _
 try dsimp only
 k_steps
 rename Fr s.heap L' _ _ => F9
 rename News s.heap L' _ _ => N9
 try simp only [List.cons_append, List.nil_append] at N9
 rename Obj.data _ = Data.cell (some (Value.int (List.getD ks (List.idxOf (wth t.1 ys) ws) 0) _)) => dH4
 rename Obj => oH4
 have eal : _ ∧ _ := N9 (al, lst us 0) (by k_mem)
 dsimp only at eal
 obtain ⟨us2, z2, -, gl2, gi2⟩ := (hw2.ks (KS.of F9.keep)).out
 refine with_spec w loose mean mg mb _ _ _ _ _ _ _ _ _ _ _ _ _ _ _ _ _ B' F9 X' T' rfl a2 al t.2.1 t.2.2.1 t.2.2.2 us2 us ys gl2 gi2 0 eal.1 (isl0 eal.1) hus (by show dp + 1 < 500; omega) (by show un + 3 < 500; omega) ?_
 intro D2 h9 tk9 G2 K2 hD2 hW2
 have NN := News.keep N9 K2
 clear N9 F9 K2 gl2 gi2
 k_steps
 rename Fr s.heap L' _ _ => F9
 refine index_words (u := wth t.2 ys) (isl_of F9 hwa) (hws.keep fun v x q => q.ks (KS.of F9.keep)) ⟨D2, rfl, hW2⟩ hm2 hvs (by show un + 3 + 64 < 9900; omega) ?_
 clear hW2 hD2
 try dsimp only
 k_steps
 refine Halt.mk ?_
 rename Fr _ _ _ _ => F'
 rename News _ _ _ _ => N'
 with_unfolding_all refine stCNk (own := [_, _, _, _, _, _, _, _, _]) (rest := [_]) F' N' rfl (by assumption) (by cells_apart) (by cells_apart) ?_
 intro _ oT4 F4 N4 dT4
 try dsimp only
 k_steps
 simp only [List.cons_append, List.nil_append] at N4
 k_dflt (refine LCg.Assign_ListComp_U (F₀ := by k_asm) (by rfl) (by with_unfolding_all rfl) (by with_unfolding_all rfl) (by decide) (by rfl) (by decide) (by rfl) (by rfl) (by rfl) ?_)
 k_dflt lcg_toSrc
 rename Fr s.heap L' _ _ => F3
 rename News s.heap L' _ _ => N3
 have hkv : kvs'.length = ks.length := hks'.length
 refine LCg.CompSrc.ledger (its := kvs'.toArray) (k := kn') (by rfl) F3 N3 (.tail _ (.tail _ (.tail _ (.tail _ (.tail _ (.tail _ (.tail _ (.tail _ (.head _))))))))) (by simp only [List.size_toArray]; exact Nat.le_trans (show kvs'.length ≤ 1000 by omega) (by decide)) fun g => compRest_J (J := fun i ys' news => IntsAre ys' (relab (ks.getD (ws.idxOf (wth t.1 ys)) 0) (ks.getD (ws.idxOf (wth t.2 ys)) 0) (ks.take i)) ∧ news = _) ?_ ?_ kvs'.toArray.size 0 [] _ (Nat.zero_add _) ⟨.nil, rfl⟩
 . rintro i v ys' news I3 oI3 C oC D m₂ h tk E' hi hP ⟨hys', rfl⟩ hC hx F4 N4 off ne
   have hi' : i < ks.length := by simpa [hkv] using hi
   obtain ⟨kt, ekt⟩ := hks'.get i _ (List.getElem?_eq_getElem hi')
   have hv : v = .int ks[i] kt := by
     have hP' : kvs'[i]? = some v := by simpa using hP
     rw [ekt] at hP'
     exact (Option.some.inj hP').symm
   subst hv
   k_steps
   all_goals
     refine LCg.CompEnd.intro F4 N4 _ (fun _ hp => hp) off (by lcg_src) ⟨?_, rfl⟩
     rw [relab_take hi']
   . rw [if_pos (by assumption)]; exact hys'.append (.cons _ _ .nil)
   . rw [if_neg (by assumption)]; exact hys'.append (.cons _ _ .nil)
 . rintro ys' news ⟨hys', rfl⟩
   rw [show kvs'.toArray.size = ks.length by simpa using hkv, List.take_length] at hys'
   unfold LCg.FinA
   clear F3 N3
   intro KB h5 tk5 F5 N5 o5
   k_steps
   rename Fr s.heap L' _ _ => F11
   rename News s.heap L' _ _ => N11
   refine Halt.mk ?_
   simp only [LCg.Off1, and_true] at o5
   refine unr_end (news' := [(M, lst [.ref m0, .ref m1, .ref m2, .ref m3] 0), (m3, _), (m2, _), (m1, _), (m0, _), (I, oI), (KB, LCg.lst ys'), (L' + 1 + 1, oT4), (L' + 1, oH4)]) (fr_over [(oS "kinds", .ref KB), (oS "one", .ref a1), (oS "two", .ref a2), (oS "words", .ref wa), (oS "ties", .ref ta)] F11 (by with_unfolding_all exact ⟨rfl, rfl, rfl, rfl, rfl, trivial⟩)) N11 (sub1 (by k_mem)) ?sub ?off
     ⟨⟨.head _, trivial⟩, ⟨.head _, trivial⟩, KB, ys', _, oH4, oT4, _, _, _, ⟨Ne.symm o5.2.2.2.2.2.2.2.2.2.2, Ne.symm o5.2.2.2.2.2.2.2.2.2.1, Ne.symm o5.2.2.2.2.2.2.2.1⟩, ?_, dH4, dT4, rfl, rfl⟩
   case sub => exact allIn_cons (by k_mem) (allIn_cons (by k_mem) (allIn_cons (by k_mem) (allIn_cons (by k_mem) (allIn_cons (by k_mem) (allIn_cons (by k_mem) (allIn_cons (by k_mem) (allIn_cons (by k_mem) (allIn_cons (by k_mem) allIn_nil))))))))
   case off => exact offCons (Nat.ne_of_lt (hI2 _ (.head _))) (offCons (Nat.ne_of_lt (hI2 _ (.tail _ (.head _)))) (offCons (Nat.ne_of_lt (hI2 _ (.tail _ (.tail _ (.head _))))) (offCons (Nat.ne_of_lt (hI2 _ (.tail _ (.tail _ (.tail _ (.head _)))))) (offCons (Nat.ne_of_lt (hI2 _ (.tail _ (.tail _ (.tail _ (.tail _ (.head _))))))) (offCons (Nat.ne_of_lt (hI2 _ (.tail _ (.tail _ (.tail _ (.tail _ (.tail _ (.head _)))))))) (offCons (Ne.symm o5.2.1) (offCons (Nat.ne_of_lt hI2C) (offCons (Nat.ne_of_lt hI21) offNil))))))))
   rw [hks2]
   exact hys'
theorem fin : ∀ x, PP x := drink ⟨default⟩ PP (by with_unfolding_all exact sg2)
end K1_0
theorem fin : ∀ x, PP x := drink ⟨default⟩ PP (by with_unfolding_all exact sg1.2 (by intros; exact K1_0.fin (((((_, _), (_, _)), ((_, _), _)), (((_, _), _), ((_, _), _))), ((((_, _), (_, _)), ((_, _), _)), (((_, _), _), ((_, _), _))))))
end K0_0
theorem main : Skinds_spec w loose mean mg mb dp un gd cn cs a ccd cl outer A₀ base h₀ L m s Q E ta wa vt nt nw ties ws := sg0.2 (by intros; exact K0_0.fin (((((_, _), _), ((_, _), _)), (((_, _), _), (_, _))), ((((_, _), _), ((_, _), _)), (((_, _), _), (_, _)))))
end Ckinds_spec
theorem kinds_spec (w : World) (loose : List Str) (mean : ExcName -> Option Value) (mg mb : Str -> Option Value) (dp un : Nat) (gd : Option (List Code)) (cn : Str) (cs : Scope) (a : Addr) (ccd : Value) (cl : List (Str × Addr)) (outer : List Env) (A₀ : Around) (base h₀ : Heap) (L : Addr) (m : Str -> Option Value) (s : Shared) (Q E : Value -> Shared -> Prop) (B : Below A₀ base outer h₀) (F : Fr h₀ L s.heap m) (X : (Mine.KR w.params).In h₀) (T : Top topProg loose mean mg mb h₀) (hk : cs.kind = .function) (ta wa : Addr) (vt vs : List Value) (nt nw : Nat) (ties : List (Wd × Wd)) (ws : List Wd) (hta : s.heap.get? ta = some (lst vt nt)) (hties : AllAt TieAt s.heap vt ties) (hwa : s.heap.get? wa = some (lst vs nw)) (hws : AllAt WdAt s.heap vs ws) (hvs : vs.length ≤ 1000) (hmem : ∀ t ∈ ties, ∀ ys ∈ mores, wth t.1 ys ∈ ws ∧ wth t.2 ys ∈ ws) (hdp : dp < 490) (hun : un < 480) (ret : ∀ D h' tk' ks n, Fr h₀ L h' m -> Keeps s.heap h' -> s.heap.get? D = none -> h'.get? D = some (lst ks n) -> IntsAre ks (kindsP ws ties) -> Q (.ref D) { s with heap := h', toks := tk' }) :
 wpAny (model PW w) (ktrTop dp un gd cn cs L a ccd cl outer) (call (.ref 330) [.ref ta, .ref wa]) Q E s :=
 drink nkinds_spec Pkinds_spec (by with_unfolding_all exact Ckinds_spec.main) (((((w, loose), (mean, mg)), ((mb, dp), (un, gd))), (((cn, cs), (a, ccd)), ((cl, outer), A₀))), ((((base, h₀), (L, m)), ((s, Q), E)), (((ta, wa), (vt, nt)), ((nw, ties), ws)))) B F X T hk vs hta hties hwa hws hvs hmem hdp hun ret
end
end Mine
end
noncomputable section
example : True := by w_top off; trivial
namespace Mine
noncomputable section
local macro_rules | `(tactic| omega) => `(tactic| walk_at "o")
local macro_rules | `(tactic| cells_apart) => `(tactic| repeat (first | exact trivial | refine apart_gt (by assumption) ?_ | refine apart_ne (by assumption) ?_ | refine apart_gt (by omega) ?_ | refine apart_lt (by omega) ?_))
local macro_rules | `(tactic| walk_at "storeName") => `(tactic| (with_reducible refine haltCell (by with_unfolding_all rfl) ?_))
local macro_rules | `(tactic| walk_at $k) => if ["call builtin:sorted", "exec For Name Call cons nil", "eval ListComp"].contains k.getString then `(tactic| refine Halt.go ?_) else Lean.Macro.throwUnsupported
theorem keeps_hide {g h : Heap} {L : Addr} {m : Str -> Option Value} {news : List (Addr × Obj)} (F : Fr g L h m) (N : News g L h news) : Keeps g (hideAll h (news.map (·.1))) := fun b o e =>
 hideAll_get _ (F.keep _ _ e) fun q => by
   obtain ⟨x, hx, rfl⟩ := List.mem_map.mp q
   rw [(N x hx).2.2] at e; cases e
theorem at_get {u : Wd} {t0 t1 t2 : Tok} {i : Int} (h : 0 ≤ i ∧ i < 3) : ∃ t, [Value.int u.1 t0, .int u.2.1 t1, .int u.2.2 t2][i.toNat]? = some (.int (Wd.at u i) t) := by
 have : i = 0 ∨ i = 1 ∨ i = 2 := by omega
 rcases this with rfl | rfl | rfl
 . exact ⟨t0, rfl⟩
 . exact ⟨t1, rfl⟩
 . exact ⟨t2, rfl⟩
theorem mul_ok {d b : Int} (h : d = 1 ∨ d = -1) : IntMulOk d b := IntMulOk.of_left (by rcases h with rfl | rfl <;> decide)
local macro_rules | `(tactic| walk_at "binaryOp Mult int int") => `(tactic| refine mul_int ?_ (mul_ok (by assumption)))
local macro_rules | `(tactic| walk_at "subscriptTail Name Name ref int") => `(tactic| (with_unfolding_all refine itN (by walk_at "l") (by assumption) (by omega) ?_))
local macro_rules | `(tactic| walk_at "CompEnd") => `(tactic| (refine LCg.CompEnd.intro (by assumption) (by assumption) _ (fun _ hp => hp) (by first | assumption | (simp only [LCg.Off3, and_true]; assumption)) (by lcg_src) ?_))
theorem perm3 {α : Type} {a b c x p : α} {l : List α} (h : p ∈ a :: b :: c :: l) : p ∈ c :: x :: a :: b :: l :=
 (List.sublist_cons_self x (a :: b :: l)).cons_cons c |>.subset ((List.perm_middle (l₁ := [a, b])).mem_iff.mp h)
theorem perm3N {g h : Heap} {L : Addr} {a b c x : Addr × Obj} {l : List (Addr × Obj)} (N : News g L h (c :: x :: a :: b :: l)) : News g L h (a :: b :: c :: l) := fun q hq => N q (perm3 hq)
local macro_rules | `(tactic| walk_at "getMethod ref") => `(tactic| (k_dflt (refine getMethod_list_of PySem.F.slot_list_index PySem.F.type_list_index (by walk_at "l") (by exact nodict_of (by assumption) (by assumption)) ?_)))
local macro_rules | `(tactic| walk_at "subscriptTail Name Call") => `(tactic| (with_unfolding_all refine itC (by walk_at "l") (by assumption) (by omega) ?_))
local macro_rules | `(tactic| walk_at "subscriptTail Name Name ref int") => `(tactic| (k_dflt (refine kda_item (by k_asm) (by k_mem) (by assumption) (intKind_is _ _ _ _) (by assumption) ?_)))
local macro_rules | `(tactic| walk_at $k) => if ["call builtin:list.index", "compareOp NotIn", "setItem ref int", "UnrPostW", "CompSrc"].contains k.getString then `(tactic| refine Halt.go ?_) else Lean.Macro.throwUnsupported
theorem off4c {K C H J I : Addr} {oK oC oH oJ oI : Obj} (a : @Ne Nat K I) (b : @Ne Nat C I) (c : @Ne Nat H I) (d : @Ne Nat J I) : ∀ p ∈ [(K, oK), (C, oC), (H, oH), (J, oJ)], ∀ q ∈ [(I, oI)], p.1 ≠ q.1 := by
 intro p hp q hq
 rw [List.mem_singleton.mp hq]
 simp only [List.mem_cons, List.not_mem_nil, or_false] at hp
 rcases hp with rfl | rfl | rfl | rfl
 . exact a
 . exact b
 . exact c
 . exact d
def TabJ (prog : Program) (w : World) (ka wa D tq cT : Addr) (oT : Obj) (vs : List Value) (ks : List Int) (ps : List Nat) (c : Nat) (zs : Array Value) (n : Nat) (m₁ : Str -> Option Value) (news₁ : List (Addr × Obj)) : Prop :=
 ∃ (oD : Obj) (kv : List (Int × Value)) (r : Str -> Option Value), m₁ = over [(oS "kinds", .ref ka), (oS "words", .ref wa)] r ∧
   news₁ = [(D, lst (ps.map fun i => vs.getD i .none) c), (tq, oD), (cT, oT), (332, tabObj zs)] ∧ oD.IsDictOf (intKind prog w) kv ∧ kv.length ≤ n ∧
   ∀ k, valueAt kv k = (fstK ks (ps.take n) k).map fun i => vs.getD i .none
theorem tab_ne {h : Heap} {P a : Addr} {ps : Array Value} {o : Obj} (e : h.get? P = some (tabObj ps)) (e' : h.get? a = some o) (s : IsSeq o) (q : a = P) : False := by
 rw [q, e] at e'
 cases e'
 obtain ⟨vs, n, h | h⟩ := s <;> cases h
section
variable (w : World) (loose : List Str) (mean : ExcName -> Option Value) (mg mb : Str -> Option Value) (dp un : Nat) (gd : Option (List Code)) (cn : Str) (cs : Scope) (a : Addr) (ccd : Value) (cl : List (Str × Addr)) (outer : List Env) (A₀ : Around) (base h₀ : Heap) (L : Addr) (m : Str -> Option Value) (s : Shared) (Q E : Value -> Shared -> Prop) (wa ka lk p0 p1 : Addr) (vs kvs : List Value) (nw nk nl n0 n1 : Nat) (ks : List Int) (i0 d0 i1 d1 : Int) (u0 u1 u2 u3 : Tok)
def Qleast_spec : Prop :=
 ∀ (N : News h₀ L s.heap [(332, tabObj #[]), (lk, lst [.ref p0, .ref p1] nl), (p0, tup [.int i0 u0, .int d0 u1] n0), (p1, tup [.int i1 u2, .int d1 u3] n1)]),
 ∀ (C : CodeHd h₀ 334 332),
 ∀ (hwa : (hideAll s.heap [332, lk, p0, p1]).get? wa = some (lst vs nw)),
 ∀ (hws : AllAt WdAt (hideAll s.heap [332, lk, p0, p1]) vs w16),
 ∀ (hka : (hideAll s.heap [332, lk, p0, p1]).get? ka = some (lst kvs nk)),
 ∀ (hks : IntsAre kvs ks),
 ∀ (hkl : ks.length = 16),
 ∀ (K : Keys i0 d0 i1 d1),
 ∀ (hdp : dp < 470),
 ∀ (hun : un < 470),
 ∀ (ret : ∀ D h' tk' ds n ps, okP (w16.map (kf i0 d0 i1 d1)) ps = true -> (∃ zs, h'.get? 332 = some (tabObj zs)) -> Fr h₀ L h' m -> Keeps (hideAll s.heap [332, lk, p0, p1]) h' -> (hideAll s.heap [332, lk, p0, p1]).get? D = none -> h'.get? D = some (lst ds n) -> AllAt WdAt h' ds (leastP ks ps.toList) -> Q (.ref D) { s with heap := h', toks := tk' }),
 wpAny (model PW w) (ktrTop dp un gd cn cs L a ccd cl outer) (call (.ref 335) [.ref wa, .ref ka, .ref lk]) Q E s
def Sleast_spec : Prop :=
 ∀ (B : Below A₀ base outer h₀),
 ∀ (F : Fr h₀ L s.heap m),
 ∀ (X : (Mine.KR w.params).In h₀),
 ∀ (T : Top topProg loose mean mg mb h₀),
 ∀ (hk : cs.kind = .function),
 Qleast_spec w dp un gd cn cs a ccd cl outer h₀ L m s Q E wa ka lk p0 p1 vs kvs nw nk nl n0 n1 ks i0 d0 i1 d1 u0 u1 u2 u3
end
abbrev Tleast_spec : Type := (((((World × (List Str)) × (ExcName -> Option Value)) × (((Str -> Option Value) × (Str -> Option Value)) × Nat)) × (((Nat × (Option (List Code))) × Str) × (Scope × Addr))) × ((((Value × (List (Str × Addr))) × (List Env)) × ((Around × Heap) × Heap)) × (((Addr × (Str -> Option Value)) × Shared) × ((Value -> Shared -> Prop) × (Value -> Shared -> Prop))))) × (((((Addr × Addr) × Addr) × ((Addr × Addr) × (List Value))) × ((((List Value) × Nat) × Nat) × (Nat × Nat))) × ((((Nat × (List Int)) × Int) × (Int × Int)) × (((Int × Tok) × Tok) × (Tok × Tok))))
def Pleast_spec (p : Tleast_spec) : Prop := Sleast_spec p.1.1.1.1.1.1 p.1.1.1.1.1.2 p.1.1.1.1.2 p.1.1.1.2.1.1 p.1.1.1.2.1.2 p.1.1.1.2.2 p.1.1.2.1.1.1 p.1.1.2.1.1.2 p.1.1.2.1.2 p.1.1.2.2.1 p.1.1.2.2.2 p.1.2.1.1.1.1 p.1.2.1.1.1.2 p.1.2.1.1.2 p.1.2.1.2.1.1 p.1.2.1.2.1.2 p.1.2.1.2.2 p.1.2.2.1.1.1 p.1.2.2.1.1.2 p.1.2.2.1.2 p.1.2.2.2.1 p.1.2.2.2.2 p.2.1.1.1.1.1 p.2.1.1.1.1.2 p.2.1.1.1.2 p.2.1.1.2.1.1 p.2.1.1.2.1.2 p.2.1.1.2.2 p.2.1.2.1.1.1 p.2.1.2.1.1.2 p.2.1.2.1.2 p.2.1.2.2.1 p.2.1.2.2.2 p.2.2.1.1.1.1 p.2.2.1.1.1.2 p.2.2.1.1.2 p.2.2.1.2.1 p.2.2.1.2.2 p.2.2.2.1.1.1 p.2.2.2.1.1.2 p.2.2.2.1.2 p.2.2.2.2.1 p.2.2.2.2.2
theorem nleast_spec : Nonempty Tleast_spec := ⟨((((((Classical.choice neW, default), default), default), default), ((default, ((callerA, default), default)), ((default, {}), default))), default)⟩
namespace Cleast_spec
def pt := ep nleast_spec Pleast_spec
@[irreducible] def w := pt.1.1.1.1.1.1
@[irreducible] def loose := pt.1.1.1.1.1.2
@[irreducible] def mean := pt.1.1.1.1.2
@[irreducible] def mg := pt.1.1.1.2.1.1
@[irreducible] def mb := pt.1.1.1.2.1.2
@[irreducible] def dp := pt.1.1.1.2.2
@[irreducible] def un := pt.1.1.2.1.1.1
@[irreducible] def gd := pt.1.1.2.1.1.2
@[irreducible] def cn := pt.1.1.2.1.2
@[irreducible] def cs := pt.1.1.2.2.1
@[irreducible] def a := pt.1.1.2.2.2
@[irreducible] def ccd := pt.1.2.1.1.1.1
@[irreducible] def cl := pt.1.2.1.1.1.2
@[irreducible] def outer := pt.1.2.1.1.2
@[irreducible] def A₀ := pt.1.2.1.2.1.1
@[irreducible] def base := pt.1.2.1.2.1.2
@[irreducible] def h₀ := pt.1.2.1.2.2
@[irreducible] def L := pt.1.2.2.1.1.1
@[irreducible] def m := pt.1.2.2.1.1.2
@[irreducible] def s := pt.1.2.2.1.2
@[irreducible] def Q := pt.1.2.2.2.1
@[irreducible] def E := pt.1.2.2.2.2
@[irreducible] def wa := pt.2.1.1.1.1.1
@[irreducible] def ka := pt.2.1.1.1.1.2
@[irreducible] def lk := pt.2.1.1.1.2
@[irreducible] def p0 := pt.2.1.1.2.1.1
@[irreducible] def p1 := pt.2.1.1.2.1.2
@[irreducible] def vs := pt.2.1.1.2.2
@[irreducible] def kvs := pt.2.1.2.1.1.1
@[irreducible] def nw := pt.2.1.2.1.1.2
@[irreducible] def nk := pt.2.1.2.1.2
@[irreducible] def nl := pt.2.1.2.2.1
@[irreducible] def n0 := pt.2.1.2.2.2
@[irreducible] def n1 := pt.2.2.1.1.1.1
@[irreducible] def ks := pt.2.2.1.1.1.2
@[irreducible] def i0 := pt.2.2.1.1.2
@[irreducible] def d0 := pt.2.2.1.2.1
@[irreducible] def i1 := pt.2.2.1.2.2
@[irreducible] def d1 := pt.2.2.2.1.1.1
@[irreducible] def u0 := pt.2.2.2.1.1.2
@[irreducible] def u1 := pt.2.2.2.1.2
@[irreducible] def u2 := pt.2.2.2.2.1
@[irreducible] def u3 := pt.2.2.2.2.2
@[irreducible] def g : Heap := hideAll s.heap [332, lk, p0, p1]
theorem hgc : hideAll s.heap [332, lk, p0, p1] = g := by delta g; rfl
@[irreducible] def L' : Addr := s.heap.objs.size
theorem hLc : s.heap.objs.size = L' := by delta L'; rfl
noncomputable def sg0 : (P0 : Obj -> Obj -> Obj -> Heap -> Obj -> Obj -> (Array Value) -> Tok -> Value -> Heap -> Nat -> Addr -> Addr -> Addr -> (Array Nat) -> Prop) ×' ((∀ x0 x1 x2 x3 x4 x5 x6 x7 x8 x9 x10 x11 x12 x13 x14, P0 x0 x1 x2 x3 x4 x5 x6 x7 x8 x9 x10 x11 x12 x13 x14) -> Sleast_spec w loose mean mg mb dp un gd cn cs a ccd cl outer A₀ base h₀ L m s Q E wa ka lk p0 p1 vs kvs nw nk nl n0 n1 ks i0 d0 i1 d1 u0 u1 u2 u3) := by
 apply PSigma.mk
 case snd =>
   intro hP0
   unfold Sleast_spec
   intro B F X T hk N C hwa hws hka hks hkl K hdp hun ret
   have ne1 : @Ne Nat lk 332 := fun q => tab_ne (N _ (.head _)).1 (N (lk, _) (.tail _ (.head _))).1 isSeq_lst q
   have ne2 : @Ne Nat p0 332 := fun q => tab_ne (N _ (.head _)).1 (N (p0, _) (.tail _ (.tail _ (.head _)))).1 isSeq_tup q
   have ne3 : @Ne Nat p1 332 := fun q => tab_ne (N _ (.head _)).1 (N (p1, _) (.tail _ (.tail _ (.tail _ (.head _))))).1 isSeq_tup q
   refine wpAny_call ?_
   k_dflt (refine' enter_cellsMC (g := g) (L' := L') (hg := ?hg) (hL := ?hL) ?k1 ?k2 ?kN ?k3 ?k5 ?kA ?kF ?kK ?k6 ?k7 ?k8 ?k9 ?kB ?kD ?_ ?c2 ?c3 ?c4; (case kA | kF => exact rfl); (case kK => assumption); (case k1 | k2 => k_asm); (case kN => exact N); (case hg => exact hgc); (case hL => exact hLc); (case k3 | k5 => k_asm); (case k6 | k7 => k_is); (case k8 => ktr_room); (case k9 => exact BindsTo.of_eq rfl); (case kB => exact rfl); (case kD => decide +kernel); (case c2 | c3 | c4 => exact rfl); intro h' tk' cells' hg F' N' Y' hlt B' X' T'; k_cells Y'; (try dsimp only); (try k_fold))
   have hg' : g = hideAll s.heap [332, lk, p0, p1] := hg
   rw [← hg'] at hwa hws hka
   have CH : CodeHd g 334 332 := C.keeps fun b o e => by
     rw [hg']
     refine hideAll_get _ (F.keep _ _ e) fun q => ?_
     obtain ⟨x, hx, rfl⟩ : ∃ x ∈ [(332, tabObj #[]), (lk, lst [.ref p0, .ref p1] nl), (p0, tup [.int i0 u0, .int d0 u1] n0), (p1, tup [.int i1 u2, .int d1 u3] n1)], x.1 = b := by
       rcases in4 q with rfl | rfl | rfl | rfl
       . exact ⟨_, .head _, rfl⟩
       . exact ⟨_, .tail _ (.head _), rfl⟩
       . exact ⟨_, .tail _ (.tail _ (.head _)), rfl⟩
       . exact ⟨_, .tail _ (.tail _ (.tail _ (.head _))), rfl⟩
     have z := (N _ hx).2.2
     rw [e] at z; cases z
   have lt332 : @LT.lt Nat _ 332 L' := hlt _ (.head _)
   have ltl : @LT.lt Nat _ lk L' := hlt _ (.tail _ (.head _))
   have ltp0 : @LT.lt Nat _ p0 L' := hlt _ (.tail _ (.tail _ (.head _)))
   have ltp1 : @LT.lt Nat _ p1 L' := hlt _ (.tail _ (.tail _ (.tail _ (.head _))))
   clear hlt hg
   rename Fr g L' _ _ => F1
   rename News g L' _ _ => N1
   simp only [List.cons_append, List.nil_append] at N1
   rename_i oT0 oK dT0 dK
   replace dT0 : oT0.data = .cell none := by with_unfolding_all exact dT0
   replace dK : oK.data = .cell (some (.ref lk)) := by with_unfolding_all exact dK
   replace F1 : Fr g L' h' (fun y => if y = oS "kinds" then some (.ref ka) else if y = oS "words" then some (.ref wa) else none) := by with_unfolding_all exact F1
   k_steps
   refine Halt.mk ?_
   rename Fr _ _ _ _ => F'
   rename News _ _ _ _ => N'
   with_unfolding_all refine stCNk (own := [_]) (rest := [_, _, _, _, _]) F' N' rfl (by assumption) (by cells_apart) (by cells_apart) ?_
   intro _ oT2 F2 N2 dT2
   try dsimp only
   k_steps
   simp only [List.cons_append, List.nil_append] at N2
   rename Obj.IsDictOf (intKind PW w) _ [] => hdi
   rename (_ == sysModules) = false => lo
   have F3 := fr_over [(oS "kinds", .ref ka), (oS "words", .ref wa)] F2 (by with_unfolding_all exact ⟨rfl, rfl, trivial⟩)
   clear F2
   with_unfolding_all refine For_turns F3 ?_
   k_steps
   rename Fr g L' _ _ => F4
   rename News g L' _ _ => N4
   obtain ⟨fq, eq⟩ := nmN N4; subst eq
   obtain ⟨cq, eq⟩ := nmN (news_cdr N4); subst eq
   obtain ⟨tq, eq⟩ := nmN (news_cdr (news_cdr N4)); subst eq
   have hl16 : vs.length = 16 := hws.1
   obtain ⟨pm, hpm, hpo⟩ := sort_ok K
   have hrun : runT vs.length (klt (w16.map (kf i0 d0 i1 d1))) (kas_sort vs.length) = some pm := by rw [hl16]; exact hpm
   rename Obj.data _ = Data.fields _ => hcd1
   rename _[1]? = some (Value.str _ _) => hcd2
   have lcT : @LT.lt Nat _ (L' + 1 + 1) tq := by omega
   revert lcT; revert hrun; revert hpo; revert hpm; revert hl16; revert N4; revert dT2; revert N2; revert lo; revert hcd2; revert hcd1; revert F4; revert F3; revert hdi; revert dK; revert dT0; revert ltp1; revert ltp0; revert ltl; revert lt332; revert CH; revert hg'; revert ne3; revert ne2; revert ne1; revert T'; revert X'; revert B'; revert ret; revert hun; revert hdp; revert K; revert hkl; revert hks; revert hka; revert hws; revert hwa; revert C; revert N; revert hk; revert T; revert X; revert F; revert B
   rename_i _ vv1 _ _ _ vv5 vv6 vv7 vv8 vv9 vv10 vv11 _ _ _
   exact hP0 oT0 oK vv1 vv5 oT2 vv6 vv7 vv8 vv9 vv10 vv11 fq cq tq pm
namespace K0_0
abbrev TT : Type := (((Obj × Obj) × (Obj × Heap)) × ((Obj × Obj) × ((Array Value) × Tok))) × (((Value × Heap) × (Nat × Addr)) × ((Addr × Addr) × (Array Nat)))
def PP (p : TT) : Prop := sg0.1 p.1.1.1.1 p.1.1.1.2 p.1.1.2.1 p.1.1.2.2 p.1.2.1.1 p.1.2.1.2 p.1.2.2.1 p.1.2.2.2 p.2.1.1.1 p.2.1.1.2 p.2.1.2.1 p.2.1.2.2 p.2.2.1.1 p.2.2.1.2 p.2.2.2
def pt := ep ⟨default⟩ PP
@[irreducible] def oT0 := pt.1.1.1.1
@[irreducible] def oK := pt.1.1.1.2
@[irreducible] def vv1 := pt.1.1.2.1
@[irreducible] def vv5 := pt.1.1.2.2
@[irreducible] def oT2 := pt.1.2.1.1
@[irreducible] def vv6 := pt.1.2.1.2
@[irreducible] def vv7 := pt.1.2.2.1
@[irreducible] def vv8 := pt.1.2.2.2
@[irreducible] def vv9 := pt.2.1.1.1
@[irreducible] def vv10 := pt.2.1.1.2
@[irreducible] def vv11 := pt.2.1.2.1
@[irreducible] def fq := pt.2.1.2.2
@[irreducible] def cq := pt.2.2.1.1
@[irreducible] def tq := pt.2.2.1.2
@[irreducible] def pm := pt.2.2.2
noncomputable def sg1 : (P0 : Nat -> Addr -> (List Value) -> Nat -> Addr -> Nat -> (List (Addr × Obj)) -> Heap -> Nat -> Heap -> Addr -> Heap -> Nat -> Obj -> Addr -> Tok -> Tok -> Tok -> Nat -> Wd -> Tok -> Tok -> Prop) ×' (P1 : Addr -> Heap -> Nat -> Nat -> (Array Value) -> Prop) ×' ((∀ x0 x1 x2 x3 x4 x5 x6 x7 x8 x9 x10 x11 x12 x13 x14 x15 x16 x17 x18 x19 x20 x21, P0 x0 x1 x2 x3 x4 x5 x6 x7 x8 x9 x10 x11 x12 x13 x14 x15 x16 x17 x18 x19 x20 x21) -> (∀ x0 x1 x2 x3 x4, P1 x0 x1 x2 x3 x4) -> sg0.1 oT0 oK vv1 vv5 oT2 vv6 vv7 vv8 vv9 vv10 vv11 fq cq tq pm) := by
 apply PSigma.mk
 case snd =>
   apply PSigma.mk
   case snd =>
     intro hP0 hP1
     unfold sg0
     dsimp only
     intro B F X T hk N C hwa hws hka hks hkl K hdp hun ret B' X' T' ne1 ne2 ne3 hg' CH lt332 ltl ltp0 ltp1 dT0 dK hdi F3 F4 hcd1 hcd2 lo N2 dT2 N4 hl16 hpm hpo hrun lcT
     with_unfolding_all refine sorted_pairs (kz := w16.map (kf i0 d0 i1 d1)) F4 N4 (isl_of F4 hwa) (by omega) (by omega) (by rw [List.length_map]; exact hl16.symm) (by first | (show un + 5 < 9900; omega) | (show un + 4 < 9900; omega) | (show un + 7 < 9900; omega) | (show un + 9 < 9900; omega)) hrun ?turn ?_
     case turn =>
       intro i v a b kS ks' e D e1 made h tk hv hz F5 N5
       simp only [List.cons_append, List.nil_append] at N5
       refine wpAny_call ?_
       refine lam_code (x := oS "word") (v := v) B' F5 X' N5 T' (by exact rfl) (by exact rfl) (by rfl) (.tail _ (.tail _ (.head _))) (codeRec_news N5 (.tail _ (.tail _ (.tail _ (.head _)))) (by assumption) (by assumption)) (by ktr_room) (by with_unfolding_all rfl) (by intro n acc; rfl) (by intro h; rfl) (by rfl) ?_ (by rfl) (by rfl) (by rfl)
       intro g2 L2 h2 tk2 oc2 F6 hoc N6 lt6 B2 X2 T2 hg2
       have kg : Keeps g g2 := hg2 ▸ keeps_hide F5 N5
       have hi16 : i < w16.length := by
         rcases Nat.lt_or_ge i w16.length with q | q
         . exact q
         . rw [List.getElem?_eq_none (by rw [List.length_map]; exact q)] at hz; cases hz
       obtain ⟨av, rfl, t0, t1, t2, nv, hav⟩ := hws.2 i v _ hv (List.getElem?_eq_getElem hi16)
       have hab : kf i0 d0 i1 d1 w16[i] = (a, b) := by
         rw [List.getElem?_map, List.getElem?_eq_getElem hi16] at hz
         exact Option.some.inj hz
       generalize w16[i] = uu at hav hab
       cases hab
       have hav2 := kg _ _ hav
       obtain ⟨tx, htx⟩ := at_get (u := uu) (t0 := t0) (t1 := t1) (t2 := t2) K.1
       obtain ⟨ty, hty⟩ := at_get (u := uu) (t0 := t0) (t1 := t1) (t2 := t2) K.2.1
       have hk0 := K.1
       have hk1 := K.2.1
       have hd0 := K.2.2.2.1
       have hd1 := K.2.2.2.2
       clear N5 F5 N4 F4 hav hg2
       revert hd1; revert hd0; revert hk1; revert hk0; revert hty; revert htx; revert hav2; revert hz; revert hoc; revert hv; revert hi16; revert kg; revert T2; revert X2; revert B2; revert lt6; revert N6; revert F6; revert lcT; revert hrun; revert hpo; revert hpm; revert hl16; revert dT2; revert N2; revert lo; revert hcd2; revert hcd1; revert F3; revert hdi; revert dK; revert dT0; revert ltp1; revert ltp0; revert ltl; revert lt332; revert CH; revert hg'; revert ne3; revert ne2; revert ne1; revert T'; revert X'; revert B'; revert ret; revert hun; revert hdp; revert K; revert hkl; revert hks; revert hka; revert hws; revert hwa; revert C; revert N; revert hk; revert T; revert X; revert F; revert B
       exact hP0 i kS ks' e D e1 made h tk g2 L2 h2 tk2 oc2 av t0 t1 t2 nv uu tx ty
     intro D h8 c made tk F8 N8 lD
     simp only [List.cons_append, List.nil_append] at N8
     have nD := N8 _ (.head _)
     have nT := N8 _ (.tail _ (.tail _ (.tail _ (.head _))))
     have nC := N8 _ (.tail _ (.tail _ (.tail _ (.tail _ (.head _)))))
     have nZ := N8 _ (.tail _ (.tail _ (.tail _ (.tail _ (.tail _ (.tail _ (.head _)))))))
     have ltD : @LT.lt Nat _ tq D := lD _ (.tail _ (.tail _ (.head _)))
     have lcD : @LT.lt Nat _ (L' + 1 + 1) D := lD _ (.tail _ (.tail _ (.tail _ (.head _))))
     generalize #[] ++ #[rawInt ↑555, rawInt ↑34, Value.ref cq] = zs at nZ
     have N9 := news_cons nD (news_cons nT (news_cons nC (news_cons nZ news_nil)))
     clear N8 nD nT nC nZ lD N4 F4
     revert N9; revert lcD; revert ltD; revert F8; revert lcT; revert hrun; revert hpo; revert hpm; revert hl16; revert dT2; revert N2; revert lo; revert hcd2; revert hcd1; revert F3; revert hdi; revert dK; revert dT0; revert ltp1; revert ltp0; revert ltl; revert lt332; revert CH; revert hg'; revert ne3; revert ne2; revert ne1; revert T'; revert X'; revert B'; revert ret; revert hun; revert hdp; revert K; revert hkl; revert hks; revert hka; revert hws; revert hwa; revert C; revert N; revert hk; revert T; revert X; revert F; revert B
     exact hP1 D h8 c tk zs
namespace K1_0
abbrev TT : Type := ((((Nat × Addr) × (List Value)) × ((Nat × Addr) × Nat)) × ((((List (Addr × Obj)) × Heap) × Nat) × (Heap × Addr))) × ((((Heap × Nat) × Obj) × ((Addr × Tok) × Tok)) × (((Tok × Nat) × Wd) × (Tok × Tok)))
def PP (p : TT) : Prop := sg1.1 p.1.1.1.1.1 p.1.1.1.1.2 p.1.1.1.2 p.1.1.2.1.1 p.1.1.2.1.2 p.1.1.2.2 p.1.2.1.1.1 p.1.2.1.1.2 p.1.2.1.2 p.1.2.2.1 p.1.2.2.2 p.2.1.1.1.1 p.2.1.1.1.2 p.2.1.1.2 p.2.1.2.1.1 p.2.1.2.1.2 p.2.1.2.2 p.2.2.1.1.1 p.2.2.1.1.2 p.2.2.1.2 p.2.2.2.1 p.2.2.2.2
def pt := ep ⟨default⟩ PP
@[irreducible] def i := pt.1.1.1.1.1
@[irreducible] def kS := pt.1.1.1.1.2
@[irreducible] def ks' := pt.1.1.1.2
@[irreducible] def e := pt.1.1.2.1.1
@[irreducible] def D := pt.1.1.2.1.2
@[irreducible] def e1 := pt.1.1.2.2
@[irreducible] def made := pt.1.2.1.1.1
@[irreducible] def h := pt.1.2.1.1.2
@[irreducible] def tk := pt.1.2.1.2
@[irreducible] def g2 := pt.1.2.2.1
@[irreducible] def L2 := pt.1.2.2.2
@[irreducible] def h2 := pt.2.1.1.1.1
@[irreducible] def tk2 := pt.2.1.1.1.2
@[irreducible] def oc2 := pt.2.1.1.2
@[irreducible] def av := pt.2.1.2.1.1
@[irreducible] def t0 := pt.2.1.2.1.2
@[irreducible] def t1 := pt.2.1.2.2
@[irreducible] def t2 := pt.2.2.1.1.1
@[irreducible] def nv := pt.2.2.1.1.2
@[irreducible] def uu := pt.2.2.1.2
@[irreducible] def tx := pt.2.2.2.1
@[irreducible] def ty := pt.2.2.2.2
theorem sg2 : sg1.1 i kS ks' e D e1 made h tk g2 L2 h2 tk2 oc2 av t0 t1 t2 nv uu tx ty := by
 unfold sg1
 dsimp only
 intro B F X T hk N C hwa hws hka hks hkl K hdp hun ret B' X' T' ne1 ne2 ne3 hg' CH lt332 ltl ltp0 ltp1 dT0 dK hdi F3 hcd1 hcd2 lo N2 dT2 hl16 hpm hpo hrun lcT F6 N6 lt6 B2 X2 T2 kg hi16 hv hoc hz hav2 htx hty hk0 hk1 hd0 hd1
 k_steps
 k_dflt (refine LCp.ListComp_P (F₀ := F6) (by with_unfolding_all rfl) (by decide) (by rfl) (by decide) (by rfl) (by rfl) (by decide) ?_)
 k_dflt lcp_toSrc
 k_steps
 rename Fr g L' _ _ => F8
 rename News g L' _ _ => N8
 obtain ⟨Dk, eDk⟩ := nmN N8; subst eDk
 refine Halt.mk ⟨Dk, _, _, _, _, _, rfl, rfl, F8, ?_, ?_, perm3N N8⟩
 . k_ne
 . k_ne
theorem fin : ∀ x, PP x := drink ⟨default⟩ PP (by with_unfolding_all exact sg2)
end K1_0
namespace K1_1
abbrev TT : Type := ((Addr × Heap) × Nat) × (Nat × (Array Value))
def PP (p : TT) : Prop := sg1.2.1 p.1.1.1 p.1.1.2 p.1.2 p.2.1 p.2.2
def pt := ep ⟨default⟩ PP
@[irreducible] def D := pt.1.1.1
@[irreducible] def h8 := pt.1.1.2
@[irreducible] def c := pt.1.2
@[irreducible] def tk := pt.2.1
@[irreducible] def zs := pt.2.2
noncomputable def sg3 : (P0 : Addr -> Nat -> Heap -> Nat -> Obj -> (List (Int × Value)) -> (Str -> Option Value) -> Obj -> Nat -> Addr -> Tok -> Prop) ×' (P1 : Heap -> Nat -> Obj -> (List (Int × Value)) -> (Str -> Option Value) -> Prop) ×' ((∀ x0 x1 x2 x3 x4 x5 x6 x7 x8 x9 x10, P0 x0 x1 x2 x3 x4 x5 x6 x7 x8 x9 x10) -> (∀ x0 x1 x2 x3 x4, P1 x0 x1 x2 x3 x4) -> sg1.2.1 D h8 c tk zs) := by
 apply PSigma.mk
 case snd =>
   apply PSigma.mk
   case snd =>
     intro hP0 hP1
     unfold sg1
     dsimp only
     intro B F X T hk N C hwa hws hka hks hkl K hdp hun ret B' X' T' ne1 ne2 ne3 hg' CH lt332 ltl ltp0 ltp1 dT0 dK hdi F3 hcd1 hcd2 lo N2 dT2 hl16 hpm hpo hrun lcT F8 ltD lcD N9
     with_unfolding_all refine iter_listTurns (by rfl) F8 N9 (.head _) rfl rfl fun I hI => items_J (J := fun n m n' => SubL [(D, lst (pm.toList.map fun i => vs.getD i .none) c)] n' ∧ TabJ PW w ka wa D tq (L' + 1 + 1) oT2 vs ks pm.toList c zs n m n') ?turn ?fin _ 0 _ _ (Nat.zero_add _) ⟨⟨.head _, trivial⟩, _, [], _, rfl, rfl, hdi, Nat.le_refl _, fun k => rfl⟩
     case turn =>
       have lID : @LT.lt Nat _ D I := hI _ (.head _)
       have lIT : @LT.lt Nat _ tq I := hI _ (.tail _ (.head _))
       have lIC : @LT.lt Nat _ (L' + 1 + 1) I := hI _ (.tail _ (.tail _ (.head _)))
       have lIZ : @LT.lt Nat _ 332 I := hI _ (.tail _ (.tail _ (.tail _ (.head _))))
       clear hI N9 F8
       rintro n x v m₁ news₁ h tk hget hv ⟨-, oD, kv, r, rfl, rfl, hD, hkv, hval⟩ F5
       intro oI hcI N5
       have hv' := vals_get hget hv
       simp only [List.cons_append, List.nil_append] at N5
       replace F5 : Fr g L' h _ := F5
       replace N5 : News g L' h _ := N5
       rw [List.getElem?_map] at hv'
       obtain ⟨i, hi, rfl⟩ := Option.map_eq_some_iff.mp hv'
       have hi16 := okP_lt hpo i (List.mem_of_getElem? hi)
       have hvi : vs[i]? = some (vs.getD i .none) := by simp [List.getD, List.getElem?_eq_getElem (show i < vs.length by omega)]
       have hwi : w16[i]? = some (w16.getD i (0, 0, 0)) := by
         have : i < w16.length := hi16
         simp [List.getD, List.getElem?_eq_getElem this]
       obtain ⟨av, eav, hav⟩ := hws.2 i _ _ hvi hwi
       have hidx := idx16 i hi16
       have hmem : w16.getD i (0, 0, 0) ∈ w16 := List.mem_of_getElem? hwi
       obtain ⟨kt, hkt⟩ := hks.get i _ (getD_at (by omega))
       have hkt' : kvs[w16.idxOf (w16.getD i (0, 0, 0))]? = some (.int (ks.getD i 0) kt) := by rw [hidx]; exact hkt
       have hn16 : n < 16 := by
         have := okP_len hpo
         rcases Nat.lt_or_ge n pm.toList.length with q | q
         . omega
         . rw [List.getElem?_eq_none q] at hi; cases hi
       have hl1 : w16.idxOf (w16.getD i (0, 0, 0)) < 16 := by rw [hidx]; exact hi16
       have hvk := hval (ks.getD i 0)
       clear hget hv hv'
       rw [eav]
       revert hvk; revert hl1; revert hn16; revert hkt'; revert hkt; revert hmem; revert hidx; revert hav; revert eav; revert hwi; revert hvi; revert hi16; revert hi; revert N5; revert F5; revert hcI; revert hval; revert hkv; revert hD; revert lIZ; revert lIC; revert lIT; revert lID; revert lcD; revert ltD; revert lcT; revert hrun; revert hpo; revert hpm; revert hl16; revert dT2; revert N2; revert lo; revert hcd2; revert hcd1; revert F3; revert hdi; revert dK; revert dT0; revert ltp1; revert ltp0; revert ltl; revert lt332; revert CH; revert hg'; revert ne3; revert ne2; revert ne1; revert T'; revert X'; revert B'; revert ret; revert hun; revert hdp; revert K; revert hkl; revert hks; revert hka; revert hws; revert hwa; revert C; revert N; revert hk; revert T; revert X; revert F; revert B
       exact hP0 I n h tk oD kv r oI i av kt
     case fin =>
       rintro m₁ news₁ h tk ⟨-, oD, kv, r, rfl, rfl, hD, hkv, hval⟩ F5 N5
       clear hI N9 F8
       replace F5 : Fr g L' h _ := F5
       replace N5 : News g L' h _ := N5
       rw [List.length_map, List.length_map, List.take_length] at hval
       revert N5; revert F5; revert hval; revert hkv; revert hD; revert lcD; revert ltD; revert lcT; revert hrun; revert hpo; revert hpm; revert hl16; revert dT2; revert N2; revert lo; revert hcd2; revert hcd1; revert F3; revert hdi; revert dK; revert dT0; revert ltp1; revert ltp0; revert ltl; revert lt332; revert CH; revert hg'; revert ne3; revert ne2; revert ne1; revert T'; revert X'; revert B'; revert ret; revert hun; revert hdp; revert K; revert hkl; revert hks; revert hka; revert hws; revert hwa; revert C; revert N; revert hk; revert T; revert X; revert F; revert B
       exact hP1 h tk oD kv r
namespace K3_0
abbrev TT : Type := (((Addr × Nat) × Heap) × ((Nat × Obj) × (List (Int × Value)))) × ((((Str -> Option Value) × Obj) × Nat) × (Addr × Tok))
def PP (p : TT) : Prop := sg3.1 p.1.1.1.1 p.1.1.1.2 p.1.1.2 p.1.2.1.1 p.1.2.1.2 p.1.2.2 p.2.1.1.1 p.2.1.1.2 p.2.1.2 p.2.2.1 p.2.2.2
def pt := ep ⟨default⟩ PP
@[irreducible] def I := pt.1.1.1.1
@[irreducible] def n := pt.1.1.1.2
@[irreducible] def h := pt.1.1.2
@[irreducible] def tk := pt.1.2.1.1
@[irreducible] def oD := pt.1.2.1.2
@[irreducible] def kv := pt.1.2.2
@[irreducible] def r := pt.2.1.1.1
@[irreducible] def oI := pt.2.1.1.2
@[irreducible] def i := pt.2.1.2
@[irreducible] def av := pt.2.2.1
@[irreducible] def kt := pt.2.2.2
theorem sg4 : sg3.1 I n h tk oD kv r oI i av kt := by
 unfold sg3
 dsimp only
 intro B F X T hk N C hwa hws hka hks hkl K hdp hun ret B' X' T' ne1 ne2 ne3 hg' CH lt332 ltl ltp0 ltp1 dT0 dK hdi F3 hcd1 hcd2 lo N2 dT2 hl16 hpm hpo hrun lcT ltD lcD lID lIT lIC lIZ hD hkv hval hcI F5 N5 hi hi16 hvi hwi eav hav hidx hmem hkt hkt' hn16 hl1 hvk
 k_steps
 rename Fr g L' _ _ => F9
 refine index_words (u := w16.getD i (0, 0, 0)) (isl_of F9 hwa) (hws.keep fun v x q => q.ks (KS.of F9.keep)) ⟨av, rfl, hav.ks (KS.of F9.keep)⟩ hmem (by omega) (by show un + 3 + 64 < 9900; omega) ?_
 try dsimp only
 k_steps
 rename Fr g L' _ _ => F10
 rename News g L' _ _ => N10
 have off : ∀ oD', ∀ p ∈ [(D, lst (pm.toList.map fun i => vs.getD i .none) c), (tq, oD'), (L' + 1 + 1, oT2), (332, tabObj zs)], ∀ q ∈ [(I, oI)], p.1 ≠ q.1 := fun oD' => off4c (Nat.ne_of_lt lID) (Nat.ne_of_lt lIT) (Nat.ne_of_lt lIC) (Nat.ne_of_lt lIZ)
 have htk : pm.toList.take (n + 1) = pm.toList.take n ++ [i] := take_snoc hi
 cases q : fstK ks (pm.toList.take n) (ks.getD i 0) with
 | none =>
   rw [q] at hvk
   refine kdg_notin N10 (.tail _ (.tail _ (.head _))) hD lo (intKind_is _ _ _ _) false (by rw [hvk]; rfl) ?_
   try dsimp only
   k_steps
   rename Fr g L' _ _ => F11
   rename News g L' _ _ => N11
   refine Halt.mk (kda_set F11 N11 (.tail (Nat.ne_of_gt lIT) (.tail (Nat.ne_of_gt ltD) (.head fun p hp => ?ap))) hD (intKind_is _ _ _ _) (by rw [sizeLine_eq]; omega) fun h' o' F' N' hD' => ?_)
   case ap =>
     rcases List.mem_cons.mp hp with hp | hp
     . rw [hp]; exact Nat.ne_of_lt lcT
     . rw [List.mem_singleton.mp hp]; show @Ne Nat 332 tq; omega
   clear F11 N11
   try dsimp only at N'
   k_steps
   rename Fr g L' _ _ => F12
   rename News g L' _ _ => N12
   refine Halt.mk ?_
   refine unr_end (news' := [(D, lst (pm.toList.map fun i => vs.getD i .none) c), (tq, o'), (L' + 1 + 1, oT2), (332, tabObj zs)]) (fr_over [(oS "kinds", .ref ka), (oS "words", .ref wa)] F12 (by with_unfolding_all exact ⟨rfl, rfl, trivial⟩)) N12 (sub1 (by k_mem)) (fun p hp => .tail _ hp) (off o')
     ⟨⟨.head _, trivial⟩, ⟨.head _, trivial⟩, o', _, _, rfl, rfl, hD', Nat.le_trans (length_stored _ _ _) (by omega), fun k => ?_⟩
   rw [valueAt_stored, htk, fstK_snoc, hval k]
   by_cases e : k = ks.getD i 0
   . rw [if_pos e, e, q, if_pos rfl, ← eav]; rfl
   . rw [if_neg e, if_neg (Ne.symm e)]
     cases fstK ks (pm.toList.take n) k <;> rfl
 | some j =>
   rw [q] at hvk
   refine kdg_notin N10 (.tail _ (.tail _ (.head _))) hD lo (intKind_is _ _ _ _) true (by rw [hvk]; rfl) ?_
   try dsimp only
   k_steps
   rename Fr g L' _ _ => F12
   rename News g L' _ _ => N12
   refine Halt.mk ?_
   refine unr_end (news' := [(D, lst (pm.toList.map fun i => vs.getD i .none) c), (tq, oD), (L' + 1 + 1, oT2), (332, tabObj zs)]) (fr_over [(oS "kinds", .ref ka), (oS "words", .ref wa)] F12 (by with_unfolding_all exact ⟨rfl, rfl, trivial⟩)) N12 (sub1 (by k_mem)) (fun p hp => .tail _ hp) (off oD)
     ⟨⟨.head _, trivial⟩, ⟨.head _, trivial⟩, oD, kv, _, rfl, rfl, hD, by omega, fun k => ?_⟩
   rw [htk, fstK_snoc, hval k]
   by_cases e : ks.getD i 0 = k
   . rw [← e, q]
   . rw [if_neg e]
     cases fstK ks (pm.toList.take n) k <;> rfl
theorem fin : ∀ x, PP x := drink ⟨default⟩ PP (by with_unfolding_all exact sg4)
end K3_0
namespace K3_1
abbrev TT : Type := ((Heap × Nat) × Obj) × ((List (Int × Value)) × (Str -> Option Value))
def PP (p : TT) : Prop := sg3.2.1 p.1.1.1 p.1.1.2 p.1.2 p.2.1 p.2.2
def pt := ep ⟨default⟩ PP
@[irreducible] def h := pt.1.1.1
@[irreducible] def tk := pt.1.1.2
@[irreducible] def oD := pt.1.2
@[irreducible] def kv := pt.2.1
@[irreducible] def r := pt.2.2
theorem sg5 : sg3.2.1 h tk oD kv r := by
 unfold sg3
 dsimp only
 intro B F X T hk N C hwa hws hka hks hkl K hdp hun ret B' X' T' ne1 ne2 ne3 hg' CH lt332 ltl ltp0 ltp1 dT0 dK hdi F3 hcd1 hcd2 lo N2 dT2 hl16 hpm hpo hrun lcT ltD lcD hD hkv hval F5 N5
 try dsimp only
 k_steps
 k_dflt (refine LCg.ListComp_U (F₀ := by k_asm) (by with_unfolding_all rfl) (by decide) (by rfl) (by decide) (by rfl) ?_)
 k_dflt lcg_toSrc
 rename Fr g L' _ _ => F6
 rename News g L' _ _ => N6
 have hkv16 : kvs.length = 16 := by rw [hks.length, hkl]
 refine LCg.CompSrc.base (its := kvs.toArray) (by rfl) F6 N6 (isl0 hka) (by simp only [List.size_toArray]; exact Nat.le_trans (show kvs.length ≤ 1000 by omega) (by decide)) fun g3 => compRest_J (J := fun i ys news => (∀ h, Keeps g h -> AllAt WdAt h ys ((leastP ks pm.toList).take i)) ∧ news = _) ?_ ?_ kvs.toArray.size 0 [] _ (Nat.zero_add _) ⟨fun _ _ => AllAt.nil, rfl⟩
 . rintro i v ys news I oI C oC D2 m₂ h tk E' hi hP ⟨hys, rfl⟩ hC hx F4 N4 off ne
   have hi16 : i < 16 := by simpa [hkv16] using hi
   obtain ⟨kt, ekt⟩ := hks.get i _ (getD_at (by omega))
   have hv : v = .int (ks.getD i 0) kt := by
     have hP' : kvs[i]? = some v := by simpa using hP
     rw [ekt] at hP'
     exact (Option.some.inj hP').symm
   subst hv
   obtain ⟨j, e1, e2, e3⟩ := fstK_some (ks := ks) (okP_mem hpo i hi16)
   have hva : valueAt kv (ks.getD i 0) = some (vs.getD j .none) := by rw [hval, e1]; rfl
   have hj16 := okP_lt hpo j e2
   k_steps
   refine LCg.CompEnd.intro F4 N4 _ (fun _ hp => hp) off (.inl (isl0 hka)) ⟨fun h' k' => ?_, rfl⟩
   have hvj : vs[j]? = some (vs.getD j .none) := by simp [List.getD, List.getElem?_eq_getElem (show j < vs.length by omega)]
   have hwj : w16[j]? = some (w16.getD j (0, 0, 0)) := by
     have : j < w16.length := hj16
     simp [List.getD, List.getElem?_eq_getElem this]
   have hli : (leastP ks pm.toList)[i]? = some (w16.getD j (0, 0, 0)) := by
     unfold leastP
     rw [List.getElem?_map, List.getElem?_range hi16]
     simp only [Option.map_some, e1, Option.getD_some]
   rw [take_snoc hli]
   exact (hys h' k').push ((hws.2 j _ _ hvj hwj).keep k')
 . rintro ys news ⟨hys, rfl⟩
   rw [show kvs.toArray.size = (leastP ks pm.toList).length by simp [leastP, hkv16], List.take_length] at hys
   intro D5 h5 tk5 F7 N7 o7
   k_steps
   rename Fr h₀ L _ m => kF9
   exact ret D5 _ _ ys _ pm hpo ⟨_, (N7 _ (.tail _ (.tail _ (.tail _ (.tail _ (.head _)))))).1⟩ kF9 (hg' ▸ F7.keep) (hg' ▸ (N7 _ (.head _)).2.2) (N7 _ (.head _)).1 (hys _ F7.keep)
theorem fin : ∀ x, PP x := drink ⟨default⟩ PP (by with_unfolding_all exact sg5)
end K3_1
theorem fin : ∀ x, PP x := drink ⟨default⟩ PP (by with_unfolding_all exact sg3.2.2 (by intros; exact K3_0.fin ((((_, _), _), ((_, _), _)), (((_, _), _), (_, _)))) (by intros; exact K3_1.fin (((_, _), _), (_, _))))
end K1_1
theorem fin : ∀ x, PP x := drink ⟨default⟩ PP (by with_unfolding_all exact sg1.2.2 (by intros; exact K1_0.fin (((((_, _), _), ((_, _), _)), (((_, _), _), (_, _))), ((((_, _), _), ((_, _), _)), (((_, _), _), (_, _))))) (by intros; exact K1_1.fin (((_, _), _), (_, _))))
end K0_0
theorem main : Sleast_spec w loose mean mg mb dp un gd cn cs a ccd cl outer A₀ base h₀ L m s Q E wa ka lk p0 p1 vs kvs nw nk nl n0 n1 ks i0 d0 i1 d1 u0 u1 u2 u3 := sg0.2 (by intros; exact K0_0.fin ((((_, _), (_, _)), ((_, _), (_, _))), (((_, _), (_, _)), ((_, _), _))))
end Cleast_spec
theorem least_spec : ∀ w loose mean mg mb dp un gd cn cs a ccd cl outer A₀ base h₀ L m s Q E (B : Below A₀ base outer h₀) (F : Fr h₀ L s.heap m) (X : (Mine.KR w.params).In h₀) (T : Top topProg loose mean mg mb h₀) (hk : cs.kind = .function) wa ka lk p0 p1 vs kvs nw nk nl n0 n1 ks i0 d0 i1 d1 u0 u1 u2 u3, Qleast_spec w dp un gd cn cs a ccd cl outer h₀ L m s Q E wa ka lk p0 p1 vs kvs nw nk nl n0 n1 ks i0 d0 i1 d1 u0 u1 u2 u3 :=
 fun w loose mean mg mb dp un gd cn cs a ccd cl outer A₀ base h₀ L m s Q E B F X T hk wa ka lk p0 p1 vs kvs nw nk nl n0 n1 ks i0 d0 i1 d1 u0 u1 u2 u3 => drink nleast_spec Pleast_spec (by with_unfolding_all exact Cleast_spec.main) ((((((w, loose), mean), ((mg, mb), dp)), (((un, gd), cn), (cs, a))), ((((ccd, cl), outer), ((A₀, base), h₀)), (((L, m), s), (Q, E)))), (((((wa, ka), lk), ((p0, p1), vs)), (((kvs, nw), nk), (nl, n0))), ((((n1, ks), i0), (d0, i1)), (((d1, u0), u1), (u2, u3))))) B F X T hk
end
end Mine
end
noncomputable section
example : True := by w_top off; trivial
namespace Mine
noncomputable def addNew (acc : List Wd) (u : Wd) : List Wd := if u ∈ acc then acc else acc ++ [u]
noncomputable def dedupP (us : List Wd) : List Wd := us.foldl addNew []
theorem addNew_len {acc : List Wd} {u : Wd} : (addNew acc u).length ≤ acc.length + 1 := by
 unfold addNew; split <;> simp
theorem foldNew_len : ∀ (us acc : List Wd), (us.foldl addNew acc).length ≤ acc.length + us.length
 | [], acc => by simp
 | u :: us, acc => by
   have := foldNew_len us (addNew acc u)
   have h2 := addNew_len (acc := acc) (u := u)
   simp only [List.foldl_cons, List.length_cons]
   lia
noncomputable def firstsP (ks : List Int) (ls : List Wd) : List Wd := ((List.range 16).filter fun k => !(ks.take k).contains (ks.getD k 0)).map fun k => ls.getD k (0, 0, 0)
theorem ktie_len {ws : List Wd} {t : Wd × Wd} : ∀ (l : List (List Int)) (ks : List Int), (l.foldl (kstep ws t) ks).length = ks.length
 | [], _ => rfl
 | y :: l, ks => (ktie_len l _).trans (by simp [kstep, relab])
theorem kindsP_len {ties : List (Wd × Wd)} : (kindsP w16 ties).length = 16 := by
 have : ∀ (ts : List (Wd × Wd)) (ks : List Int), (ts.foldl (ktie w16) ks).length = ks.length := by
   intro ts
   induction ts with
   | nil => intro ks; rfl
   | cons t ts ih => intro ks; exact (ih _).trans (ktie_len _ _)
 unfold kindsP
 rw [this, List.length_map, List.length_range]
 rfl
theorem nn_rows : ∀ {u : Wd}, u ∈ rowsP 2 3 -> Nn 2 u := by
 have e : ∀ u ∈ rowsP 2 3, Nn 2 u := by unfold Nn; decide +kernel
 exact fun {u} h => e u h
theorem nn_w16 : ∀ {u : Wd}, u ∈ w16 -> Nn 2 u ∨ Nn 3 u := by
 have e : ∀ u ∈ w16, Nn 2 u ∨ Nn 3 u := by unfold Nn; decide +kernel
 exact fun {u} h => e u h
theorem wth_w16 : ∀ {u : Wd}, u ∈ rowsP 2 3 -> ∀ {ys : List Int}, ys ∈ mores -> wth u ys ∈ w16 := by
 have e : ∀ u ∈ rowsP 2 3, ∀ ys ∈ mores, wth u ys ∈ w16 := by decide +kernel
 intro u h ys h'; exact e u h ys h'
def PlainLaw : Prop := ∀ (i0 d0 i1 d1 : Int) (ties : List (Wd × Wd)) (rs : List Rl) (ends : List Wd) (ps : Array Nat), Keys i0 d0 i1 d1 -> ties.length = 3 -> (∀ t ∈ ties, t.1 ∈ rowsP 2 3 ∧ t.2 ∈ rowsP 2 3) -> RulesP i0 d0 i1 d1 ties rs ->
 ends.length = 16 -> (∀ (k : Nat) u e, w16[k]? = some u -> ends[k]? = some e -> Down rs u e) -> okP (w16.map (kf i0 d0 i1 d1)) ps = true ->
 ends = leastP (kindsP w16 ties) ps.toList ∧ dedupP ends = firstsP (kindsP w16 ties) (leastP (kindsP w16 ties) ps.toList)
end Mine
end
noncomputable section
example : True := by w_top off; trivial
namespace Mine
noncomputable section
local macro_rules | `(tactic| omega) => `(tactic| walk_at "o")
local macro_rules | `(tactic| walk_at $k) => if ["exec For Name Name", "exec For Name Name cons nil", "pyIter ref", "UnrPostW", "compareOp NotIn"].contains k.getString then `(tactic| refine Halt.go ?_) else Lean.Macro.throwUnsupported
theorem push_lst {g h : Heap} {L D : Addr} {x : Addr × Obj} {ds : List Value} {v : Value} {k : Nat} {l : List (Addr × Obj)} (N : News g L h (x :: (D, W.listOf (ds.toArray.push v) k) :: l)) : News g L h (x :: (D, lst (ds ++ [v]) k) :: l) := by simpa [W.listOf] using N
section
variable (w : World) (loose : List Str) (mean : ExcName -> Option Value) (mg mb : Str -> Option Value) (dp un : Nat) (gd : Option (List Code)) (cn : Str) (cs : Scope) (a : Addr) (ccd : Value) (cl : List (Str × Addr)) (outer : List Env) (A₀ : Around) (base h₀ : Heap) (L : Addr) (m : Str -> Option Value) (s : Shared) (Q E : Value -> Shared -> Prop) (ea : Addr) (vs : List Value) (ne : Nat) (us : List Wd)
def Qdedup_spec : Prop :=
 ∀ (hea : s.heap.get? ea = some (lst vs ne)),
 ∀ (hus : AllAt WdAt s.heap vs us),
 ∀ (hvs : vs.length ≤ 100),
 ∀ (hdp : dp < 490),
 ∀ (hun : un < 480),
 ∀ (ret : ∀ D h' tk' ds n, Fr h₀ L h' m -> Keeps s.heap h' -> s.heap.get? D = none -> h'.get? D = some (lst ds n) -> AllAt WdAt h' ds (dedupP us) -> Q (.ref D) { s with heap := h', toks := tk' }),
 wpAny (model PW w) (ktrTop dp un gd cn cs L a ccd cl outer) (call (.ref 281) [.ref ea]) Q E s
def Sdedup_spec : Prop :=
 ∀ (B : Below A₀ base outer h₀),
 ∀ (F : Fr h₀ L s.heap m),
 ∀ (X : (Mine.KR w.params).In h₀),
 ∀ (T : Top topProg loose mean mg mb h₀),
 ∀ (hk : cs.kind = .function),
 Qdedup_spec w dp un gd cn cs a ccd cl outer h₀ L m s Q E ea vs ne us
end
abbrev Tdedup_spec : Type := ((((World × (List Str)) × ((ExcName -> Option Value) × (Str -> Option Value))) × (((Str -> Option Value) × Nat) × Nat)) × ((((Option (List Code)) × Str) × Scope) × ((Addr × Value) × (List (Str × Addr))))) × (((((List Env) × Around) × (Heap × Heap)) × ((Addr × (Str -> Option Value)) × Shared)) × ((((Value -> Shared -> Prop) × (Value -> Shared -> Prop)) × Addr) × (((List Value) × Nat) × (List Wd))))
def Pdedup_spec (p : Tdedup_spec) : Prop := Sdedup_spec p.1.1.1.1.1 p.1.1.1.1.2 p.1.1.1.2.1 p.1.1.1.2.2 p.1.1.2.1.1 p.1.1.2.1.2 p.1.1.2.2 p.1.2.1.1.1 p.1.2.1.1.2 p.1.2.1.2 p.1.2.2.1.1 p.1.2.2.1.2 p.1.2.2.2 p.2.1.1.1.1 p.2.1.1.1.2 p.2.1.1.2.1 p.2.1.1.2.2 p.2.1.2.1.1 p.2.1.2.1.2 p.2.1.2.2 p.2.2.1.1.1 p.2.2.1.1.2 p.2.2.1.2 p.2.2.2.1.1 p.2.2.2.1.2 p.2.2.2.2
theorem ndedup_spec : Nonempty Tdedup_spec := ⟨(((((Classical.choice neW, default), default), default), default), ((((default, callerA), default), (default, {})), default))⟩
namespace Cdedup_spec
def pt := ep ndedup_spec Pdedup_spec
@[irreducible] def w := pt.1.1.1.1.1
@[irreducible] def loose := pt.1.1.1.1.2
@[irreducible] def mean := pt.1.1.1.2.1
@[irreducible] def mg := pt.1.1.1.2.2
@[irreducible] def mb := pt.1.1.2.1.1
@[irreducible] def dp := pt.1.1.2.1.2
@[irreducible] def un := pt.1.1.2.2
@[irreducible] def gd := pt.1.2.1.1.1
@[irreducible] def cn := pt.1.2.1.1.2
@[irreducible] def cs := pt.1.2.1.2
@[irreducible] def a := pt.1.2.2.1.1
@[irreducible] def ccd := pt.1.2.2.1.2
@[irreducible] def cl := pt.1.2.2.2
@[irreducible] def outer := pt.2.1.1.1.1
@[irreducible] def A₀ := pt.2.1.1.1.2
@[irreducible] def base := pt.2.1.1.2.1
@[irreducible] def h₀ := pt.2.1.1.2.2
@[irreducible] def L := pt.2.1.2.1.1
@[irreducible] def m := pt.2.1.2.1.2
@[irreducible] def s := pt.2.1.2.2
@[irreducible] def Q := pt.2.2.1.1.1
@[irreducible] def E := pt.2.2.1.1.2
@[irreducible] def ea := pt.2.2.1.2
@[irreducible] def vs := pt.2.2.2.1.1
@[irreducible] def ne := pt.2.2.2.1.2
@[irreducible] def us := pt.2.2.2.2
@[irreducible] def L' : Addr := s.heap.objs.size
theorem hLc : s.heap.objs.size = L' := by delta L'; rfl
theorem main : Sdedup_spec w loose mean mg mb dp un gd cn cs a ccd cl outer A₀ base h₀ L m s Q E ea vs ne us := by
 unfold Sdedup_spec Qdedup_spec
 intro B F X T hk hea hus hvs hdp hun ret
 refine wpAny_call ?_
 k_dflt (refine' enter_plainTC (L' := L') (hL := ?hL) ?k1 ?k2 ?k3 ?k5 ?kA ?kF ?kK ?k6 ?k7 ?k8 ?k9 ?kB ?_ ?c2 ?c3 ?c4 ?c5; (case kA | kF => exact rfl); (case kK => assumption); (case k1 | k2 => k_asm); (case hL => exact hLc); (case k3 | k5 => k_asm); (case k6 | k7 => k_is); (case k8 => ktr_room); (case k9 => exact BindsTo.of_eq rfl); (case kB => exact locs rfl); (case c2 | c3 | c4 => exact rfl); (case c5 => decide); intro h' tk' F' N' B' X' T'; (try dsimp only); (try k_fold))
 rename Fr s.heap L' _ _ => F1
 replace F1 : Fr s.heap L' h' (fun y => List.lookup y [(oS "unhashable_params", .ref ea)]) := by with_unfolding_all exact F1
 k_steps
 rename Fr s.heap L' _ _ => F2
 rename News s.heap L' _ _ => N2
 obtain ⟨D, eD⟩ := nmN N2; subst eD
 have F3 := fr_over [(oS "new_unhashable", .ref D), (oS "unhashable_params", .ref ea)] F2 (by with_unfolding_all exact ⟨rfl, rfl, trivial⟩)
 clear F2
 with_unfolding_all refine For_turns F3 ?_
 k_steps
 refine Halt.mk ?_
 with_unfolding_all refine turns_base (by rfl) F3 N2 (isl0 hea) fun I hI => items_J (J := fun n m₁ news₁ => ∃ ds dn r, m₁ = over [(oS "new_unhashable", .ref D), (oS "unhashable_params", .ref ea)] r ∧ news₁ = [(D, lst ds dn)] ∧ AllAt WdAt s.heap ds ((us.take n).foldl addNew [])) ?turn ?fin _ 0 _ _ (Nat.zero_add _) ⟨[], 0, _, rfl, rfl, AllAt.nil⟩
 case turn =>
   have lID : @LT.lt Nat _ D I := hI _ (.head _)
   clear hI N2 F3
   rintro n x v m₁ news₁ h tk hget hv ⟨ds, dn, r, rfl, rfl, hds⟩ F5
   intro oI hcI N5
   have hv' := vals_get hget hv
   simp only [List.cons_append, List.nil_append] at N5
   replace F5 : Fr s.heap L' h _ := F5
   replace N5 : News s.heap L' h _ := N5
   have hnlt : n < vs.length := by
     rcases Nat.lt_or_ge n vs.length with q | q
     . exact q
     . rw [List.getElem?_eq_none q] at hv'; cases hv'
   obtain ⟨v2, u, e1, e2, hu⟩ := hus.get hnlt
   rw [hv'] at e1; cases e1
   have hft : (us.take (n + 1)).foldl addNew [] = addNew ((us.take n).foldl addNew []) u := fold_take _ _ _ e2
   have hlen := foldNew_len (us.take n) []
   have hdl := hds.1
   rw [List.length_take] at hlen
   simp only [List.length_nil, Nat.zero_add] at hlen
   obtain ⟨av, rfl, hav⟩ := hu
   k_steps
   rename Fr s.heap L' _ _ => F9
   rename News s.heap L' _ _ => N9
   refine notin_words (N9 _ (.tail _ (.head _))).1 (hds.keep fun v x q => q.ks (KS.of F9.keep)) ⟨av, rfl, hav.ks (KS.of F9.keep)⟩ (by show un + 3 + 64 < 9900; omega) ?_
   by_cases c : u ∈ (us.take n).foldl addNew []
   . rw [decide_eq_true c]
     try dsimp only [Bool.not_true]
     k_steps
     rename Fr s.heap L' _ _ => F11
     rename News s.heap L' _ _ => N11
     refine Halt.mk ?_
     refine unr_end (news' := [(D, lst ds dn)]) (fr_over [(oS "new_unhashable", .ref D), (oS "unhashable_params", .ref ea)] F11 (by with_unfolding_all exact ⟨rfl, rfl, trivial⟩)) N11 (sub1 (by k_mem)) (fun p hp => .tail _ hp) (fun p hp q hq => by rw [List.mem_singleton.mp hp, List.mem_singleton.mp hq]; exact Nat.ne_of_lt lID) ⟨trivial, ds, dn, _, rfl, rfl, ?_⟩
     rw [hft, addNew, if_pos c]; exact hds
   . rw [decide_eq_false c]
     try dsimp only [Bool.not_false]
     k_steps
     rename Fr s.heap L' _ _ => F11
     rename News s.heap L' _ _ => N11
     refine Halt.mk ?_
     have N12 := push_lst N11
     refine unr_end (news' := [(D, lst (ds ++ [.ref av]) (dn + 1))]) (fr_over [(oS "new_unhashable", .ref D), (oS "unhashable_params", .ref ea)] F11 (by with_unfolding_all exact ⟨rfl, rfl, trivial⟩)) N12 (sub1 (by k_mem)) (fun p hp => .tail _ hp) (fun p hp q hq => by rw [List.mem_singleton.mp hp, List.mem_singleton.mp hq]; exact Nat.ne_of_lt lID) ⟨trivial, _, _, _, rfl, rfl, ?_⟩
     rw [hft, addNew, if_neg c]; exact hds.push ⟨av, rfl, hav⟩
 case fin =>
   rintro m₁ news₁ h tk ⟨ds, dn, r, rfl, rfl, hds⟩ F5 N5
   clear hI N2 F3
   replace F5 : Fr s.heap L' h _ := F5
   replace N5 : News s.heap L' h _ := N5
   rw [List.length_map, hus.1, List.take_length] at hds
   try dsimp only
   k_steps
   rename Fr h₀ L _ m => kF9
   exact ret D _ _ ds dn kF9 F5.keep (N5 _ (.head _)).2.2 (N5 _ (.head _)).1 (hds.keep fun v x q => q.ks (KS.of F5.keep))
end Cdedup_spec
theorem dedup_spec : ∀ w loose mean mg mb dp un gd cn cs a ccd cl outer A₀ base h₀ L m s Q E (B : Below A₀ base outer h₀) (F : Fr h₀ L s.heap m) (X : (Mine.KR w.params).In h₀) (T : Top topProg loose mean mg mb h₀) (hk : cs.kind = .function) ea vs ne us, Qdedup_spec w dp un gd cn cs a ccd cl outer h₀ L m s Q E ea vs ne us :=
 fun w loose mean mg mb dp un gd cn cs a ccd cl outer A₀ base h₀ L m s Q E B F X T hk ea vs ne us => drink ndedup_spec Pdedup_spec (by with_unfolding_all exact Cdedup_spec.main) (((((w, loose), (mean, mg)), ((mb, dp), un)), (((gd, cn), cs), ((a, ccd), cl))), ((((outer, A₀), (base, h₀)), ((L, m), s)), (((Q, E), ea), ((vs, ne), us)))) B F X T hk
end
end Mine
end
noncomputable section
example : True := by w_top off; trivial
namespace Mine
open LCg (NsObj CompEnd Off3 Off3.mem Off3.of)
open LCt (CompRestT)
section
variable {prog : Program} {w : World} {A : Around} {s : Shared} {h₀ : Heap} {L : Addr} {m : Str -> Option Value} {env : Env}
def TurnT (prog : Program) (w : World) (A : Around) (h₀ : Heap) (L : Addr) (m : Str -> Option Value) (env : Env) (s : Shared) (ct elt : Expr) (x : Str) (scope : Scope) (cl : List (Str × Addr)) (S : List (Addr × Obj) -> Prop) (P : Nat -> Value -> Prop) (J : Nat -> List Value -> List (Addr × Obj) -> Prop) (n : Nat) : Prop :=
 ∀ i v ys news I oI C oC D m₂ h tk (E' : Value -> Shared -> Prop), i < n -> P i v -> J i ys news -> NsObj oC m₂ -> m₂ x = some v -> Fr h₀ L h m -> News h₀ L h ((I, oI) :: (C, oC) :: (D, LCg.lst ys) :: news) -> Off3 I C D news -> ((@Ne Nat I C) ∧ (@Ne Nat I D) ∧ (@Ne Nat C D)) ->
   wpAny (model prog w) A (isTrue ct (compEnvC scope cl C env) (eval ct (compEnvC scope cl C env))) (fun ok s' => if ok = true then
       wpAny (model prog w) A (eval elt (compEnvC scope cl C env)) (CompEnd h₀ L m { s with heap := h, toks := tk } I oI C oC D (LCg.lst ys) S (fun y news' => J (i + 1) (ys ++ [y]) news')) E' s'
       else CompEnd h₀ L m { s with heap := h, toks := tk } I oI C oC D (LCg.lst ys) S (fun _ news' => J (i + 1) ys news') Value.none s') E' { s with heap := h, toks := tk }
theorem compRestT_J {ct elt : Expr} {x : Str} {scope : Scope} {cl : List (Str × Addr)} {S : List (Addr × Obj) -> Prop} {P : Nat -> Value -> Prop} {Fin : List Value -> List (Addr × Obj) -> Prop} {J : Nat -> List Value -> List (Addr × Obj) -> Prop} {n : Nat}
   (turn : TurnT prog w A h₀ L m env s ct elt x scope cl S P J n) (fin : ∀ ys news, J n ys news -> Fin ys news) :
   ∀ k i ys news, i + k = n -> J i ys news -> CompRestT prog w A h₀ L m env ct elt x scope cl s S P Fin k i ys news := by
 intro k
 induction k with
 | zero =>
   intro i ys news e j
   have : i = n := by lia
   subst this
   exact fin ys news j
 | succ k ih =>
   intro i ys news e j v I oI C oC D m₂ h tk E' hP hC hx F N off ne
   have nx := fun ys' n' => ih (i + 1) ys' n' (by lia)
   exact wpAny_mono (turn i v ys news I oI C oC D m₂ h tk E' (by lia) hP j hC hx F N off ne) (fun ok s' q => by
     cases ok with
     | true => exact wpAny_mono q (fun _ _ => compEnd_imp fun _ => nx _ _) fun _ _ e => e
     | false =>
       rw [if_neg Bool.false_ne_true] at q ⊢
       exact compEnd_imp (fun _ => nx _ _) q) fun _ _ e => e
end
end Mine
end
noncomputable section
example : True := by w_top off; trivial
namespace Mine
variable {i0 d0 i1 d1 d e : Int} {u v w : Wd} {r : Rl} {rs rs' R0 : List Rl}
theorem Led.cons (hr : r ∈ rs) (hf : Fits u r.1) (l : Led rs (u.swap r.1 r.2) v) : Led rs u v := by
 induction l with
 | nil => exact .step (.nil _) hr hf
 | step _ hr' hf' ih => exact .step ih hr' hf'
theorem Led.trans (l : Led rs u v) (l' : Led rs v w) : Led rs u w := by
 induction l' with
 | nil => exact l
 | step _ hr hf ih => exact .step ih hr hf
theorem Led.mono (h : ∀ r ∈ rs, r ∈ rs') (l : Led rs u v) : Led rs' u v := by
 induction l with
 | nil => exact .nil _
 | step _ hr hf ih => exact .step ih (h _ hr) hf
theorem Led.head (l : Led rs u v) : u = v ∨ ∃ r ∈ rs, Fits u r.1 ∧ Led rs (u.swap r.1 r.2) v := by
 induction l with
 | nil => exact .inl rfl
 | step l hr hf ih =>
   rcases ih with rfl | ⟨r', hr', hf', l'⟩
   . exact .inr ⟨_, hr, hf, .nil _⟩
   . exact .inr ⟨r', hr', hf', .step l' hr hf⟩
noncomputable def ext (u : Wd) (q : Int) : Wd := (u.1 + hit q 0, u.2.1 + hit q 1, u.2.2 + hit q 2)
def Let (q : Int) : Prop := q = 0 ∨ q = 1 ∨ q = 2
theorem hit_nn (p c : Int) : 0 ≤ hit p c ∧ hit p c ≤ 1 := by unfold hit; split <;> lia
theorem hit_sum {q : Int} (h : Let q) : hit q 0 + hit q 1 + hit q 2 = 1 := by
 rcases h with rfl | rfl | rfl <;> rfl
theorem wth_one {q : Int} : wth u [q] = ext u q := by
 unfold wth ext
 rw [count1, count1, count1]
theorem wth_nil : wth u [] = u := by simp [wth]
theorem ext_nn {q : Int} (h : Let q) (n : Nn d u) : Nn (d + 1) (ext u q) := by
 obtain ⟨a, b, c, s⟩ := n
 have := hit_nn q 0
 have := hit_nn q 1
 have := hit_nn q 2
 have := hit_sum h
 refine ⟨?_, ?_, ?_, ?_⟩ <;> simp only [ext] <;> lia
theorem ext_fits {q : Int} {h : Wd} (f : Fits u h) : Fits (ext u q) h := by
 obtain ⟨a, b, c⟩ := f
 have := hit_nn q 0
 have := hit_nn q 1
 have := hit_nn q 2
 refine ⟨?_, ?_, ?_⟩ <;> simp only [ext] <;> lia
theorem ext_swap {q : Int} {h t : Wd} : (ext u q).swap h t = ext (u.swap h t) q := by
 simp only [ext, Wd.swap, Prod.mk.injEq]
 refine ⟨?_, ?_, ?_⟩ <;> lia
theorem Led.ext {q : Int} (l : Led rs u v) : Led rs (ext u q) (ext v q) := by
 induction l with
 | nil => exact .nil _
 | step _ hr hf ih => exact ext_swap ▸ Led.step ih hr (ext_fits hf)
def Join (rs : List Rl) (u v : Wd) : Prop := ∃ w, Led rs u w ∧ Led rs v w
theorem Join.mono (h : ∀ r ∈ rs, r ∈ rs') : Join rs u v -> Join rs' u v := fun ⟨w, a, b⟩ => ⟨w, a.mono h, b.mono h⟩
theorem Join.ext {q : Int} : Join rs u v -> Join rs (ext u q) (Mine.ext v q) := fun ⟨w, a, b⟩ => ⟨_, a.ext, b.ext⟩
theorem Join.refl : Join rs u u := ⟨_, .nil _, .nil _⟩
theorem Join.symm : Join rs u v -> Join rs v u := fun ⟨w, a, b⟩ => ⟨w, b, a⟩
theorem done_or (rs : List Rl) (u : Wd) : Done rs u ∨ ∃ r ∈ rs, Fits u r.1 := by
 by_cases h : ∃ r ∈ rs, Fits u r.1
 . exact .inr h
 . exact .inl fun r hr hf => h ⟨r, hr, hf⟩
theorem down_ex (K : Keys i0 d0 i1 d1) (hd : d ≤ 3) (ok : OkR i0 d0 i1 d1 rs) : ∀ (n : Nat) (u : Wd), mu i0 d0 i1 d1 u < n -> Nn d u -> ∃ v, Down rs u v
 | 0, _, h, _ => absurd h (Nat.not_lt_zero _)
 | n + 1, u, h, nn => by
   rcases done_or rs u with dn | ⟨r, hr, hf⟩
   . exact ⟨u, .nil _, dn⟩
   . obtain ⟨e, o⟩ := ok r hr
     obtain ⟨nn', lt⟩ := mu_step K hd nn o hf
     obtain ⟨v, l, dn⟩ := down_ex K hd ok n _ (by lia) nn'
     exact ⟨v, l.cons hr hf, dn⟩
theorem led_le (K : Keys i0 d0 i1 d1) (hd : d ≤ 3) (ok : OkR i0 d0 i1 d1 rs) (n : Nn d u) (l : Led rs u v) : u = v ∨ mu i0 d0 i1 d1 v < mu i0 d0 i1 d1 u := by
 induction l with
 | nil => exact .inl rfl
 | step l hr hf ih =>
   obtain ⟨e, o⟩ := ok _ hr
   have z := (mu_step K hd (led_nn ok n l) o hf).2
   rcases ih with q | q
   . subst q; exact .inr z
   . exact .inr (by lia)
def Local (d : Int) (rs : List Rl) : Prop := ∀ u, Nn d u -> ∀ r ∈ rs, ∀ r' ∈ rs, Fits u r.1 -> Fits u r'.1 -> Join rs (u.swap r.1 r.2) (u.swap r'.1 r'.2)
theorem newman (K : Keys i0 d0 i1 d1) (hd : d ≤ 3) (ok : OkR i0 d0 i1 d1 rs) (loc : Local d rs) : ∀ (n : Nat) (u v v' : Wd), mu i0 d0 i1 d1 u < n -> Nn d u -> Down rs u v -> Down rs u v' -> v = v'
 | 0, _, _, _, h, _, _, _ => absurd h (Nat.not_lt_zero _)
 | n + 1, u, v, v', h, nn, ⟨l, dn⟩, ⟨l', dn'⟩ => by
   rcases l.head with rfl | ⟨r, hr, hf, k⟩
   . rcases l'.head with q | ⟨r', hr', hf', _⟩
     . exact q
     . exact absurd hf' (dn _ hr')
   . rcases l'.head with rfl | ⟨r', hr', hf', k'⟩
     . exact absurd hf (dn' _ hr)
     . obtain ⟨x, a, b⟩ := loc u nn r hr r' hr' hf hf'
       obtain ⟨e, o⟩ := ok _ hr
       obtain ⟨e', o'⟩ := ok _ hr'
       obtain ⟨n1, m1⟩ := mu_step K hd nn o hf
       obtain ⟨n2, m2⟩ := mu_step K hd nn o' hf'
       obtain ⟨z, lz, dz⟩ := down_ex K hd ok _ x (Nat.lt_succ_self _) (led_nn ok n1 a)
       rw [newman K hd ok loc n _ v z (by lia) n1 ⟨k, dn⟩ ⟨a.trans lz, dz⟩, newman K hd ok loc n _ v' z (by lia) n2 ⟨k', dn'⟩ ⟨b.trans lz, dz⟩]
theorem join_end (K : Keys i0 d0 i1 d1) (hd : d ≤ 3) (ok : OkR i0 d0 i1 d1 rs) (loc : Local d rs) {a b : Wd} (n : Nn d u) (n' : Nn d v) (j : Join rs u v) (ha : Down rs u a) (hb : Down rs v b) : a = b := by
 obtain ⟨x, p, q⟩ := j
 obtain ⟨z, lz, dz⟩ := down_ex K hd ok _ x (Nat.lt_succ_self _) (led_nn ok n p)
 rw [newman K hd ok loc _ u a z (Nat.lt_succ_self _) n ha ⟨p.trans lz, dz⟩, newman K hd ok loc _ v b z (Nat.lt_succ_self _) n' hb ⟨q.trans lz, dz⟩]
theorem learn_sub {u1 u2 : Wd} (h : Learn i0 d0 i1 d1 rs u1 u2 rs') : ∀ r ∈ rs, r ∈ rs' := by
 obtain ⟨v1, v2, _, _, rfl⟩ := h
 intro r hr
 split
 . exact List.mem_append_left _ hr
 . split
   . exact List.mem_append_left _ hr
   . exact hr
theorem nn3 (n : Nn d u) : 0 ≤ u.1 ∧ 0 ≤ u.2.1 ∧ 0 ≤ u.2.2 := ⟨n.1, n.2.1, n.2.2.1⟩
theorem eq_of_at (K : Keys i0 d0 i1 d1) (n : Nn d u) (n' : Nn d v) (a : Wd.at u i0 = Wd.at v i0) (b : Wd.at u i1 = Wd.at v i1) : u = v := by
 obtain ⟨⟨p, p'⟩, ⟨q, q'⟩, ne, _, _⟩ := K
 obtain ⟨x, y, z⟩ := u
 obtain ⟨x', y', z'⟩ := v
 have s := n.2.2.2
 have s' := n'.2.2.2
 simp only at s s'
 have c0 : i0 = 0 ∨ i0 = 1 ∨ i0 = 2 := by lia
 have c1 : i1 = 0 ∨ i1 = 1 ∨ i1 = 2 := by lia
 rcases c0 with rfl | rfl | rfl <;> rcases c1 with rfl | rfl | rfl <;> first | exact absurd rfl ne | (simp [Wd.at] at a b; simp only [Prod.mk.injEq]; lia)
theorem cmp_zero (K : Keys i0 d0 i1 d1) (n : Nn d u) (n' : Nn d v) (h : ¬ 0 < cmpP i0 d0 i1 d1 u v) (h' : ¬ cmpP i0 d0 i1 d1 u v < 0) : u = v := by
 rw [cmp_neg K, cmp_pos K] at h'
 rw [cmp_pos K] at h
 have e : Wd.at u i0 = Wd.at v i0 ∧ Wd.at u i1 = Wd.at v i1 := by
   obtain ⟨-, -, -, k0, k1⟩ := K
   revert h h'
   generalize Wd.at u i0 = p, Wd.at v i0 = p', Wd.at u i1 = q, Wd.at v i1 = q'
   intro h h'
   rcases k0 with rfl | rfl <;> rcases k1 with rfl | rfl <;> lia
 exact eq_of_at K n n' e.1 e.2
theorem swap_self : u.swap u v = v := by
 simp only [Wd.swap]
 refine Prod.ext ?_ (Prod.ext ?_ ?_) <;> simp only <;> lia
theorem learn_join {u1 u2 : Wd} (K : Keys i0 d0 i1 d1) (ok : OkR i0 d0 i1 d1 rs) (n1 : Nn d u1) (n2 : Nn d u2) (h : Learn i0 d0 i1 d1 rs u1 u2 rs') : Join rs' u1 u2 := by
 have sub := learn_sub h
 obtain ⟨v1, v2, h1, h2, e⟩ := h
 have m1 := led_nn ok n1 h1.1
 have m2 := led_nn ok n2 h2.1
 have l1 := h1.1.mono sub
 have l2 := h2.1.mono sub
 split at e
 . refine ⟨v2, ?_, l2⟩
   have := Led.step l1 (r := (v1, v2)) (by rw [e]; simp) (fits_self _)
   rwa [swap_self] at this
 . split at e
   . refine ⟨v1, l1, ?_⟩
     have := Led.step l2 (r := (v2, v1)) (by rw [e]; simp) (fits_self _)
     rwa [swap_self] at this
   . have := cmp_zero K m1 m2 ‹_› ‹_›
     subst this
     exact ⟨_, l1, l2⟩
end Mine
end
noncomputable section
example : True := by w_top off; trivial
namespace Mine
variable {i0 d0 i1 d1 d e : Int} {u v : Wd} {r : Rl} {rs rs' R0 : List Rl}
theorem fits_eq {h : Wd} (n : Nn d u) (n' : Nn d h) (f : Fits u h) : u = h := by
 obtain ⟨a, b, c, s⟩ := n
 obtain ⟨a', b', c', s'⟩ := n'
 obtain ⟨f1, f2, f3⟩ := f
 refine Prod.ext ?_ (Prod.ext ?_ ?_) <;> lia
theorem fits_no {h : Wd} (n : Nn 2 u) (n' : Nn 3 h) (f : Fits u h) : False := by
 obtain ⟨a, b, c, s⟩ := n
 obtain ⟨a', b', c', s'⟩ := n'
 obtain ⟨f1, f2, f3⟩ := f
 lia
theorem one_of {x y z : Int} (a : 0 ≤ x) (b : 0 ≤ y) (c : 0 ≤ z) (s : x + y + z = 1) : (x = 1 ∧ y = 0 ∧ z = 0) ∨ (x = 0 ∧ y = 1 ∧ z = 0) ∨ (x = 0 ∧ y = 0 ∧ z = 1) := by lia
theorem su {a b c : Int} (h : a - b = c) : a = b + c := Int.sub_eq_iff_eq_add'.mp h
theorem su0 {a b : Int} (h : a - b = 0) : a = b := Int.sub_eq_zero.mp h
theorem ext_of {h : Wd} (n : Nn 3 u) (n' : Nn 2 h) (f : Fits u h) : ∃ q, Let q ∧ u = ext h q := by
 obtain ⟨a, b, c, s⟩ := n
 obtain ⟨a', b', c', s'⟩ := n'
 obtain ⟨f1, f2, f3⟩ := f
 have : (u.1 = h.1 + 1 ∧ u.2.1 = h.2.1 ∧ u.2.2 = h.2.2) ∨ (u.1 = h.1 ∧ u.2.1 = h.2.1 + 1 ∧ u.2.2 = h.2.2) ∨ (u.1 = h.1 ∧ u.2.1 = h.2.1 ∧ u.2.2 = h.2.2 + 1) :=
   (one_of (Int.sub_nonneg_of_le f1) (Int.sub_nonneg_of_le f2) (Int.sub_nonneg_of_le f3) (by lia)).imp (fun q => ⟨su q.1, su0 q.2.1, su0 q.2.2⟩) (Or.imp (fun q => ⟨su0 q.1, su q.2.1, su0 q.2.2⟩) (fun q => ⟨su0 q.1, su0 q.2.1, su q.2.2⟩))
 rcases this with ⟨x, y, z⟩ | ⟨x, y, z⟩ | ⟨x, y, z⟩
 . exact ⟨0, .inl rfl, Prod.ext (x.trans (by simp [ext, hit])) (Prod.ext (y.trans (by simp [ext, hit])) (z.trans (by simp [ext, hit])))⟩
 . exact ⟨1, .inr (.inl rfl), Prod.ext (x.trans (by simp [ext, hit])) (Prod.ext (y.trans (by simp [ext, hit])) (z.trans (by simp [ext, hit])))⟩
 . exact ⟨2, .inr (.inr rfl), Prod.ext (x.trans (by simp [ext, hit])) (Prod.ext (y.trans (by simp [ext, hit])) (z.trans (by simp [ext, hit])))⟩
theorem ext_inj {q : Int} {h h' : Wd} (e : ext h q = ext h' q) : h = h' := by
 simp only [ext, Prod.mk.injEq] at e
 refine Prod.ext ?_ (Prod.ext ?_ ?_) <;> lia
theorem heads_inj {l : List Rl} {r r' : Rl} (h : l.Pairwise (fun a b => a.1 ≠ b.1)) (a : r ∈ l) (b : r' ∈ l) (e : r.1 = r'.1) : r = r' := by
 induction l with
 | nil => cases a
 | cons x l ih =>
   rw [List.pairwise_cons] at h
   rcases List.mem_cons.mp a with a' | a'
   . rcases List.mem_cons.mp b with b' | b'
     . exact a'.trans b'.symm
     . exact absurd (a' ▸ e) (h.1 _ b')
   . rcases List.mem_cons.mp b with b' | b'
     . exact absurd (b' ▸ e.symm) (h.1 _ a')
     . exact ih h.2 a' b'
theorem heads_ne {l : List Rl} (h : l.Pairwise fun a b => a.1 ≠ b.1) {k m : Nat} {a b : Rl} (x : l[k]? = some a) (y : l[m]? = some b) (lt : m < k) : a.1 ≠ b.1 := by
 obtain ⟨hk, rfl⟩ := List.getElem?_eq_some_iff.mp x
 obtain ⟨hm, rfl⟩ := List.getElem?_eq_some_iff.mp y
 exact (List.pairwise_iff_getElem.mp h m k hm hk lt).symm
theorem lcm_of {a b : Wd} {p q : Int} (na : Nn 2 a) (nb : Nn 2 b) (ne : a ≠ b) (hp : Let p) (hq : Let q) (e : ext a q = ext b p) (n : Nn 3 u) (fa : Fits u a) (fb : Fits u b) : u = ext a q := by
 obtain ⟨x0, x1, x2, sx⟩ := na
 obtain ⟨y0, y1, y2, sy⟩ := nb
 obtain ⟨z0, z1, z2, sz⟩ := n
 obtain ⟨f1, f2, f3⟩ := fa
 obtain ⟨g1, g2, g3⟩ := fb
 simp only [ext, Prod.mk.injEq] at e
 obtain ⟨e0, e1, e2⟩ := e
 have ne' : ¬ (a.1 = b.1 ∧ a.2.1 = b.2.1 ∧ a.2.2 = b.2.2) := fun ⟨i, j, k⟩ => ne (Prod.ext i (Prod.ext j k))
 rcases hp with rfl | rfl | rfl <;> rcases hq with rfl | rfl | rfl <;> simp [hit] at e0 e1 e2 <;> refine Prod.ext ?_ (Prod.ext ?_ ?_) <;> simp [ext, hit] <;> omega
theorem lcm_no {a b : Wd} (na : Nn 2 a) (nb : Nn 2 b) (h0 : a.1 = 0 ∨ b.1 = 0) (h1 : a.2.1 = 0 ∨ b.2.1 = 0) (h2 : a.2.2 = 0 ∨ b.2.2 = 0) (n : Nn 3 u) (fa : Fits u a) (fb : Fits u b) : False := by
 obtain ⟨x0, x1, x2, sx⟩ := na
 obtain ⟨y0, y1, y2, sy⟩ := nb
 obtain ⟨z0, z1, z2, sz⟩ := n
 obtain ⟨f1, f2, f3⟩ := fa
 obtain ⟨g1, g2, g3⟩ := fb
 omega
def Three (i0 d0 i1 d1 : Int) (R0 rs : List Rl) : Prop := ∃ R3, rs = R0 ++ R3 ∧ (∀ r ∈ R3, RuleOk i0 d0 i1 d1 3 r ∧ Done R0 r.1) ∧ R3.Pairwise fun a b => a.1 ≠ b.1
theorem Three.step {u1 u2 : Wd} (K : Keys i0 d0 i1 d1) (ok : OkR i0 d0 i1 d1 rs) (T : Three i0 d0 i1 d1 R0 rs) (n1 : Nn 3 u1) (n2 : Nn 3 u2) (h : Learn i0 d0 i1 d1 rs u1 u2 rs') : Three i0 d0 i1 d1 R0 rs' := by
 rcases learn_new K ok n1 n2 h with rfl | ⟨r, rfl, ro, dn⟩
 . exact T
 . obtain ⟨R3, rfl, a, b⟩ := T
   refine ⟨R3 ++ [r], by simp, fun r' hr => ?_, List.pairwise_append.mpr ⟨b, List.pairwise_singleton _ _, fun x hx y hy q => ?_⟩⟩
   . rcases List.mem_append.mp hr with q | q
     . exact a _ q
     . rw [List.mem_singleton.mp q]; exact ⟨ro, fun x hx => dn x (List.mem_append_left _ hx)⟩
   . rw [List.mem_singleton.mp hy] at q
     exact dn x (List.mem_append_right _ hx) (q ▸ fits_self _)
def SR (g : Wd -> Int) (r : Rl) : Prop := ∀ v, Nn 2 v ∨ Nn 3 v -> Fits v r.1 -> g (v.swap r.1 r.2) = g v
variable {g : Wd -> Int}
theorem sr_led (ok : OkR i0 d0 i1 d1 rs) (H : ∀ r ∈ rs, SR g r) (n : Nn 2 u ∨ Nn 3 u) (l : Led rs u v) : g v = g u := by
 induction l with
 | nil => rfl
 | step l hr hf ih => exact (H _ hr _ (n.imp (led_nn ok · l) (led_nn ok · l)) hf).trans ih
theorem sr_two {h t : Wd} (n1 : Nn 2 h) (e : g h = g t) (e' : ∀ q, Let q -> g (ext h q) = g (ext t q)) : SR g (h, t) := fun v n f => by
 rcases n with n | n
 . rw [fits_eq n n1 f, swap_self]; exact e.symm
 . obtain ⟨q, hq, rfl⟩ := ext_of n n1 f
   rw [ext_swap, swap_self]; exact (e' q hq).symm
theorem sr_three {h t : Wd} (n1 : Nn 3 h) (e : g h = g t) : SR g (h, t) := fun v n f => by
 rcases n with n | n
 . exact (fits_no n n1 f).elim
 . rw [fits_eq n n1 f, swap_self]; exact e.symm
theorem snd_learn2 {u1 u2 : Wd} (ok : OkR i0 d0 i1 d1 rs) (H : ∀ r ∈ rs, SR g r) (n1 : Nn 2 u1) (n2 : Nn 2 u2) (e : g u1 = g u2) (e' : ∀ q, Let q -> g (ext u1 q) = g (ext u2 q)) (h : Learn i0 d0 i1 d1 rs u1 u2 rs') : ∀ r ∈ rs', SR g r := by
 obtain ⟨v1, v2, h1, h2, rfl⟩ := h
 have m1 := led_nn ok n1 h1.1
 have m2 := led_nn ok n2 h2.1
 have f : g v1 = g v2 := (sr_led ok H (.inl n1) h1.1).trans (e.trans (sr_led ok H (.inl n2) h2.1).symm)
 have f' : ∀ q, Let q -> g (ext v1 q) = g (ext v2 q) := fun q hq => (sr_led ok H (.inr (ext_nn hq n1)) h1.1.ext).trans ((e' q hq).trans (sr_led ok H (.inr (ext_nn hq n2)) h2.1.ext).symm)
 intro r hr
 split at hr
 . rcases List.mem_append.mp hr with q | q
   . exact H _ q
   . rw [List.mem_singleton.mp q]; exact sr_two m1 f f'
 . split at hr
   . rcases List.mem_append.mp hr with q | q
     . exact H _ q
     . rw [List.mem_singleton.mp q]; exact sr_two m2 f.symm fun q hq => (f' q hq).symm
   . exact H _ hr
theorem snd_learn3 {u1 u2 : Wd} (ok : OkR i0 d0 i1 d1 rs) (H : ∀ r ∈ rs, SR g r) (n1 : Nn 3 u1) (n2 : Nn 3 u2) (e : g u1 = g u2) (h : Learn i0 d0 i1 d1 rs u1 u2 rs') : ∀ r ∈ rs', SR g r := by
 obtain ⟨v1, v2, h1, h2, rfl⟩ := h
 have m1 := led_nn ok n1 h1.1
 have m2 := led_nn ok n2 h2.1
 have f : g v1 = g v2 := (sr_led ok H (.inr n1) h1.1).trans (e.trans (sr_led ok H (.inr n2) h2.1).symm)
 intro r hr
 split at hr
 . rcases List.mem_append.mp hr with q | q
   . exact H _ q
   . rw [List.mem_singleton.mp q]; exact sr_three m1 f
 . split at hr
   . rcases List.mem_append.mp hr with q | q
     . exact H _ q
     . rw [List.mem_singleton.mp q]; exact sr_three m2 f.symm
   . exact H _ hr
def Resp (ties : List (Wd × Wd)) (g : Wd -> Int) : Prop := ∀ t ∈ ties, g t.1 = g t.2 ∧ ∀ q, Let q -> g (ext t.1 q) = g (ext t.2 q)
theorem learnAll_ok {ties : List (Wd × Wd)} (K : Keys i0 d0 i1 d1) (h : LearnAll i0 d0 i1 d1 ties R0) (n : ∀ t ∈ ties, Nn 2 t.1 ∧ Nn 2 t.2) :
   OkR i0 d0 i1 d1 R0 ∧ (∀ t ∈ ties, Join R0 t.1 t.2) ∧ ∀ g, Resp ties g -> ∀ r ∈ R0, SR g r := by
 induction h with
 | nil => exact ⟨fun _ h => by simp at h, fun _ h => by simp at h, fun _ _ _ h => by simp at h⟩
 | snoc _ hl ih =>
   obtain ⟨ok, j, s⟩ := ih fun t ht => n t (List.mem_append_left _ ht)
   obtain ⟨n1, n2⟩ := n _ (List.mem_append_right _ (List.mem_singleton.mpr rfl))
   refine ⟨(ok.step K n1 n2 hl).1, fun t ht => ?_, fun g hg => ?_⟩
   . rcases List.mem_append.mp ht with q | q
     . exact (j _ q).mono (learn_sub hl)
     . rw [List.mem_singleton.mp q]; exact learn_join K ok n1 n2 hl
   . obtain ⟨e, e'⟩ := hg _ (List.mem_append_right _ (List.mem_singleton.mpr rfl))
     exact snd_learn2 ok (s g fun t ht => hg t (List.mem_append_left _ ht)) n1 n2 e e' hl
def PairJ (R0 rs : List Rl) (a b : Rl) : Prop := ∀ u, Nn 3 u -> Fits u a.1 -> Fits u b.1 -> Join rs (u.swap a.1 a.2) (u.swap b.1 b.2)
theorem pairs_ok {ps : List (Nat × Nat)} (K : Keys i0 d0 i1 d1) (o2 : Ok2 i0 d0 i1 d1 R0) (h : PairsAll i0 d0 i1 d1 R0 ps rs) (lt : ∀ p ∈ ps, p.2 < p.1) :
   OkR i0 d0 i1 d1 rs ∧ Three i0 d0 i1 d1 R0 rs ∧ (∀ p ∈ ps, ∀ a b, R0[p.1]? = some a -> R0[p.2]? = some b -> PairJ R0 rs a b) ∧ ∀ g, (∀ r ∈ R0, SR g r) -> ∀ r ∈ rs, SR g r := by
 induction h with
 | nil => exact ⟨o2.okR, ⟨[], by simp, fun _ h => by simp at h, .nil⟩, fun _ h => by simp at h, fun _ h => h⟩
 | @snoc ps rs k m a b rs' _ ha hb hs ih =>
   obtain ⟨ok, T, j, s⟩ := ih fun p hp => lt p (List.mem_append_left _ hp)
   have hlt : m < k := lt (k, m) (List.mem_append_right _ (List.mem_singleton.mpr rfl))
   have ne := heads_ne o2.2 ha hb hlt
   have ra := List.mem_of_getElem? ha
   have rb := List.mem_of_getElem? hb
   obtain ⟨na, na', -⟩ := o2.1 _ ra
   obtain ⟨nb, nb', -⟩ := o2.1 _ rb
   obtain ⟨l0, l1, hr, hs⟩ := hs
   rcases hr with ⟨z0, z1, c0, c1, c2⟩ | ⟨p, q, rfl, rfl, hp, hq, s0, s1, s2⟩
   . obtain rfl : rs' = rs := by
       rcases hs with ⟨y, _⟩ | ⟨_, _, y⟩
       . lia
       . exact y
     refine ⟨ok, T, fun x hx a' b' ha' hb' => ?_, s⟩
     rcases List.mem_append.mp hx with y | y
     . exact j x y a' b' ha' hb'
     . rw [List.mem_singleton.mp y] at ha' hb'
       rw [ha] at ha'; rw [hb] at hb'
       cases ha'; cases hb'
       exact fun u n fa fb => (lcm_no na nb c0 c1 c2 n fa fb).elim
   . have hl : Learn i0 d0 i1 d1 rs (ext a.2 q) (ext b.2 p) rs' := by
       rcases hs with ⟨_, _, y⟩ | ⟨y, _⟩
       . rw [wth_one, wth_one] at y; exact y
       . simp at y
     have n1 := ext_nn hq na'
     have n2 := ext_nn hp nb'
     have ee : ext a.1 q = ext b.1 p := by
       simp only [ext, Prod.mk.injEq]; exact ⟨s0, s1, s2⟩
     have jj := learn_join K ok n1 n2 hl
     refine ⟨(ok.step K n1 n2 hl).1, T.step K ok n1 n2 hl, fun x hx a' b' ha' hb' => ?_, fun g hg => ?_⟩
     . rcases List.mem_append.mp hx with y | y
       . exact fun u n fa fb => (j x y a' b' ha' hb' u n fa fb).mono (learn_sub hl)
       . rw [List.mem_singleton.mp y] at ha' hb'
         rw [ha] at ha'; rw [hb] at hb'
         cases ha'; cases hb'
         intro u n fa fb
         have e1 := lcm_of na nb ne hp hq ee n fa fb
         have e2 : u = ext b.1 p := e1.trans ee
         have x1 : u.swap a.1 a.2 = ext a.2 q := by rw [e1, ext_swap, swap_self]
         have x2 : u.swap b.1 b.2 = ext b.2 p := by rw [e2, ext_swap, swap_self]
         rw [x1, x2]; exact jj
     . refine snd_learn3 ok (s g hg) n1 n2 ?_ hl
       have y1 := hg _ ra (ext a.1 q) (.inr (ext_nn hq na)) (ext_fits (fits_self _))
       have y2 := hg _ rb (ext b.1 p) (.inr (ext_nn hp nb)) (ext_fits (fits_self _))
       rw [ext_swap, swap_self] at y1 y2
       rw [y1, y2, ee]
theorem mem_ips {n k m : Nat} (h : m < k) (h' : k < n) : (k, m) ∈ ips n := by
 simp only [ips, ipr, List.mem_flatMap, List.mem_map, List.mem_range, Prod.mk.injEq]
 exact ⟨k, h', m, h, rfl, rfl⟩
theorem rules_do {ties : List (Wd × Wd)} (K : Keys i0 d0 i1 d1) (h : RulesP i0 d0 i1 d1 ties rs) (n : ∀ t ∈ ties, Nn 2 t.1 ∧ Nn 2 t.2) :
   OkR i0 d0 i1 d1 rs ∧ Local 2 rs ∧ Local 3 rs ∧ (∀ t ∈ ties, Join rs t.1 t.2) ∧ ∀ g, Resp ties g -> ∀ r ∈ rs, SR g r := by
 obtain ⟨R0, hl, o2, hp⟩ := h
 obtain ⟨-, j0, s0⟩ := learnAll_ok K hl n
 obtain ⟨ok, T, j, s⟩ := pairs_ok K o2 hp fun p hp => (ips_mem hp).1
 obtain ⟨R3, rfl, h3, p3⟩ := T
 have pj : ∀ r ∈ R0, ∀ r' ∈ R0, ∀ u, Nn 3 u -> Fits u r.1 -> Fits u r'.1 -> Join (R0 ++ R3) (u.swap r.1 r.2) (u.swap r'.1 r'.2) := by
   intro r hr r' hr' u nu f f'
   obtain ⟨k, hk⟩ := List.mem_iff_getElem?.mp hr
   obtain ⟨m, hm⟩ := List.mem_iff_getElem?.mp hr'
   have lk := (List.getElem?_eq_some_iff.mp hk).1
   have lm := (List.getElem?_eq_some_iff.mp hm).1
   rcases Nat.lt_trichotomy m k with c | c | c
   . exact j (k, m) (mem_ips c lk) _ _ hk hm u nu f f'
   . rw [c, hk] at hm; cases hm; exact .refl
   . exact (j (m, k) (mem_ips c lm) _ _ hm hk u nu f' f).symm
 refine ⟨ok, ?_, ?_, fun t ht => (j0 t ht).mono fun r hr => List.mem_append_left _ hr, fun g hg => s g (s0 g hg)⟩
 . intro u nu r hr r' hr' f f'
   rcases List.mem_append.mp hr with hr | hr
   . rcases List.mem_append.mp hr' with hr' | hr'
     . have := heads_inj o2.2 hr hr' ((fits_eq nu (o2.1 _ hr).1 f).symm.trans (fits_eq nu (o2.1 _ hr').1 f'))
       subst this
       exact .refl
     . exact (fits_no nu (h3 _ hr').1.1 f').elim
   . exact (fits_no nu (h3 _ hr).1.1 f).elim
 . intro u nu r hr r' hr' f f'
   rcases List.mem_append.mp hr with hr | hr
   . rcases List.mem_append.mp hr' with hr' | hr'
     . exact pj r hr r' hr' u nu f f'
     . have e := fits_eq nu (h3 _ hr').1.1 f'
       exact absurd (e ▸ f) ((h3 _ hr').2 _ hr)
   . have e := fits_eq nu (h3 _ hr).1.1 f
     rcases List.mem_append.mp hr' with hr' | hr'
     . exact absurd (e ▸ f') ((h3 _ hr).2 _ hr')
     . have := heads_inj p3 hr hr' (e.symm.trans (fits_eq nu (h3 _ hr').1.1 f'))
       subst this
       exact .refl
end Mine
end
noncomputable section
example : True := by w_top off; trivial
namespace Mine
variable {i0 d0 i1 d1 d e : Int} {u v : Wd} {ks : List Int}
theorem four {a : Int} (h : 0 ≤ a) (h' : a ≤ 3) : a ∈ ([0, 1, 2, 3] : List Int) := by
 simp only [List.mem_cons, List.not_mem_nil, or_false]; lia
theorem mem16 (h : Nn 2 u ∨ Nn 3 u) : u ∈ w16 := by
 have e : ∀ a ∈ ([0, 1, 2, 3] : List Int), ∀ b ∈ ([0, 1, 2, 3] : List Int), ∀ c ∈ ([0, 1, 2, 3] : List Int), Nn 2 (a, b, c) ∨ Nn 3 (a, b, c) -> (a, b, c) ∈ w16 := by unfold Nn; decide +kernel
 obtain ⟨a, b, c⟩ := u
 have q : (0 ≤ a ∧ a ≤ 3) ∧ (0 ≤ b ∧ b ≤ 3) ∧ 0 ≤ c ∧ c ≤ 3 := by rcases h with ⟨x, y, z, s⟩ | ⟨x, y, z, s⟩ <;> simp only at x y z s <;> lia
 exact e a (four q.1.1 q.1.2) b (four q.2.1.1 q.2.1.2) c (four q.2.2.1 q.2.2.2) h
theorem relab_get {h t : Int} {i : Nat} (hi : i < ks.length) : (relab h t ks).getD i 0 = if ks.getD i 0 = t then h else ks.getD i 0 := by
 simp [relab, List.getD, List.getElem?_eq_getElem hi]
theorem relab_same {h t : Int} {i j : Nat} (hi : i < ks.length) (hj : j < ks.length) (e : ks.getD i 0 = ks.getD j 0) : (relab h t ks).getD i 0 = (relab h t ks).getD j 0 := by
 rw [relab_get hi, relab_get hj, e]
theorem kstep_same {t : Wd × Wd} {more : List Int} {i j : Nat} (hl : ks.length = 16) (hi : i < 16) (hj : j < 16) (e : ks.getD i 0 = ks.getD j 0) : (kstep w16 t ks more).getD i 0 = (kstep w16 t ks more).getD j 0 := relab_same (hl ▸ hi) (hl ▸ hj) e
theorem kstep_new {t : Wd × Wd} {more : List Int} (hl : ks.length = 16) (h1 : wth t.1 more ∈ w16) (h2 : wth t.2 more ∈ w16) : (kstep w16 t ks more).getD (w16.idxOf (wth t.1 more)) 0 = (kstep w16 t ks more).getD (w16.idxOf (wth t.2 more)) 0 := by
 have a : w16.idxOf (wth t.1 more) < ks.length := hl ▸ List.idxOf_lt_length_iff.mpr h1
 have b : w16.idxOf (wth t.2 more) < ks.length := hl ▸ List.idxOf_lt_length_iff.mpr h2
 unfold kstep
 rw [relab_get a, relab_get b, if_pos rfl]
 split <;> rfl
theorem kstep_to {t : Wd × Wd} {more : List Int} {F : Nat -> Wd} (hl : ks.length = 16) (h1 : wth t.1 more ∈ w16) (h2 : wth t.2 more ∈ w16) (e : F (w16.idxOf (wth t.1 more)) = F (w16.idxOf (wth t.2 more)))
   (H : ∀ i j, i < 16 -> j < 16 -> ks.getD i 0 = ks.getD j 0 -> F i = F j) : ∀ i j, i < 16 -> j < 16 -> (kstep w16 t ks more).getD i 0 = (kstep w16 t ks more).getD j 0 -> F i = F j := by
 have a : w16.idxOf (wth t.1 more) < 16 := List.idxOf_lt_length_iff.mpr h1
 have b : w16.idxOf (wth t.2 more) < 16 := List.idxOf_lt_length_iff.mpr h2
 intro i j hi hj q
 unfold kstep at q
 rw [relab_get (hl ▸ hi), relab_get (hl ▸ hj)] at q
 split at q
 . rename_i c
   have x := (H _ _ hi b c).trans e.symm
   split at q
   . rename_i c'
     exact H _ _ hi hj (c.trans c'.symm)
   . exact x.trans (H _ _ a hj q)
 . split at q
   . rename_i c
     exact (H _ _ hi a q).trans (e.trans (H _ _ hj b c).symm)
   . exact H _ _ hi hj q
theorem ktie_same {t : Wd × Wd} {i j : Nat} (hi : i < 16) (hj : j < 16) : ∀ (l : List (List Int)) (ks : List Int), ks.length = 16 -> ks.getD i 0 = ks.getD j 0 -> (l.foldl (kstep w16 t) ks).getD i 0 = (l.foldl (kstep w16 t) ks).getD j 0
 | [], _, _, e => e
 | y :: l, ks, hl, e => ktie_same hi hj l _ (kstep_length.trans hl) (kstep_same hl hi hj e)
theorem ktie_new {t : Wd × Wd} : ∀ (l : List (List Int)) (ks : List Int), ks.length = 16 -> (∀ y ∈ l, wth t.1 y ∈ w16 ∧ wth t.2 y ∈ w16) -> ∀ y ∈ l, (l.foldl (kstep w16 t) ks).getD (w16.idxOf (wth t.1 y)) 0 = (l.foldl (kstep w16 t) ks).getD (w16.idxOf (wth t.2 y)) 0
 | [], _, _, _, _, h => by simp at h
 | x :: l, ks, hl, H, y, hy => by
   rcases List.mem_cons.mp hy with q | q
   . rw [q]
     have := H x (.head _)
     exact ktie_same (List.idxOf_lt_length_iff.mpr this.1) (List.idxOf_lt_length_iff.mpr this.2) l _ (kstep_length.trans hl) (kstep_new hl this.1 this.2)
   . exact ktie_new l _ (kstep_length.trans hl) (fun z hz => H z (.tail _ hz)) y q
theorem ktie_to {t : Wd × Wd} {F : Nat -> Wd} : ∀ (l : List (List Int)) (ks : List Int), ks.length = 16 -> (∀ y ∈ l, wth t.1 y ∈ w16 ∧ wth t.2 y ∈ w16) -> (∀ y ∈ l, F (w16.idxOf (wth t.1 y)) = F (w16.idxOf (wth t.2 y))) ->
   (∀ i j, i < 16 -> j < 16 -> ks.getD i 0 = ks.getD j 0 -> F i = F j) -> ∀ i j, i < 16 -> j < 16 -> (l.foldl (kstep w16 t) ks).getD i 0 = (l.foldl (kstep w16 t) ks).getD j 0 -> F i = F j
 | [], _, _, _, _, H => H
 | x :: l, ks, hl, h, f, H => ktie_to l _ (kstep_length.trans hl) (fun z hz => h z (.tail _ hz)) (fun z hz => f z (.tail _ hz)) (kstep_to hl (h x (.head _)).1 (h x (.head _)).2 (f x (.head _)) H)
theorem ties_same {i j : Nat} (hi : i < 16) (hj : j < 16) : ∀ (ts : List (Wd × Wd)) (ks : List Int), ks.length = 16 -> ks.getD i 0 = ks.getD j 0 -> (ts.foldl (ktie w16) ks).getD i 0 = (ts.foldl (ktie w16) ks).getD j 0
 | [], _, _, e => e
 | t :: ts, ks, hl, e => ties_same hi hj ts _ ((ktie_len _ _).trans hl) (ktie_same hi hj mores ks hl e)
def In16 (ts : List (Wd × Wd)) : Prop := ∀ t ∈ ts, ∀ y ∈ mores, wth t.1 y ∈ w16 ∧ wth t.2 y ∈ w16
theorem ties_new : ∀ (ts : List (Wd × Wd)) (ks : List Int), ks.length = 16 -> In16 ts -> ∀ t ∈ ts, ∀ y ∈ mores, (ts.foldl (ktie w16) ks).getD (w16.idxOf (wth t.1 y)) 0 = (ts.foldl (ktie w16) ks).getD (w16.idxOf (wth t.2 y)) 0
 | [], _, _, _, _, h, _, _ => by simp at h
 | x :: ts, ks, hl, H, t, ht, y, hy => by
   rcases List.mem_cons.mp ht with q | q
   . rw [q]
     have := H x (.head _) y hy
     exact ties_same (List.idxOf_lt_length_iff.mpr this.1) (List.idxOf_lt_length_iff.mpr this.2) ts _ ((ktie_len _ _).trans hl) (ktie_new mores ks hl (H x (.head _)) y hy)
   . exact ties_new ts _ ((ktie_len _ _).trans hl) (fun z hz => H z (.tail _ hz)) t q y hy
theorem ties_to {F : Nat -> Wd} : ∀ (ts : List (Wd × Wd)) (ks : List Int), ks.length = 16 -> In16 ts -> (∀ t ∈ ts, ∀ y ∈ mores, F (w16.idxOf (wth t.1 y)) = F (w16.idxOf (wth t.2 y))) ->
   (∀ i j, i < 16 -> j < 16 -> ks.getD i 0 = ks.getD j 0 -> F i = F j) -> ∀ i j, i < 16 -> j < 16 -> (ts.foldl (ktie w16) ks).getD i 0 = (ts.foldl (ktie w16) ks).getD j 0 -> F i = F j
 | [], _, _, _, _, H => H
 | x :: l, ks, hl, h, f, H => ties_to l _ ((ktie_len _ _).trans hl) (fun z hz => h z (.tail _ hz)) (fun z hz => f z (.tail _ hz)) (ktie_to mores ks hl (h x (.head _)) (f x (.head _)) H)
theorem ks0_get {i : Nat} (hi : i < 16) : ((List.range w16.length).map fun n : Nat => (n : Int)).getD i 0 = i := by
 have : w16.length = 16 := rfl
 rw [this]
 simp [List.getD, hi]
theorem kinds_to {ties : List (Wd × Wd)} {F : Nat -> Wd} (h : In16 ties) (f : ∀ t ∈ ties, ∀ y ∈ mores, F (w16.idxOf (wth t.1 y)) = F (w16.idxOf (wth t.2 y))) {i j : Nat} (hi : i < 16) (hj : j < 16) (e : (kindsP w16 ties).getD i 0 = (kindsP w16 ties).getD j 0) : F i = F j :=
 ties_to ties _ rfl h f (fun a b ha hb q => by
   rw [ks0_get ha, ks0_get hb] at q
   have : a = b := by lia
   rw [this]) i j hi hj e
theorem w16_get {i : Nat} (hi : i < 16) : w16[i]? = some (w16.getD i (0, 0, 0)) := by
 have : i < w16.length := hi
 simp [List.getD, List.getElem?_eq_getElem this]
theorem w16_idx (h : u ∈ w16) : w16.getD (w16.idxOf u) (0, 0, 0) = u := by
 have := List.idxOf_lt_length_iff.mpr h
 simp [List.getD, List.getElem?_eq_getElem this]
theorem w16_mem {i : Nat} (hi : i < 16) : w16.getD i (0, 0, 0) ∈ w16 := List.mem_of_getElem? (w16_get hi)
theorem mu_key (K : Keys i0 d0 i1 d1) (n : Nn 2 u ∨ Nn 3 u) (n' : Nn 2 v ∨ Nn 3 v) (h : mu i0 d0 i1 d1 u < mu i0 d0 i1 d1 v) :
   (kf i0 d0 i1 d1 u).1 < (kf i0 d0 i1 d1 v).1 ∨ (kf i0 d0 i1 d1 u).1 = (kf i0 d0 i1 d1 v).1 ∧ (kf i0 d0 i1 d1 u).2 < (kf i0 d0 i1 d1 v).2 := by
 obtain ⟨h0, h1, -, k0, k1⟩ := K
 have b : ∀ {w : Wd}, (Nn 2 w ∨ Nn 3 w) -> ∀ {i : Int}, 0 ≤ i ∧ i < 3 -> 0 ≤ Wd.at w i ∧ Wd.at w i ≤ 3 := fun n i hi => by
   rcases n with n | n
   . have := at_le hi n; lia
   . exact at_le hi n
 exact (mu_core (sg_le k0 (b n' h0)) (sg_le k1 (b n' h1)) (sg_le k0 (b n h0)) (sg_le k1 (b n h1))).mp h
theorem klt_of {i j : Nat} (K : Keys i0 d0 i1 d1) (hi : i < 16) (hj : j < 16) (h : mu i0 d0 i1 d1 (w16.getD i (0, 0, 0)) < mu i0 d0 i1 d1 (w16.getD j (0, 0, 0))) : klt (w16.map (kf i0 d0 i1 d1)) i j = true := by
 have g : ∀ {k : Nat}, k < 16 -> (w16.map (kf i0 d0 i1 d1)).getD k (0, 0) = kf i0 d0 i1 d1 (w16.getD k (0, 0, 0)) := fun {k} hk => by
   have : k < w16.length := hk
   simp [List.getD, List.getElem?_eq_getElem this]
 unfold klt
 rw [g hi, g hj]
 exact decide_eq_true (mu_key K (nn_w16 (w16_mem hi)) (nn_w16 (w16_mem hj)) h)
theorem okP_srt {kz : List (Int × Int)} {p : Array Nat} (h : okP kz p = true) {as bs : List Nat} {i j : Nat} (e : p.toList = as ++ i :: bs) (hj : j ∈ bs) : klt kz j i = false := by
 have hl := okP_len h
 simp only [okP, Bool.and_eq_true] at h
 obtain ⟨k, hk⟩ := List.mem_iff_getElem?.mp hj
 have hkl := (List.getElem?_eq_some_iff.mp hk).1
 rw [e] at hl
 simp only [List.length_append, List.length_cons] at hl
 have z := List.all_eq_true.mp (List.all_eq_true.mp h.2 (as.length + 1 + k) (List.mem_range.mpr (by lia))) as.length (List.mem_range.mpr (by lia))
 have g1 : p.getD (as.length + 1 + k) 0 = j := by
   have : p.getD (as.length + 1 + k) 0 = p.toList.getD (as.length + 1 + k) 0 := by simp [List.getD, Array.getD_eq_getD_getElem?]
   rw [this, e, List.getD, List.getElem?_append_right (by lia), show as.length + 1 + k - as.length = k + 1 by lia, List.getElem?_cons_succ, hk]
   rfl
 have g2 : p.getD as.length 0 = i := by
   have : p.getD as.length 0 = p.toList.getD as.length 0 := by simp [List.getD, Array.getD_eq_getD_getElem?]
   rw [this, e, List.getD, List.getElem?_append_right (by lia), Nat.sub_self, List.getElem?_cons_zero]
   rfl
 rw [g1, g2] at z
 simpa using z
theorem q_of_mores {q : Int} (h : Let q) : [q] ∈ mores := by
 rcases h with rfl | rfl | rfl <;> decide
theorem mores_cases {y : List Int} (h : y ∈ mores) : y = [] ∨ ∃ q, Let q ∧ y = [q] := by
 simp only [mores, List.mem_cons, List.not_mem_nil, or_false] at h
 rcases h with rfl | rfl | rfl | rfl
 . exact .inl rfl
 . exact .inr ⟨0, .inl rfl, rfl⟩
 . exact .inr ⟨1, .inr (.inl rfl), rfl⟩
 . exact .inr ⟨2, .inr (.inr rfl), rfl⟩
theorem ends_least {ties : List (Wd × Wd)} {rs : List Rl} {ends : List Wd} {ps : Array Nat} (K : Keys i0 d0 i1 d1) (ht : ∀ t ∈ ties, t.1 ∈ rowsP 2 3 ∧ t.2 ∈ rowsP 2 3) (hR : RulesP i0 d0 i1 d1 ties rs)
   (hl : ends.length = 16) (hd : ∀ (k : Nat) u e, w16[k]? = some u -> ends[k]? = some e -> Down rs u e) (hp : okP (w16.map (kf i0 d0 i1 d1)) ps = true) : ends = leastP (kindsP w16 ties) ps.toList := by
 have hn : ∀ t ∈ ties, Nn 2 t.1 ∧ Nn 2 t.2 := fun t h => ⟨nn_rows (ht t h).1, nn_rows (ht t h).2⟩
 have h16 : In16 ties := fun t h y hy => ⟨wth_w16 (ht t h).1 hy, wth_w16 (ht t h).2 hy⟩
 obtain ⟨ok, l2, l3, jn, snd⟩ := rules_do K hR hn
 have dn : ∀ i, i < 16 -> Down rs (w16.getD i (0, 0, 0)) (ends.getD i (0, 0, 0)) := fun i hi => hd i _ _ (w16_get hi) (by
   have : i < ends.length := hl ▸ hi
   simp [List.getD, List.getElem?_eq_getElem this])
 have dnu : ∀ u, u ∈ w16 -> Down rs u (ends.getD (w16.idxOf u) (0, 0, 0)) := fun u hu => by
   have := dn _ (List.idxOf_lt_length_iff.mpr hu)
   rwa [w16_idx hu] at this
 have nE : ∀ i, i < 16 -> Nn 2 (ends.getD i (0, 0, 0)) ∨ Nn 3 (ends.getD i (0, 0, 0)) := fun i hi => (nn_w16 (w16_mem hi)).imp (led_nn ok · (dn i hi).1) (led_nn ok · (dn i hi).1)
 have resp : Resp ties fun u => (kindsP w16 ties).getD (w16.idxOf u) 0 := fun t h => by
   have z := ties_new ties _ (rfl : ((List.range w16.length).map fun n : Nat => (n : Int)).length = 16) h16 t h
   refine ⟨?_, fun q hq => ?_⟩
   . have := z [] (.head _)
     rwa [wth_nil, wth_nil] at this
   . have := z [q] (q_of_mores hq)
     rwa [wth_one, wth_one] at this
 have kE : ∀ i, i < 16 -> (kindsP w16 ties).getD (w16.idxOf (ends.getD i (0, 0, 0))) 0 = (kindsP w16 ties).getD i 0 := fun i hi => by
   have := sr_led (g := fun u => (kindsP w16 ties).getD (w16.idxOf u) 0) ok (snd _ resp) (nn_w16 (w16_mem hi)) (dn i hi).1
   simp only [idx16 i hi] at this
   exact this
 have same : ∀ i j, i < 16 -> j < 16 -> (kindsP w16 ties).getD i 0 = (kindsP w16 ties).getD j 0 -> ends.getD i (0, 0, 0) = ends.getD j (0, 0, 0) := fun i j hi hj q =>
   kinds_to (F := fun i => ends.getD i (0, 0, 0)) h16 (fun t h y hy => by
     have a1 := dnu _ (h16 t h y hy).1
     have a2 := dnu _ (h16 t h y hy).2
     rcases mores_cases hy with rfl | ⟨q, hq, rfl⟩
     . rw [wth_nil] at a1 a2
       rw [wth_nil, wth_nil]
       exact join_end K (by decide) ok l2 (hn t h).1 (hn t h).2 (jn t h) a1 a2
     . rw [wth_one] at a1 a2
       rw [wth_one, wth_one]
       exact join_end K (by decide) ok l3 (ext_nn hq (hn t h).1) (ext_nn hq (hn t h).2) (jn t h).ext a1 a2) hi hj q
 refine List.ext_getElem? fun k => ?_
 by_cases hk : k < 16
 . have e1 : ends[k]? = some (ends.getD k (0, 0, 0)) := by
     have : k < ends.length := hl ▸ hk
     simp [List.getD, List.getElem?_eq_getElem this]
   have e2 : (leastP (kindsP w16 ties) ps.toList)[k]? = some (w16.getD ((fstK (kindsP w16 ties) ps.toList ((kindsP w16 ties).getD k 0)).getD 0) (0, 0, 0)) := by
     unfold leastP
     rw [List.getElem?_map, List.getElem?_range hk]
     rfl
   rw [e1, e2]
   obtain ⟨i, hi, him, hik⟩ := fstK_some (ks := kindsP w16 ties) (okP_mem hp k hk)
   have hi16 := okP_lt hp i him
   rw [hi, Option.getD_some]
   congr 1
   rw [same k i hk hi16 hik.symm]
   have eI := dn i hi16
   rcases nn_w16 (w16_mem hi16) with nn | nn
   all_goals
     rcases led_le K (by decide) ok nn eI.1 with q | q
     . exact q.symm
     . exfalso
       have hm := mem16 (nE i hi16)
       have hj := List.idxOf_lt_length_iff.mpr hm
       have hkj := (kE i hi16).trans hik
       obtain ⟨hp1, as, bs, hab, has⟩ := List.find?_eq_some_iff_append.mp hi
       have hjm := okP_mem hp _ hj
       rw [hab] at hjm
       have c : klt (w16.map (kf i0 d0 i1 d1)) (w16.idxOf (ends.getD i (0, 0, 0))) i = true := klt_of K hj hi16 (by rw [w16_idx hm]; exact q)
       rcases List.mem_append.mp hjm with z | z
       . have := has _ z
         rw [hkj] at this
         simp at this
       . rcases List.mem_cons.mp z with z | z
         . have y : w16.getD i (0, 0, 0) = ends.getD i (0, 0, 0) := (congrArg (fun x => w16.getD x (0, 0, 0)) z).symm.trans (w16_idx hm)
           rw [y] at q
           exact Nat.lt_irrefl _ q
         . rw [okP_srt hp hab z] at c; cases c
 . rw [List.getElem?_eq_none (by lia), List.getElem?_eq_none (by simp [leastP]; lia)]
theorem take_getD {ls : List Wd} {n k : Nat} (h : k < n) : (ls.take n).getD k (0, 0, 0) = ls.getD k (0, 0, 0) := by
 simp [List.getD, List.getElem?_take, h]
theorem dedup_firsts {ls : List Wd} (hk : ks.length = 16) (hl : ls.length = 16) (h : ∀ i j, i < 16 -> j < 16 -> (ks.getD i 0 = ks.getD j 0 ↔ ls.getD i (0, 0, 0) = ls.getD j (0, 0, 0))) : dedupP ls = firstsP ks ls := by
 have key : ∀ n, n ≤ 16 -> dedupP (ls.take n) = ((List.range n).filter fun k => !(ks.take k).contains (ks.getD k 0)).map (fun k => ls.getD k (0, 0, 0)) ∧ ∀ u, u ∈ dedupP (ls.take n) ↔ ∃ k, k < n ∧ ls.getD k (0, 0, 0) = u := by
   intro n
   induction n with
   | zero => intro _; exact ⟨rfl, fun u => by simp [dedupP]⟩
   | succ n ih =>
     intro hn
     obtain ⟨a, b⟩ := ih (by lia)
     have hnl : n < ls.length := by lia
     have eg : ls[n]? = some (ls.getD n (0, 0, 0)) := by simp [List.getD, List.getElem?_eq_getElem hnl]
     have es : dedupP (ls.take (n + 1)) = addNew (dedupP (ls.take n)) (ls.getD n (0, 0, 0)) := fold_take addNew [] ls eg
     have mem : (ks.take n).contains (ks.getD n 0) = true ↔ ls.getD n (0, 0, 0) ∈ dedupP (ls.take n) := by
       rw [b, List.contains_iff_mem, List.mem_iff_getElem?]
       constructor
       . rintro ⟨k, q⟩
         rw [List.getElem?_take] at q
         split at q
         . rename_i c
           refine ⟨k, c, ((h k n (by lia) (by lia)).mp ?_)⟩
           rw [List.getD, q]; rfl
         . cases q
       . rintro ⟨k, c, q⟩
         refine ⟨k, ?_⟩
         rw [List.getElem?_take, if_pos c, ← (h k n (by lia) (by lia)).mpr q]
         have : k < ks.length := by lia
         simp [List.getD, List.getElem?_eq_getElem this]
     rw [es, List.range_succ, List.filter_append, List.map_append]
     unfold addNew
     by_cases c : ls.getD n (0, 0, 0) ∈ dedupP (ls.take n)
     . rw [if_pos c]
       refine ⟨?_, fun u => ?_⟩
       . rw [a]
         have := mem.mpr c
         simp only [List.filter_cons, this, List.filter_nil]
         simp
       . rw [b]
         constructor
         . rintro ⟨k, x, y⟩; exact ⟨k, by lia, y⟩
         . rintro ⟨k, x, y⟩
           by_cases z : k < n
           . exact ⟨k, z, y⟩
           . have : k = n := by lia
             rw [this] at y
             rw [y] at c
             exact (b u).mp c
     . rw [if_neg c]
       have nm : (ks.take n).contains (ks.getD n 0) = false := by
         cases q : (ks.take n).contains (ks.getD n 0) with
         | false => rfl
         | true => exact absurd (mem.mp q) c
       refine ⟨?_, fun u => ?_⟩
       . rw [a]
         simp only [List.filter_cons, nm, List.filter_nil]
         simp
       . rw [List.mem_append, b, List.mem_singleton]
         constructor
         . rintro (⟨k, x, y⟩ | y)
           . exact ⟨k, by lia, y⟩
           . exact ⟨n, by lia, y.symm⟩
         . rintro ⟨k, x, y⟩
           by_cases z : k < n
           . exact .inl ⟨k, z, y⟩
           . have : k = n := by lia
             rw [this] at y
             exact .inr y.symm
 have := (key 16 (Nat.le_refl _)).1
 rw [List.take_of_length_le (by lia)] at this
 exact this
theorem least_len {ps : List Nat} : (leastP ks ps).length = 16 := by simp [leastP]
theorem least_get {ps : List Nat} {k : Nat} (hk : k < 16) : (leastP ks ps).getD k (0, 0, 0) = w16.getD ((fstK ks ps (ks.getD k 0)).getD 0) (0, 0, 0) := by
 unfold leastP
 rw [List.getD, List.getElem?_map, List.getElem?_range hk]
 rfl
theorem plain_law : PlainLaw := by
 intro i0 d0 i1 d1 ties rs ends ps K _ ht hR hl hd hp
 have e := ends_least K ht hR hl hd hp
 refine ⟨e, ?_⟩
 rw [e]
 refine dedup_firsts kindsP_len least_len fun i j hi hj => ?_
 rw [least_get hi, least_get hj]
 obtain ⟨a, ha, ham, hak⟩ := fstK_some (ks := kindsP w16 ties) (okP_mem hp i hi)
 obtain ⟨b, hb, hbm, hbk⟩ := fstK_some (ks := kindsP w16 ties) (okP_mem hp j hj)
 constructor
 . intro q; rw [q]
 . intro q
   rw [ha, hb, Option.getD_some, Option.getD_some] at q
   have := congrArg w16.idxOf q
   rw [idx16 a (okP_lt hp a ham), idx16 b (okP_lt hp b hbm)] at this
   rw [← hak, ← hbk, this]
end Mine
end
noncomputable section
example : True := by w_top off; trivial
namespace Mine
local macro_rules | `(tactic| walk_at "call ref") => `(tactic| ((fail_if_success (with_reducible show wpAny _ _ (call (Value.ref 270) _) _ _ _)); refine Halt.go ?_))
local macro_rules | `(tactic| walk_at "exec Assign cons ListComp") => `(tactic| refine Halt.go ?_)
local macro_rules | `(tactic| walk_at "CompEnd") => `(tactic| refine Halt.go ?_)
local macro_rules | `(tactic| walk_at "CompSrc") => `(tactic| refine Halt.go ?_)
local macro_rules | `(tactic| walk_at "FinA") => `(tactic| refine Halt.go ?_)
local macro_rules | `(tactic| walk_at "CompSrcT") => `(tactic| refine Halt.go ?_)
local macro_rules | `(tactic| walk_at "compareOp NotEq ref ref") => `(tactic| refine Halt.go ?_)
local macro_rules | `(tactic| walk_at "compareOp Eq ref ref") => `(tactic| refine Halt.go ?_)
theorem notin3 {α : Type} {x a b c : α} {l : List α} (h1 : x ≠ a) (h2 : x ≠ b) (h3 : x ≠ c) (h : x ∉ l) : x ∉ a :: b :: c :: l := by simp [h1, h2, h3, h]
theorem ne3 {α : Type} {x a b c : α} {l : List α} (h : x ∉ a :: b :: c :: l) : x ≠ a ∧ x ≠ b ∧ x ≠ c := by simp at h; exact ⟨h.1, h.2.1, h.2.2.1⟩
theorem swallowC {g h h1 : Heap} {L c1 c2 c3 P D : Addr} {o1 o2 o3 oD : Obj} {x1 x2 x3 : Option Value} {ps : Array Value} {m : Str -> Option Value} {tl : List (Addr × Obj)} (G : Fr g L h1 m) (K : Keeps h h1)
   (N : News g L h ((c1, o1) :: (c2, o2) :: (c3, o3) :: (P, tabObj ps) :: tl)) (_ : h.get? D = none) (_ : h1.get? D = some oD) (d1 : o1.data = .cell x1) (d2 : o2.data = .cell x2) (d3 : o3.data = .cell x3) :
   ∃ tl', News g L h1 tl' ∧ (∀ q ∈ tl', q.1 ∉ [c1, c2, c3, P]) ∧ ∀ h₂, Keeps g h₂ -> Has tl' h₂ -> KS h1 h₂ := by
 obtain ⟨tl', a, b, c⟩ := swallow G [c1, c2, c3, P]
 refine ⟨tl', a, b, fun h₂ k t => (c h₂ k t).all fun q hq o e => ?_⟩
 simp only [List.mem_cons, List.not_mem_nil, or_false] at hq
 rcases hq with rfl | rfl | rfl | rfl
 . rw [K _ _ (N (_, _) (.head _)).1] at e; cases e; exact no_cell d1
 . rw [K _ _ (N (_, _) (.tail _ (.head _))).1] at e; cases e; exact no_cell d2
 . rw [K _ _ (N (_, _) (.tail _ (.tail _ (.head _)))).1] at e; cases e; exact no_cell d3
 . rw [K _ _ (N (_, _) (.tail _ (.tail _ (.tail _ (.head _))))).1] at e
   cases e
   rintro ⟨vs, n, h | h⟩ <;> cases h
theorem news_app {g h : Heap} {L : Addr} {l1 l2 : List (Addr × Obj)} (a : News g L h l1) (b : News g L h l2) : News g L h (l1 ++ l2) := fun p hp => (List.mem_append.mp hp).elim (a p) (b p)
theorem News.pre4 {g h : Heap} {L : Addr} {a b c d : Addr × Obj} {l : List (Addr × Obj)} (N : News g L h (a :: b :: c :: d :: l)) : News g L h [a, b, c, d] := fun p hp => N p (List.mem_append.mpr (.inl hp) : p ∈ [a, b, c, d] ++ l)
theorem News.pre7 {g h : Heap} {L : Addr} {a b c d e f i : Addr × Obj} {l : List (Addr × Obj)} (N : News g L h (a :: b :: c :: d :: e :: f :: i :: l)) : News g L h [a, b, c, d, e, f, i] := fun p hp => N p (List.mem_append.mpr (.inl hp) : p ∈ [a, b, c, d, e, f, i] ++ l)
theorem AllAt.append {α : Type} {P : Heap -> Value -> α -> Prop} {h : Heap} {vs vs' : List Value} {xs xs' : List α} (H : AllAt P h vs xs) (H' : AllAt P h vs' xs') : AllAt P h (vs ++ vs') (xs ++ xs') := by
 refine ⟨by rw [List.length_append, List.length_append, H.1, H'.1], fun k v x a b => ?_⟩
 by_cases c : k < vs.length
 . rw [List.getElem?_append_left c] at a
   rw [List.getElem?_append_left (H.1 ▸ c)] at b
   exact H.2 _ _ _ a b
 . rw [List.getElem?_append_right (Nat.le_of_not_lt c)] at a
   rw [List.getElem?_append_right (H.1 ▸ Nat.le_of_not_lt c), ← H.1] at b
   exact H'.2 _ _ _ a b
theorem News.pre8 {g h : Heap} {L : Addr} {a b c d e f i j : Addr × Obj} {l : List (Addr × Obj)} (N : News g L h (a :: b :: c :: d :: e :: f :: i :: j :: l)) : News g L h [a, b, c, d, e, f, i, j] := fun p hp => N p (List.mem_append.mpr (.inl hp) : p ∈ [a, b, c, d, e, f, i, j] ++ l)
theorem apart_off {c : Addr} {l : List Addr} (hc : c ∈ l) : ∀ {tl : List (Addr × Obj)}, (∀ q ∈ tl, q.1 ∉ l) -> ApartOr c tl
 | [], _ => trivial
 | _ :: _, h => ⟨.inl fun e => h _ (.head _) (e ▸ hc), apart_off hc fun q hq => h q (.tail _ hq)⟩
noncomputable def fst1 (ks : List Int) (lv : List Value) (i : Nat) : List Value := ((List.range i).filter fun k => !(ks.take k).contains (ks.getD k 0)).map fun k => lv.getD k .none
theorem any_contains (l : List Int) (a : Int) : (l.any fun x => x == a) = l.contains a := by
 rw [Bool.eq_iff_iff, List.any_eq_true, List.contains_iff_mem]
 exact ⟨fun ⟨x, h, e⟩ => (by simpa using e : x = a) ▸ h, fun h => ⟨a, h, by simp⟩⟩
theorem fst1_no {ks : List Int} {lv : List Value} {i : Nat} (h : ((ks.take (0 + (i : Int)).toNat).any fun x => x == ks.getD (0 + (i : Int)).toNat 0) = true) : fst1 ks lv (i + 1) = fst1 ks lv i := by
 rw [Int.zero_add, Int.toNat_natCast, any_contains] at h
 unfold fst1
 rw [List.range_succ, List.filter_append, List.map_append]
 simp only [List.filter_cons, h, List.filter_nil]
 simp
theorem fst1_yes {ks : List Int} {lv : List Value} {i : Nat} (h : ((ks.take (0 + (i : Int)).toNat).any fun x => x == ks.getD (0 + (i : Int)).toNat 0) = false) : fst1 ks lv (i + 1) = fst1 ks lv i ++ [lv.getD i .none] := by
 rw [Int.zero_add, Int.toNat_natCast, any_contains] at h
 unfold fst1
 rw [List.range_succ, List.filter_append, List.map_append]
 simp only [List.filter_cons, h, List.filter_nil]
 simp
theorem AllAt.fst1 {h : Heap} {ks : List Int} {lv : List Value} {ls : List Wd} (H : AllAt WdAt h lv ls) (hl : ls.length = 16) : AllAt WdAt h (Mine.fst1 ks lv 16) (firstsP ks ls) := by
 refine ⟨by simp [Mine.fst1, firstsP], fun k v x a b => ?_⟩
 unfold Mine.fst1 at a
 unfold firstsP at b
 rw [List.getElem?_map] at a b
 cases q : ((List.range 16).filter fun k => !(ks.take k).contains (ks.getD k 0))[k]? with
 | none => rw [q] at a; cases a
 | some j =>
   rw [q] at a b
   cases a; cases b
   have hj : j < 16 := List.mem_range.mp (List.mem_filter.mp (List.mem_of_getElem? q)).1
   have h1 : j < lv.length := by rw [H.1, hl]; exact hj
   have h2 : j < ls.length := by rw [hl]; exact hj
   refine H.2 j _ _ ?_ ?_
   . simp [List.getD, List.getElem?_eq_getElem h1]
   . simp [List.getD, List.getElem?_eq_getElem h2]
theorem lv_at {lv : List Value} {i : Nat} (h : i < lv.length) : lv[(0 + (i : Int)).toNat]? = some (lv.getD i .none) := by
 rw [Int.zero_add, Int.toNat_natCast]
 simp [List.getD, List.getElem?_eq_getElem h]
structure EndsJ (g : Heap) (ta : Addr) (nt i : Nat) (vt vw vr : List Value) (ties rs : List Rl) (mm : List Addr) (ys : List Value) (es : List Wd) (tl : List (Addr × Obj)) : Prop where
 off : ∀ q ∈ tl, q.1 ∉ mm
 len : es.length = i
 down : ∀ (k : Nat) u e, w16[k]? = some u -> es[k]? = some e -> Down rs u e
 facts : ∀ h₂, Keeps g h₂ -> Has tl h₂ -> AllAt WdAt h₂ ys es ∧ AllAt TieAt h₂ vt ties ∧ AllAt WdAt h₂ vw w16 ∧ AllAt RlAt h₂ vr rs ∧ h₂.get? ta = some (lst vt nt)
theorem hide_lst {g h : Heap} {L lk p0 p1 a : Addr} {n nl n0 n1 : Nat} {x0 y0 x1 y1 : Value} {vs : List Value} (N : News g L h [(332, tabObj #[]), (lk, lst [.ref p0, .ref p1] nl), (p0, tup [x0, y0] n0), (p1, tup [x1, y1] n1)])
   (e : h.get? a = some (lst vs n)) (hl : vs.length ≠ 2) : (hideAll h [332, lk, p0, p1]).get? a = some (lst vs n) := hideAll_get _ e fun q => by
 simp only [List.mem_cons, List.not_mem_nil, or_false] at q
 rcases q with rfl | rfl | rfl | rfl
 . have e' := (N _ (.head _)).1
   rw [e] at e'; cases e'
 . have e' := (N _ (.tail _ (.head _))).1
   rw [e] at e'
   have z : Data.seq _ _ = Data.seq _ _ := congrArg Obj.data (Option.some.inj e')
   injection z with z _
   have := congrArg Array.size z
   exact hl (by simpa using this)
 . have e' := (N _ (.tail _ (.tail _ (.head _)))).1
   rw [e] at e'
   have z : Value.type "list" = Value.type "tuple" := congrArg Obj.cls (Option.some.inj e')
   exact absurd z (by simp)
 . have e' := (N _ (.tail _ (.tail _ (.tail _ (.head _))))).1
   rw [e] at e'
   have z : Value.type "list" = Value.type "tuple" := congrArg Obj.cls (Option.some.inj e')
   exact absurd z (by simp)
theorem hide_cell {g h : Heap} {L lk p0 p1 a : Addr} {nl n0 n1 : Nat} {x0 y0 x1 y1 : Value} {o : Obj} {x : Option Value} (N : News g L h [(332, tabObj #[]), (lk, lst [.ref p0, .ref p1] nl), (p0, tup [x0, y0] n0), (p1, tup [x1, y1] n1)])
   (e : h.get? a = some o) (d : o.data = .cell x) : (hideAll h [332, lk, p0, p1]).get? a = some o := hideAll_get _ e fun q => by
 have no : ∀ o', h.get? a = some o' -> o'.data = .cell x := fun o' e' => by
   rw [e] at e'; cases e'; exact d
 simp only [List.mem_cons, List.not_mem_nil, or_false] at q
 rcases q with rfl | rfl | rfl | rfl
 . have z := no _ (N _ (.head _)).1
   cases z
 . have z := no _ (N _ (.tail _ (.head _))).1
   cases z
 . have z := no _ (N _ (.tail _ (.tail _ (.head _)))).1
   cases z
 . have z := no _ (N _ (.tail _ (.tail _ (.tail _ (.head _))))).1
   cases z
theorem hide_new {g h h' : Heap} {L a : Addr} {o : Obj} {m : Str -> Option Value} {news : List (Addr × Obj)} (F : Fr g L h m) (N : News g L h news) (e : (hideAll h (news.map (·.1))).get? a = none) (e' : h'.get? a = some o) :
   h'.get? (a, o).1 = some (a, o).2 ∧ (a, o).1 ≠ L ∧ g.get? (a, o).1 = none := by
 refine ⟨e', fun q => ?_, ?_⟩
 . obtain ⟨oL, _, _, hL, _⟩ := F.ns
   have z : (hideAll h (news.map (·.1))).get? L = some oL := hideAll_get _ hL fun y => by
     obtain ⟨x, hx, hy⟩ := List.mem_map.mp y
     exact (N x hx).2.1 hy
   have q' : a = L := q
   rw [q', z] at e; cases e
 . cases y : g.get? a with
   | none => rfl
   | some o' =>
     have z := keeps_hide F N a o' y
     rw [z] at e; cases e
theorem WdAt.hideK {g h : Heap} {L lk p0 p1 : Addr} {nl n0 n1 : Nat} {x0 y0 x1 y1 v : Value} {u : Wd} (H : WdAt h v u) (N : News g L h [(332, tabObj #[]), (lk, lst [.ref p0, .ref p1] nl), (p0, tup [x0, y0] n0), (p1, tup [x1, y1] n1)]) : WdAt (hideAll h [332, lk, p0, p1]) v u := by
 obtain ⟨a, rfl, b0, b1, b2, n, e⟩ := H
 exact ⟨a, rfl, b0, b1, b2, n, hide_lst N e (by simp)⟩
end Mine
end
noncomputable section
example : True := by w_top off; trivial
section
open Mine
local macro_rules | `(tactic| omega) => `(tactic| lia)
local macro_rules | `(tactic| k_lt $h:ident) => `(tactic| (replace $h := allLt_of $h; simp only [AllLt, and_true] at $h:ident))
local macro_rules | `(tactic| walk_at "compareOp NotIn int ref") => `(tactic| refine Halt.go ?_)
local macro_rules | `(tactic| walk_at "subscriptTail Name Name ref int") => `(tactic| ((with_reducible show wpAny _ _ (subscriptTail (Expr.Name (oS "least") _) _ _ _) _ _ _); refine Halt.go ?_))
local macro_rules | `(tactic| walk_at "call builtin:len") => `(tactic| refine Halt.go ?_)
local macro_rules | `(tactic| walk_at "call ref") => `(tactic| ((fail_if_success (with_reducible show wpAny _ _ (call (Value.ref 270) _) _ _ _)); refine Halt.go ?_))
local macro_rules | `(tactic| walk_at "exec Assign cons ListComp") => `(tactic| refine Halt.go ?_)
local macro_rules | `(tactic| walk_at "CompEnd") => `(tactic| refine Halt.go ?_)
local macro_rules | `(tactic| walk_at "CompSrc") => `(tactic| refine Halt.go ?_)
local macro_rules | `(tactic| walk_at "FinA") => `(tactic| refine Halt.go ?_)
local macro_rules | `(tactic| walk_at "CompSrcT") => `(tactic| refine Halt.go ?_)
local macro_rules | `(tactic| walk_at "compareOp NotEq ref ref") => `(tactic| refine Halt.go ?_)
local macro_rules | `(tactic| walk_at "compareOp Eq ref ref") => `(tactic| refine Halt.go ?_)
namespace HLc
noncomputable def sg0 : (P0 : World -> Shared -> Shared -> (Str -> Option Value) -> (Str -> Option Value) -> Addr -> Value -> (List Int) -> (List Value) -> Heap -> Nat -> Obj -> Obj -> Obj -> Heap -> Nat -> Addr -> (List Str) -> (ExcName -> Option Value) -> Prop) ×' ((∀ x0 x1 x2 x3 x4 x5 x6 x7 x8 x9 x10 x11 x12 x13 x14 x15 x16 x17 x18, P0 x0 x1 x2 x3 x4 x5 x6 x7 x8 x9 x10 x11 x12 x13 x14 x15 x16 x17 x18) -> PySem.Challenge.rw_wn0129_03.Holds) := by
 apply PSigma.mk
 case snd =>
   intro hP0
   w_on
   refine holds_law (by kernel_rfl) fun said => ?_
   refine holds_open (q := Mine.viewR) (loose := Mine.looseR) (Xt := fun s => xlAt Mine.viewR [] s && recOk [] s) (XP := XL Mine.viewR []) (Yf := (kHook Mine.KR Mine.asR Mine.kR_ok).obs) (Ya := (kHook Mine.KR Mine.asR Mine.kR_ok).val) (YP := (kHook Mine.KR Mine.asR Mine.kR_ok).says) (N := 5564) Mine.left (kHook Mine.KR Mine.asR Mine.kR_ok).of (kHook Mine.KR Mine.asR Mine.kR_ok).keeps (fun s e => xl_of s (Bool.and_eq_true_iff.mp e).1) XL.keeps (by rfl) (by rfl) (by rfl) (fun s e => recFacts_of (Bool.and_eq_true_iff.mp e).2) rfl (by first | assumption | decide +kernel) (by decide +kernel) ⟨rfl, rfl, rfl, rfl, rfl, by decide +kernel⟩ ?hw ?hc
   case hw => w_witness2
   case hc =>
     k_go0
     rename World => w
     rename IntsAre _ _ => hli
     rename List Int => ns
     rename List Value => us
     rename ¬ _ < _ => hfit0
     rename Below _ _ _ _ => B'
     rename Top _ _ _ _ _ _ => T'
     rename Frag.In _ _ => X'
     rename Fr _ _ _ _ => F0
     rename News _ _ _ _ => N1
     rename Shared => s1
     rename Heap => h'
     rename_i s0 mg mb G Y fa o pm cd doc ho hcd hgens X V T B TE TW hs hlay0 hL1 hr1 hl2 as1 as2 al0 as3 hL ra w1 r0 hr hcond hD tk1 oL oK oR dL dK dR X0 lt332
     generalize hgd : ghostOf s1.heap [(334, 332)] = g at *
     generalize hLd : s1.heap.objs.size = L' at *
     have CH : CodeHd g 334 332 := codeHd
     have hfit : us.length ≤ 63 := by
       have := hli.length
       omega
     replace dL : oL.data = .cell none := by with_unfolding_all exact dL
     replace dK : oK.data = .cell none := by with_unfolding_all exact dK
     replace dR : oR.data = .cell none := by with_unfolding_all exact dR
     obtain ⟨al, hlo, F1⟩ : ∃ al, g.IsList al us.toArray ∧ Fr g L' h' (fun y => if y = oS "script" then some (.ref al) else none) := ⟨_, lifted, by with_unfolding_all exact F0⟩
     clear said G Y ho hcd X V T B TE TW hT9 hs hlay0 hL1 hr1 hl2 hL ra w1 r0 hr hcond hD hfit0 X0 F0 lifted codeHd
     obtain ⟨loose, mean, T9⟩ : ∃ loose mean, Top topProg loose mean mg mb g := ⟨_, _, T'⟩
     clear T'
     rename Top _ _ _ _ _ _ => T'
     clear hgd hLd
     try dsimp only
     try k_fold
     revert T'; revert F1; revert hlo; revert dR; revert dK; revert dL; revert hfit; revert CH; revert N1; revert lt332; revert B'; revert X'; revert hli; revert hgens
     exact hP0 w s0 s1 mg mb fa cd ns us h' tk1 oL oK oR g L' al loose mean
namespace K0_0
abbrev TT : Type := ((((World × Shared) × Shared) × ((Str -> Option Value) × (Str -> Option Value))) × (((Addr × Value) × (List Int)) × ((List Value) × Heap))) × ((((Nat × Obj) × Obj) × (Obj × Heap)) × ((Nat × Addr) × ((List Str) × (ExcName -> Option Value))))
theorem nn : Nonempty TT := ⟨(((((Classical.choice neW, {}), {}), default), default), default)⟩
def PP (p : TT) : Prop := sg0.1 p.1.1.1.1.1 p.1.1.1.1.2 p.1.1.1.2 p.1.1.2.1 p.1.1.2.2 p.1.2.1.1.1 p.1.2.1.1.2 p.1.2.1.2 p.1.2.2.1 p.1.2.2.2 p.2.1.1.1.1 p.2.1.1.1.2 p.2.1.1.2 p.2.1.2.1 p.2.1.2.2 p.2.2.1.1 p.2.2.1.2 p.2.2.2.1 p.2.2.2.2
def pt := ep nn PP
@[irreducible] def w := pt.1.1.1.1.1
@[irreducible] def s0 := pt.1.1.1.1.2
@[irreducible] def s1 := pt.1.1.1.2
@[irreducible] def mg := pt.1.1.2.1
@[irreducible] def mb := pt.1.1.2.2
@[irreducible] def fa := pt.1.2.1.1.1
@[irreducible] def cd := pt.1.2.1.1.2
@[irreducible] def ns := pt.1.2.1.2
@[irreducible] def us := pt.1.2.2.1
@[irreducible] def h' := pt.1.2.2.2
@[irreducible] def tk1 := pt.2.1.1.1.1
@[irreducible] def oL := pt.2.1.1.1.2
@[irreducible] def oK := pt.2.1.1.2
@[irreducible] def oR := pt.2.1.2.1
@[irreducible] def g := pt.2.1.2.2
@[irreducible] def L' := pt.2.2.1.1
@[irreducible] def al := pt.2.2.1.2
@[irreducible] def loose := pt.2.2.2.1
@[irreducible] def mean := pt.2.2.2.2
noncomputable def sg1 : (P0 : Addr -> (List Value) -> Nat -> (List Rl) -> Heap -> Nat -> Addr -> Heap -> Nat -> Addr -> Addr -> Nat -> Nat -> Nat -> Int -> Int -> Int -> Int -> Tok -> Tok -> Tok -> Tok -> (List (Addr × Obj)) -> Prop) ×' ((∀ x0 x1 x2 x3 x4 x5 x6 x7 x8 x9 x10 x11 x12 x13 x14 x15 x16 x17 x18 x19 x20 x21 x22, P0 x0 x1 x2 x3 x4 x5 x6 x7 x8 x9 x10 x11 x12 x13 x14 x15 x16 x17 x18 x19 x20 x21 x22) -> sg0.1 w s0 s1 mg mb fa cd ns us h' tk1 oL oK oR g L' al loose mean) := by
 apply PSigma.mk
 case snd =>
   intro hP0
   unfold sg0
   dsimp only
   intro hgens hli X' B' lt332 N1 CH hfit dL dK dR hlo F1 T'
   k_steps
   rename Fr g L' _ _ => F9
   rename News g L' _ _ => N9
   refine ties_spec w _ _ _ _ _ _ _ _ _ _ _ _ _ _ _ _ _ _ _ _ _ B' F9 X' T' rfl al us ns (isl_up F9 hlo) hli hfit (by decide) (by decide) ?_
   intro ta h1 tk1 vt nt ties G1 K1 hta0 hta hties hvl htm
   obtain ⟨tl1, NT1, off1, kp1⟩ := swallowC G1 K1 N9 hta0 hta dL dK dR
   have eta := news_new F9 hta0 hta
   have NN1 := news_app (Mine.News.keep N9 K1) (news_cons eta NT1)
   simp only [List.cons_append, List.nil_append] at NN1
   clear N9 K1 NT1
   try dsimp only
   k_steps
   rename Fr g L' _ _ => F2
   rename News g L' _ _ => N2
   have ks1 := kp1 _ F2.keep fun q hq => (N2 q (.tail _ (.tail _ (.tail _ (.tail _ (.tail _ hq)))))).1
   replace hties := hties.keep fun v x q => TieAt.ks q ks1
   replace hta := (N2 _ (.tail _ (.tail _ (.tail _ (.tail _ (.head _)))))).1
   clear kp1 off1 eta hta0 ks1
   refine keys_spec w _ _ _ _ _ _ _ _ _ _ _ _ _ _ _ _ _ _ _ _ _ B' F2 X' T' rfl al us ns (isl_up F2 hlo) hli hfit (by decide) (by decide) ?_
   intro lk h2 tk2 p0 p1 nlk n0 n1 i0 d0 i1 d1 t0 t1 t2 t3 G2 K2 hlk0 hlk hp0 hp1 hp00 hp10 b0 b1 bne bd0 bd1
   have K : Keys i0 d0 i1 d1 := ⟨b0, b1, bne, bd0, bd1⟩
   obtain ⟨tl2, NT2, off2, kp2⟩ := swallowC G2 K2 N2 hlk0 hlk dL dK dR
   have NN2 := news_app (Mine.News.keep (News.pre4 N2) K2) (news_cons (news_new F2 hlk0 hlk) (news_cons (news_new F2 hp00 hp0) (news_cons (news_new F2 hp10 hp1) NT2)))
   simp only [List.cons_append, List.nil_append] at NN2
   replace hties := hties.keep fun v x q => TieAt.ks q (KS.of K2)
   replace hta := K2 _ _ hta
   clear N2 K2 NT2 b0 b1 bne bd0 bd1
   revert hta; revert hties; revert NN2; revert kp2; revert off2; revert K; revert hp10; revert hp00; revert hp1; revert hp0; revert hlk; revert hlk0; revert G2; revert F2; revert htm; revert hvl; revert T'; revert hlo; revert dR; revert dK; revert dL; revert hfit; revert CH; revert lt332; revert B'; revert X'; revert hli; revert hgens
   rename_i v0
   exact hP0 ta vt nt ties v0 tk lk h2 tk2 p0 p1 nlk n0 n1 i0 d0 i1 d1 t0 t1 t2 t3 tl2
namespace K1_0
abbrev TT : Type := ((((Addr × (List Value)) × Nat) × (((List Rl) × Heap) × Nat)) × (((Addr × Heap) × Nat) × ((Addr × Addr) × Nat))) × ((((Nat × Nat) × Int) × ((Int × Int) × Int)) × (((Tok × Tok) × Tok) × (Tok × (List (Addr × Obj)))))
def PP (p : TT) : Prop := sg1.1 p.1.1.1.1.1 p.1.1.1.1.2 p.1.1.1.2 p.1.1.2.1.1 p.1.1.2.1.2 p.1.1.2.2 p.1.2.1.1.1 p.1.2.1.1.2 p.1.2.1.2 p.1.2.2.1.1 p.1.2.2.1.2 p.1.2.2.2 p.2.1.1.1.1 p.2.1.1.1.2 p.2.1.1.2 p.2.1.2.1.1 p.2.1.2.1.2 p.2.1.2.2 p.2.2.1.1.1 p.2.2.1.1.2 p.2.2.1.2 p.2.2.2.1 p.2.2.2.2
def pt := ep ⟨default⟩ PP
@[irreducible] def ta := pt.1.1.1.1.1
@[irreducible] def vt := pt.1.1.1.1.2
@[irreducible] def nt := pt.1.1.1.2
@[irreducible] def ties := pt.1.1.2.1.1
@[irreducible] def v0 := pt.1.1.2.1.2
@[irreducible] def tk := pt.1.1.2.2
@[irreducible] def lk := pt.1.2.1.1.1
@[irreducible] def h2 := pt.1.2.1.1.2
@[irreducible] def tk2 := pt.1.2.1.2
@[irreducible] def p0 := pt.1.2.2.1.1
@[irreducible] def p1 := pt.1.2.2.1.2
@[irreducible] def nlk := pt.1.2.2.2
@[irreducible] def n0 := pt.2.1.1.1.1
@[irreducible] def n1 := pt.2.1.1.1.2
@[irreducible] def i0 := pt.2.1.1.2
@[irreducible] def d0 := pt.2.1.2.1.1
@[irreducible] def i1 := pt.2.1.2.1.2
@[irreducible] def d1 := pt.2.1.2.2
@[irreducible] def t0 := pt.2.2.1.1.1
@[irreducible] def t1 := pt.2.2.1.1.2
@[irreducible] def t2 := pt.2.2.1.2
@[irreducible] def t3 := pt.2.2.2.1
@[irreducible] def tl2 := pt.2.2.2.2
noncomputable def sg2 : (P0 : Heap -> Nat -> Addr -> Heap -> Nat -> (List Value) -> Nat -> Addr -> Heap -> Nat -> (List Value) -> Nat -> (List (Addr × Obj)) -> Prop) ×' ((∀ x0 x1 x2 x3 x4 x5 x6 x7 x8 x9 x10 x11 x12, P0 x0 x1 x2 x3 x4 x5 x6 x7 x8 x9 x10 x11 x12) -> sg1.1 ta vt nt ties v0 tk lk h2 tk2 p0 p1 nlk n0 n1 i0 d0 i1 d1 t0 t1 t2 t3 tl2) := by
 apply PSigma.mk
 case snd =>
   intro hP0
   unfold sg1
   dsimp only
   intro hgens hli X' B' lt332 CH hfit dL dK dR hlo T' hvl htm F2 G2 hlk0 hlk hp0 hp1 hp00 hp10 K off2 kp2 NN2 hties hta
   try dsimp only
   k_steps
   rename Fr g L' _ _ => F3
   rename News g L' _ _ => N3
   have ks2 := kp2 _ F3.keep fun q hq => (N3 q (.tail _ (.tail _ (.tail _ (.tail _ (.tail _ (.tail _ (.tail _ hq)))))))).1
   replace hties := hties.keep fun v x q => TieAt.ks q ks2
   replace hta := ks2 _ _ isSeq_lst hta
   clear kp2 off2 hlk0 hp00 hp10 ks2 hlk hp0 hp1
   refine words_spec w _ _ _ _ _ _ _ _ _ _ _ _ _ _ _ _ _ _ _ _ _ B' F3 X' T' rfl _ 2 (by decide) (by decide) (by decide) ?_
   intro wa2 h3 tk3 v2 nw2 G3 K3 hwa20 hwa2 hw2
   obtain ⟨tl3, NT3, off3, kp3⟩ := swallowC G3 K3 N3 hwa20 hwa2 dL dK dR
   have NN3 := news_app (Mine.News.keep (News.pre7 N3) K3) (news_cons (news_new F3 hwa20 hwa2) NT3)
   simp only [List.cons_append, List.nil_append] at NN3
   replace hties := hties.keep fun v x q => TieAt.ks q (KS.of K3)
   replace hta := K3 _ _ hta
   clear N3 K3 NT3
   try dsimp only
   k_steps
   rename Fr g L' h3 _ => F4
   rename News g L' h3 _ => N4
   refine Halt.mk ?_
   refine words_spec w _ _ _ _ _ _ _ _ _ _ _ _ _ _ _ _ _ _ _ _ _ B' F4 X' T' rfl _ 3 (by decide) (by decide) (by decide) ?_
   intro wa3 h4 tk4 v3 nw3 G4 K4 hwa30 hwa3 hw3
   obtain ⟨tl4, NT4, off4, kp4⟩ := swallowC G4 K4 N4 hwa30 hwa3 dL dK dR
   have NN4 := news_app (Mine.News.keep (News.pre7 N4) K4) (news_cons ⟨K4 _ _ hwa2, (N4 (wa2, _) (.tail _ (.tail _ (.tail _ (.tail _ (.tail _ (.tail _ (.tail _ (.head _))))))))).2⟩ (news_cons (news_new F4 hwa30 hwa3) NT4))
   simp only [List.cons_append, List.nil_append] at NN4
   replace hties := hties.keep fun v x q => TieAt.ks q (KS.of K4)
   replace hw2 := hw2.keep fun v x q => WdAt.ks q (KS.of K4)
   replace hta := K4 _ _ hta
   clear N4 K4 NT4 F3 F4 kp3 off3 hwa2
   revert hta; revert hw2; revert hties; revert NN4; revert kp4; revert off4; revert hw3; revert hwa3; revert hwa30; revert G4; revert hwa20; revert K; revert htm; revert hvl; revert T'; revert hlo; revert dR; revert dK; revert dL; revert hfit; revert CH; revert lt332; revert B'; revert X'; revert hli; revert hgens
   rename_i v0
   exact hP0 v0 tk wa2 h3 tk3 v2 nw2 wa3 h4 tk4 v3 nw3 tl4
namespace K2_0
abbrev TT : Type := (((Heap × Nat) × (Addr × Heap)) × ((Nat × (List Value)) × Nat)) × (((Addr × Heap) × Nat) × (((List Value) × Nat) × (List (Addr × Obj))))
def PP (p : TT) : Prop := sg2.1 p.1.1.1.1 p.1.1.1.2 p.1.1.2.1 p.1.1.2.2 p.1.2.1.1 p.1.2.1.2 p.1.2.2 p.2.1.1.1 p.2.1.1.2 p.2.1.2 p.2.2.1.1 p.2.2.1.2 p.2.2.2
def pt := ep ⟨default⟩ PP
@[irreducible] def v0 := pt.1.1.1.1
@[irreducible] def tk := pt.1.1.1.2
@[irreducible] def wa2 := pt.1.1.2.1
@[irreducible] def h3 := pt.1.1.2.2
@[irreducible] def tk3 := pt.1.2.1.1
@[irreducible] def v2 := pt.1.2.1.2
@[irreducible] def nw2 := pt.1.2.2
@[irreducible] def wa3 := pt.2.1.1.1
@[irreducible] def h4 := pt.2.1.1.2
@[irreducible] def tk4 := pt.2.1.2
@[irreducible] def v3 := pt.2.2.1.1
@[irreducible] def nw3 := pt.2.2.1.2
@[irreducible] def tl4 := pt.2.2.2
noncomputable def sg3 : (P0 : Addr -> Heap -> Heap -> Nat -> Addr -> Heap -> Nat -> (List Value) -> Nat -> (List Rl) -> (List (Addr × Obj)) -> Heap -> Obj -> Prop) ×' ((∀ x0 x1 x2 x3 x4 x5 x6 x7 x8 x9 x10 x11 x12, P0 x0 x1 x2 x3 x4 x5 x6 x7 x8 x9 x10 x11 x12) -> sg2.1 v0 tk wa2 h3 tk3 v2 nw2 wa3 h4 tk4 v3 nw3 tl4) := by
 apply PSigma.mk
 case snd =>
   intro hP0
   unfold sg2
   dsimp only
   intro hgens hli X' B' lt332 CH hfit dL dK dR hlo T' hvl htm K hwa20 G4 hwa30 hwa3 hw3 off4 kp4 NN4 hties hw2 hta
   try dsimp only
   k_steps
   refine kmk_add_lit G4 NN4 ⟨_, (NN4 (wa2, _) (.tail _ (.tail _ (.tail _ (.tail _ (.tail _ (.tail _ (.tail _ (.head _))))))))).1, rfl, _, rfl⟩ ⟨_, (NN4 (wa3, _) (.tail _ (.tail _ (.tail _ (.tail _ (.tail _ (.tail _ (.tail _ (.tail _ (.head _)))))))))).1, rfl, _, rfl⟩ rfl (fun wa h5 F5 N5 l5 => ?_) (by
     have e2 := hw2.1
     have e3 := hw3.1
     rw [show (rowsP 2 (2 + 1)).length = 6 from rfl] at e2
     rw [show (rowsP 3 (3 + 1)).length = 10 from rfl] at e3
     rw [sizeLine_eq]
     show v2.toArray.toList.length + v3.toArray.toList.length ≤ _
     rw [List.toList_toArray, List.toList_toArray, e2, e3]
     decide)
   have hws := hw2.append hw3
   replace hws : AllAt WdAt h4 (v2 ++ v3) w16 := hws
   have l5' := l5 (lk, _) (.tail _ (.tail _ (.tail _ (.tail _ (.head _)))))
   have N6 : News g L' h5 ((L' + 1 + 1 + 1, oL) :: (L' + 1 + 1, oK) :: (L' + 1, oR) :: (332, tabObj #[]) :: (lk, lst [Value.ref p0, Value.ref p1] nlk) :: (p0, tup [Value.int i0 t0, Value.int d0 t1] n0) :: (p1, tup [Value.int i1 t2, Value.int d1 t3] n1) :: (wa, lst (v2 ++ v3) 0) :: tl4) :=
     news_cons (N5 (L' + 1 + 1 + 1, oL) (by k_mem)) (news_cons (N5 (L' + 1 + 1, oK) (by k_mem)) (news_cons (N5 (L' + 1, oR) (by k_mem)) (news_cons (N5 (332, _) (by k_mem)) (news_cons (N5 (lk, _) (by k_mem)) (news_cons (N5 (p0, _) (by k_mem)) (news_cons (N5 (p1, _) (by k_mem)) (news_cons (N5 _ (.head _)) fun p hp => N5 p (by repeat (first | exact hp | apply List.Mem.tail)))))))))
   clear N5 l5 NN4 G4 hw2 hw3
   try dsimp only
   k_steps
   rename Fr g L' _ _ => F7
   rename News g L' _ _ => N7
   rename_i d7 _ _ _ _ _ _ _ _ _ _ _
   refine Halt.mk ?_
   try dsimp only at F7 N7
   have ks4 := kp4 _ F7.keep fun q hq => (N7 q (.tail _ (.tail _ (.tail _ (.tail _ (.tail _ (.tail _ (.tail _ (.tail _ (.tail _ (.tail _ hq))))))))))).1
   replace hties := hties.keep fun v x q => TieAt.ks q ks4
   replace hta := ks4 _ _ isSeq_lst hta
   replace hws := hws.keep fun v x q => WdAt.ks q ks4
   refine rules_spec w _ _ _ _ _ _ _ _ _ _ _ _ _ _ _ _ _ _ _ _ B' F7 X' T' rfl ta _ vt nt ties i0 d0 i1 d1 hta hties ⟨_, lk, p0, p1, _, _, t0, t1, t2, t3, _, _, _, _, (N7 _ (.head _)).1, (N7 _ (.tail _ (.head _))).1, (N7 _ (.tail _ (.tail _ (.tail _ (.tail _ (.tail _ (.tail _ (.head _)))))))).1, (N7 _ (.tail _ (.tail _ (.tail _ (.tail _ (.tail _ (.tail _ (.tail _ (.head _))))))))).1, (N7 _ (.tail _ (.tail _ (.tail _ (.tail _ (.tail _ (.tail _ (.tail _ (.tail _ (.head _)))))))))).1⟩ K (hties.1 ▸ hvl) (fun t ht => ⟨nn_rows (htm t ht).1, nn_rows (htm t ht).2⟩) (by decide) ?_
   intro ra h8 tk8 vr nr rs G8 K8 hra0 hra hrs hRP hOk hrl
   obtain ⟨tl8, NT8, off8, kp8⟩ := swallowC G8 K8 (news_cdr (news_cdr N7)) hra0 hra dL dK dR
   have NN8 := news_app (Mine.News.keep (News.pre8 (news_cdr (news_cdr N7))) K8) (news_cons (news_new F7 hra0 hra) NT8)
   simp only [List.cons_append, List.nil_append] at NN8
   replace hties := hties.keep fun v x q => TieAt.ks q (KS.of K8)
   replace hws := hws.keep fun v x q => WdAt.ks q (KS.of K8)
   replace hta := K8 _ _ hta
   clear N7 K8 NT8 F7 kp4 off4 ks4 hra
   try dsimp only
   k_steps
   with_reducible refine inCellsS ?_
   with_unfolding_all refine stCNk (own := [_, _]) (rest := (332, tabObj #[]) :: (lk, lst [Value.ref p0, Value.ref p1] nlk) :: (p0, tup [Value.int i0 t0, Value.int d0 t1] n0) :: (p1, tup [Value.int i1 t2, Value.int d1 t3] n1) :: (wa, lst (v2 ++ v3) 0) :: (ra, lst vr nr) :: tl8) G8 NN8 rfl dR ⟨.inl (Nat.ne_of_gt (Nat.lt_succ_of_lt (Nat.lt_succ_self _))), .inl (Nat.ne_of_gt (Nat.lt_succ_self _)), trivial⟩ ⟨.inr (fun _ q => by cases q), .inr (fun _ q => by cases q), .inr (fun _ q => by cases q), .inr (fun _ q => by cases q), .inr (fun _ q => by cases q), .inr (fun _ q => by cases q), apart_off (.tail _ (.tail _ (.head _))) off8⟩ ?_
   intro h9 oR9 F9 N9 dR9
   simp only [List.cons_append, List.nil_append] at N9
   clear NN8 G8 dR
   revert dR9; revert N9; revert F9; revert hta; revert hws; revert hties; revert kp8; revert off8; revert hrl; revert hOk; revert hRP; revert hrs; revert hra0; revert lifted; revert l5'; revert hwa3; revert hwa30; revert hwa20; revert K; revert htm; revert hvl; revert T'; revert hlo; revert dK; revert dL; revert hfit; revert CH; revert lt332; revert B'; revert X'; revert hli; revert hgens
   rename_i _ _ _ _ _ _ _ _ _ v9 _ _ _ _ _ _ v16 _ _ _ _
   exact hP0 wa v9 v16 tk ra h8 tk8 vr nr rs tl8 h9 oR9
namespace K3_0
abbrev TT : Type := (((Addr × Heap) × (Heap × Nat)) × ((Addr × Heap) × Nat)) × ((((List Value) × Nat) × (List Rl)) × (((List (Addr × Obj)) × Heap) × Obj))
def PP (p : TT) : Prop := sg3.1 p.1.1.1.1 p.1.1.1.2 p.1.1.2.1 p.1.1.2.2 p.1.2.1.1 p.1.2.1.2 p.1.2.2 p.2.1.1.1 p.2.1.1.2 p.2.1.2 p.2.2.1.1 p.2.2.1.2 p.2.2.2
def pt := ep ⟨default⟩ PP
@[irreducible] def wa := pt.1.1.1.1
@[irreducible] def v9 := pt.1.1.1.2
@[irreducible] def v16 := pt.1.1.2.1
@[irreducible] def tk := pt.1.1.2.2
@[irreducible] def ra := pt.1.2.1.1
@[irreducible] def h8 := pt.1.2.1.2
@[irreducible] def tk8 := pt.1.2.2
@[irreducible] def vr := pt.2.1.1.1
@[irreducible] def nr := pt.2.1.1.2
@[irreducible] def rs := pt.2.1.2
@[irreducible] def tl8 := pt.2.2.1.1
@[irreducible] def h9 := pt.2.2.1.2
@[irreducible] def oR9 := pt.2.2.2
noncomputable def sg4 : (P0 : Nat -> Value -> (List Value) -> Addr -> Obj -> Addr -> Obj -> Addr -> (Str -> Option Value) -> Heap -> Nat -> (Value -> Shared -> Prop) -> (List (Addr × Obj)) -> (List Wd) -> Prop) ×' (P1 : (List Value) -> (List (Addr × Obj)) -> (List Wd) -> Addr -> Heap -> Nat -> Addr -> Heap -> Nat -> (List Value) -> Nat -> (List (Addr × Obj)) -> Heap -> Obj -> Prop) ×' ((∀ x0 x1 x2 x3 x4 x5 x6 x7 x8 x9 x10 x11 x12 x13, P0 x0 x1 x2 x3 x4 x5 x6 x7 x8 x9 x10 x11 x12 x13) -> (∀ x0 x1 x2 x3 x4 x5 x6 x7 x8 x9 x10 x11 x12 x13, P1 x0 x1 x2 x3 x4 x5 x6 x7 x8 x9 x10 x11 x12 x13) -> sg3.1 wa v9 v16 tk ra h8 tk8 vr nr rs tl8 h9 oR9) := by
 apply PSigma.mk
 case snd =>
   apply PSigma.mk
   case snd =>
     intro hP0 hP1
     unfold sg3
     dsimp only
     intro hgens hli X' B' lt332 CH hfit dL dK hlo T' hvl htm K hwa20 hwa30 hwa3 l5' lifted hra0 hrs hRP hOk hrl off8 kp8 hties hws hta F9 N9 dR9
     try dsimp only
     k_steps
     refine Halt.mk ?_
     k_dflt (refine LCg.Assign_ListComp_U (F₀ := by k_asm) (by rfl) (by with_unfolding_all rfl) (by with_unfolding_all rfl) (by decide) (by rfl) (by decide) (by rfl) (by rfl) (by rfl) ?_)
     k_dflt lcg_toSrc
     rename Fr g L' _ _ => F10
     rename News g L' _ _ => N10
     have hw16 : (v2 ++ v3).length = 16 := hws.1
     refine LCg.CompSrc.ledger (its := (v2 ++ v3).toArray) (k := 0) (by rfl) F10 N10 (.tail _ (.tail _ (.tail _ (.tail _ (.tail _ (.tail _ (.tail _ (.head _)))))))) (by rw [List.size_toArray, hw16]; decide) fun gg => compRest_J (J := fun i ys news => ∃ tlx es, EndsJ g ta nt i vt (v2 ++ v3) vr ties rs [L' + 1 + 1 + 1, L' + 1 + 1, L' + 1, 332] ys es tlx ∧ news = [(L' + 1 + 1 + 1, oL), (L' + 1 + 1, oK), (L' + 1, oR9), (332, tabObj #[]), (lk, lst [Value.ref p0, Value.ref p1] nlk), (p0, tup [Value.int i0 t0, Value.int d0 t1] n0), (p1, tup [Value.int i1 t2, Value.int d1 t3] n1), (wa, lst (v2 ++ v3) 0), (ra, lst vr nr)] ++ tlx) ?_ ?_ (v2 ++ v3).toArray.size 0 [] _ (Nat.zero_add _)
       ⟨tl8, [], ⟨off8, rfl, fun k u e _ h => by simp at h, fun h₂ a b => ⟨AllAt.nil, hties.keep fun v x q => TieAt.ks q (kp8 _ a b), hws.keep fun v x q => WdAt.ks q (kp8 _ a b), hrs.keep fun v x q => RlAt.ks q (kp8 _ a b), kp8 _ a b _ _ isSeq_lst hta⟩⟩, rfl⟩
     . rintro i v ys news I oI C oC D m₂ h tk E' hi hP ⟨tlx, es, ⟨offx, hes, hdn, hfx⟩, rfl⟩ hC hx F11 N11 off ne
       simp only [List.cons_append, List.nil_append] at N11 off ⊢
       revert ne; revert off; revert N11; revert F11; revert hx; revert hC; revert hfx; revert hdn; revert hes; revert offx; revert hP; revert hi; revert hw16; revert dR9; revert N10; revert F10; revert hta; revert hws; revert hties; revert kp8; revert off8; revert hrl; revert hOk; revert hRP; revert hrs; revert hra0; revert lifted; revert l5'; revert hwa3; revert hwa30; revert hwa20; revert K; revert htm; revert hvl; revert T'; revert hlo; revert dK; revert dL; revert hfit; revert CH; revert lt332; revert B'; revert X'; revert hli; revert hgens
       exact hP0 i v ys I oI C oC D m₂ h tk E' tlx es
     . rintro ys news ⟨tlx, es, ⟨offx, hes, hdn, hfx⟩, rfl⟩
       simp only [List.cons_append, List.nil_append]
       rw [List.size_toArray, hw16] at hes
       unfold LCg.FinA
       clear F10 N10 kp8 off8
       intro ea h14 tk14 F14 N14 o14
       k_steps
       obtain ⟨hye, hties14, hws14, -, hta14⟩ := hfx h14 F14.keep fun q hq => (N14 q (.tail _ (.tail _ (.tail _ (.tail _ (.tail _ (.tail _ (.tail _ (.tail _ (.tail _ (.tail _ hq))))))))))).1
       refine Halt.mk ?_
       refine kinds_spec w _ _ _ _ _ _ _ _ _ _ _ _ _ _ _ _ _ _ _ _ _ B' F14 X' T' rfl ta wa vt (v2 ++ v3) nt 0 ties w16 hta14 hties14 (N14 (wa, _) (.tail _ (.tail _ (.tail _ (.tail _ (.tail _ (.tail _ (.tail _ (.tail _ (.head _)))))))))).1 hws14 (by rw [hw16]; decide) (fun t ht y hy => ⟨wth_w16 (htm t ht).1 hy, wth_w16 (htm t ht).2 hy⟩) (by decide) (by decide) ?_
       intro ka h15 tk15 kv nk G15 K15 hka0 hka hki
       obtain ⟨tl15, NT15, off15, kp15⟩ := swallowC G15 K15 (news_cdr N14) hka0 hka dL dK dR9
       have NN15 := news_app (Mine.News.keep (News.pre8 (news_cdr N14)) K15) (news_cons ⟨K15 _ _ (N14 (ea, _) (.head _)).1, (N14 (ea, _) (.head _)).2⟩ (news_cons (news_new F14 hka0 hka) NT15))
       simp only [List.cons_append, List.nil_append] at NN15
       have hye15 := hye.keep fun v x q => WdAt.ks q (KS.of K15)
       have hws15 := hws14.keep fun v x q => WdAt.ks q (KS.of K15)
       clear NT15 hye hws14 hties14 hta14
       try dsimp only
       k_steps
       with_reducible refine inCellsS ?_
       with_unfolding_all refine stCNk (own := [_]) (rest := (L' + 1, oR9) :: (332, tabObj #[]) :: (lk, lst [Value.ref p0, Value.ref p1] nlk) :: (p0, tup [Value.int i0 t0, Value.int d0 t1] n0) :: (p1, tup [Value.int i1 t2, Value.int d1 t3] n1) :: (wa, lst (v2 ++ v3) 0) :: (ea, LCg.lst ys) :: (ka, lst kv nk) :: tl15) G15 NN15 rfl dK ⟨.inl (Nat.ne_of_gt (Nat.lt_succ_self _)), trivial⟩ ⟨.inl (Nat.ne_of_lt (Nat.lt_succ_self _)), .inr (fun _ q => by cases q), .inr (fun _ q => by cases q), .inr (fun _ q => by cases q), .inr (fun _ q => by cases q), .inr (fun _ q => by cases q), .inr (fun _ q => by cases q), .inr (fun _ q => by cases q), apart_off (.tail _ (.head _)) off15⟩ ?_
       intro h16 oK16 F16 N16 dK16
       simp only [List.cons_append, List.nil_append] at N16
       clear NN15 G15
       revert dK16; revert N16; revert F16; revert hws15; revert hye15; revert kp15; revert off15; revert hki; revert hka; revert hka0; revert K15; revert o14; revert N14; revert F14; revert hfx; revert hdn; revert hes; revert offx; revert hw16; revert dR9; revert hta; revert hws; revert hties; revert hrl; revert hOk; revert hRP; revert hrs; revert hra0; revert lifted; revert l5'; revert hwa3; revert hwa30; revert hwa20; revert K; revert htm; revert hvl; revert T'; revert hlo; revert dK; revert dL; revert hfit; revert CH; revert lt332; revert B'; revert X'; revert hli; revert hgens
       exact hP1 ys tlx es ea h14 tk14 ka h15 tk15 kv nk tl15 h16 oK16
namespace K4_0
abbrev TT : Type := (((Nat × Value) × ((List Value) × Addr)) × ((Obj × Addr) × Obj)) × (((Addr × (Str -> Option Value)) × (Heap × Nat)) × (((Value -> Shared -> Prop) × (List (Addr × Obj))) × (List Wd)))
def PP (p : TT) : Prop := sg4.1 p.1.1.1.1 p.1.1.1.2 p.1.1.2.1 p.1.1.2.2 p.1.2.1.1 p.1.2.1.2 p.1.2.2 p.2.1.1.1 p.2.1.1.2 p.2.1.2.1 p.2.1.2.2 p.2.2.1.1 p.2.2.1.2 p.2.2.2
def pt := ep ⟨default⟩ PP
@[irreducible] def i := pt.1.1.1.1
@[irreducible] def v := pt.1.1.1.2
@[irreducible] def ys := pt.1.1.2.1
@[irreducible] def I := pt.1.1.2.2
@[irreducible] def oI := pt.1.2.1.1
@[irreducible] def C := pt.1.2.1.2
@[irreducible] def oC := pt.1.2.2
@[irreducible] def D := pt.2.1.1.1
@[irreducible] def m₂ := pt.2.1.1.2
@[irreducible] def h := pt.2.1.2.1
@[irreducible] def tk := pt.2.1.2.2
@[irreducible] def E' := pt.2.2.1.1
@[irreducible] def tlx := pt.2.2.1.2
@[irreducible] def es := pt.2.2.2
theorem sg5 : sg4.1 i v ys I oI C oC D m₂ h tk E' tlx es := by
 unfold sg4
 dsimp only
 intro hgens hli X' B' lt332 CH hfit dL dK hlo T' hvl htm K hwa20 hwa30 hwa3 l5' lifted hra0 hrs hRP hOk hrl off8 kp8 hties hws hta F10 N10 dR9 hw16 hi hP offx hes hdn hfx hC hx F11 N11 off ne
 k_steps
 have NM : News g L' h [(I, oI), (C, oC), (D, LCg.lst ys), (L' + 1 + 1 + 1, oL), (L' + 1 + 1, oK), (L' + 1, oR9), (332, tabObj #[])] := fun p hp => N11 p (List.mem_append.mpr (.inl hp) : p ∈ [(I, oI), (C, oC), (D, LCg.lst ys), (L' + 1 + 1 + 1, oL), (L' + 1 + 1, oK), (L' + 1, oR9), (332, tabObj #[])] ++ _)
 have kg0 := keeps_hide F11 NM
 have kg : Mine.Keeps g (hideAll h [I, C, D, L' + 1 + 1 + 1, L' + 1 + 1, L' + 1, 332]) := kg0
 have hM : ∀ q ∈ tlx, q.1 ∉ [I, C, D, L' + 1 + 1 + 1, L' + 1 + 1, L' + 1, 332] := fun q hq => by
   have a1 := LCg.Off3.mem off q (.tail _ (.tail _ (.tail _ (.tail _ (.tail _ (.tail _ (.tail _ (.tail _ (.tail _ hq)))))))))
   have a2 := offx q hq
   exact notin3 a1.1 a1.2.1 a1.2.2 a2
 have ht : Has tlx (hideAll h [I, C, D, L' + 1 + 1 + 1, L' + 1 + 1, L' + 1, 332]) := fun q hq => hideAll_get _ (N11 q (.tail _ (.tail _ (.tail _ (.tail _ (.tail _ (.tail _ (.tail _ (.tail _ (.tail _ (.tail _ (.tail _ (.tail _ hq))))))))))))).1 (hM q hq)
 obtain ⟨hy1, hti1, hw1, hr1, hta1⟩ := hfx _ kg ht
 have hi16 : i < 16 := by simpa [hw16] using hi
 obtain ⟨v', u, ev, eu, hwd⟩ := hw1.get (k := i) (by omega)
 have hv : v = v' := by
   have hP' : (v2 ++ v3)[i]? = some v := by simpa using hP
   exact Option.some.inj (hP'.symm.trans ev)
 subst hv
 obtain ⟨aw, eaw, hW⟩ := hwd
 rw [eaw]
 refine Halt.mk ?_
 refine down_spec w _ _ _ _ _ _ _ _ _ _ _ _ _ _ _ _ _ _ _ _ _ B' F11 X' T' rfl aw ra u vr nr rs (fun u => Nn 2 u ∨ Nn 3 u) (mu i0 d0 i1 d1) (hW.ks KS.hidden) (N11 (ra, _) (.tail _ (.tail _ (.tail _ (.tail _ (.tail _ (.tail _ (.tail _ (.tail _ (.tail _ (.tail _ (.tail _ (.head _))))))))))))).1 (hr1.keep fun v x q => q.ks KS.hidden) (by rw [hrs.1]; omega) (nn_w16 (List.mem_of_getElem? eu)) (fun u r hu hr hf => ?_) (by decide) (by decide) ?_
 . obtain ⟨e, ok⟩ := hOk r hr
   exact hu.elim (fun n => ⟨.inl (mu_step K (by decide) n ok hf).1, (mu_step K (by decide) n ok hf).2⟩) fun n => ⟨.inr (mu_step K (by decide) n ok hf).1, (mu_step K (by decide) n ok hf).2⟩
 intro D2 h12 tk12 e2 G12 K12 hD2 hdn2 hW2
 obtain ⟨tl2, NT2, off2, kp2⟩ := swallow G12 [I, C, D, L' + 1 + 1 + 1, L' + 1 + 1, L' + 1, 332]
 have k12 : KS (hideAll h [I, C, D, L' + 1 + 1 + 1, L' + 1 + 1, L' + 1, 332]) (hideAll h12 [I, C, D, L' + 1 + 1 + 1, L' + 1 + 1, L' + 1, 332]) := KeepsSeq.hide fun b o _ _ e => K12 b o e
 have hD2M : D2 ∉ [I, C, D, L' + 1 + 1 + 1, L' + 1 + 1, L' + 1, 332] := by
   rcases hD2 with q | q
   . intro z
     obtain ⟨_, _, _, _, e⟩ := hW
     rw [← q, hideAll_none _ z] at e; cases e
   . intro z
     replace q : h.get? D2 = none := q
     have : ∃ o, h.get? D2 = some o := by
       rcases in7 z with rfl | rfl | rfl | rfl | rfl | rfl | rfl
       . exact ⟨_, (NM _ (.head _)).1⟩
       . exact ⟨_, (NM _ (.tail _ (.head _))).1⟩
       . exact ⟨_, (NM _ (.tail _ (.tail _ (.head _)))).1⟩
       . exact ⟨_, (NM _ (.tail _ (.tail _ (.tail _ (.head _))))).1⟩
       . exact ⟨_, (NM _ (.tail _ (.tail _ (.tail _ (.tail _ (.head _)))))).1⟩
       . exact ⟨_, (NM _ (.tail _ (.tail _ (.tail _ (.tail _ (.tail _ (.head _))))))).1⟩
       . exact ⟨_, (NM _ (.tail _ (.tail _ (.tail _ (.tail _ (.tail _ (.tail _ (.head _)))))))).1⟩
     obtain ⟨o, e⟩ := this
     rw [q] at e; cases e
 have NN : News g L' h12 ([(I, oI), (C, oC), (D, LCg.lst ys), (L' + 1 + 1 + 1, oL), (L' + 1 + 1, oK), (L' + 1, oR9), (332, tabObj #[]), (lk, lst [Value.ref p0, Value.ref p1] nlk), (p0, tup [Value.int i0 t0, Value.int d0 t1] n0), (p1, tup [Value.int i1 t2, Value.int d1 t3] n1), (wa, lst (v2 ++ v3) 0), (ra, lst vr nr)] ++ tl2) := news_app (Mine.News.keep (fun p hp => N11 p (List.mem_append.mpr (.inl hp) : p ∈ [(I, oI), (C, oC), (D, LCg.lst ys), (L' + 1 + 1 + 1, oL), (L' + 1 + 1, oK), (L' + 1, oR9), (332, tabObj #[]), (lk, lst [Value.ref p0, Value.ref p1] nlk), (p0, tup [Value.int i0 t0, Value.int d0 t1] n0), (p1, tup [Value.int i1 t2, Value.int d1 t3] n1), (wa, lst (v2 ++ v3) 0), (ra, lst vr nr)] ++ tlx)) K12) NT2
 refine LCg.CompEnd.intro G12 NN ([(L' + 1 + 1 + 1, oL), (L' + 1 + 1, oK), (L' + 1, oR9), (332, tabObj #[]), (lk, lst [Value.ref p0, Value.ref p1] nlk), (p0, tup [Value.int i0 t0, Value.int d0 t1] n0), (p1, tup [Value.int i1 t2, Value.int d1 t3] n1), (wa, lst (v2 ++ v3) 0), (ra, lst vr nr)] ++ tl2) (fun p hp => hp) (LCg.Off3.of fun p hp => ?_) (by lcg_src) ⟨tl2, es ++ [e2], ⟨fun q hq z => ?_, by rw [List.length_append, hes]; rfl, fun k u' e' hu' he' => ?_, fun h₂ a b => ?_⟩, rfl⟩
 . rcases List.mem_append.mp hp with hp | hp
   . exact LCg.Off3.mem off p (List.mem_append.mpr (.inl hp) : p ∈ [(L' + 1 + 1 + 1, oL), (L' + 1 + 1, oK), (L' + 1, oR9), (332, tabObj #[]), (lk, lst [Value.ref p0, Value.ref p1] nlk), (p0, tup [Value.int i0 t0, Value.int d0 t1] n0), (p1, tup [Value.int i1 t2, Value.int d1 t3] n1), (wa, lst (v2 ++ v3) 0), (ra, lst vr nr)] ++ tlx)
   . have := off2 p hp
     exact ne3 this
 . exact off2 q hq (.tail _ (.tail _ (.tail _ z)))
 . by_cases c : k < i
   . rw [List.getElem?_append_left (hes ▸ c)] at he'
     exact hdn k u' e' hu' he'
   . rw [List.getElem?_append_right (by omega)] at he'
     have ki : k = i := by
       have := (List.getElem?_eq_some_iff.mp he').1
       rw [hes] at this
       simp at this; omega
     rw [ki, hes, Nat.sub_self] at he'
     rw [ki, eu] at hu'
     cases he'; cases hu'
     exact hdn2
 . have kk : KS (hideAll h [I, C, D, L' + 1 + 1 + 1, L' + 1 + 1, L' + 1, 332]) h₂ := k12.trans (KS.trans (kp2 h₂ a b).hide KS.hidden)
   refine ⟨(hy1.keep fun v x q => WdAt.ks q kk).push ⟨D2, rfl, (hW2.hide hD2M).ks (KS.trans (kp2 h₂ a b).hide KS.hidden)⟩, hti1.keep fun v x q => TieAt.ks q kk, hw1.keep fun v x q => WdAt.ks q kk, hr1.keep fun v x q => RlAt.ks q kk, kk _ _ isSeq_lst hta1⟩
theorem fin : ∀ x, PP x := drink ⟨default⟩ PP (by with_unfolding_all exact sg5)
end K4_0
namespace K4_1
abbrev TT : Type := ((((List Value) × (List (Addr × Obj))) × ((List Wd) × Addr)) × ((Heap × Nat) × Addr)) × (((Heap × Nat) × ((List Value) × Nat)) × (((List (Addr × Obj)) × Heap) × Obj))
def PP (p : TT) : Prop := sg4.2.1 p.1.1.1.1 p.1.1.1.2 p.1.1.2.1 p.1.1.2.2 p.1.2.1.1 p.1.2.1.2 p.1.2.2 p.2.1.1.1 p.2.1.1.2 p.2.1.2.1 p.2.1.2.2 p.2.2.1.1 p.2.2.1.2 p.2.2.2
def pt := ep ⟨default⟩ PP
@[irreducible] def ys := pt.1.1.1.1
@[irreducible] def tlx := pt.1.1.1.2
@[irreducible] def es := pt.1.1.2.1
@[irreducible] def ea := pt.1.1.2.2
@[irreducible] def h14 := pt.1.2.1.1
@[irreducible] def tk14 := pt.1.2.1.2
@[irreducible] def ka := pt.1.2.2
@[irreducible] def h15 := pt.2.1.1.1
@[irreducible] def tk15 := pt.2.1.1.2
@[irreducible] def kv := pt.2.1.2.1
@[irreducible] def nk := pt.2.1.2.2
@[irreducible] def tl15 := pt.2.2.1.1
@[irreducible] def h16 := pt.2.2.1.2
@[irreducible] def oK16 := pt.2.2.2
noncomputable def sg6 : (P0 : Addr -> Heap -> Nat -> (List Value) -> Nat -> (Array Nat) -> (Array Value) -> (List (Addr × Obj)) -> Heap -> Obj -> Prop) ×' ((∀ x0 x1 x2 x3 x4 x5 x6 x7 x8 x9, P0 x0 x1 x2 x3 x4 x5 x6 x7 x8 x9) -> sg4.2.1 ys tlx es ea h14 tk14 ka h15 tk15 kv nk tl15 h16 oK16) := by
 apply PSigma.mk
 case snd =>
   intro hP0
   unfold sg4
   dsimp only
   intro hgens hli X' B' lt332 CH hfit dL dK hlo T' hvl htm K hwa20 hwa30 hwa3 l5' lifted hra0 hrs hRP hOk hrl hties hws hta dR9 hw16 offx hes hdn hfx F14 N14 o14 K15 hka0 hka hki off15 kp15 hye15 hws15 F16 N16 dK16
   try dsimp only
   k_steps
   have ks16 := kp15 _ F16.keep fun q hq => (N16 q (.tail _ (.tail _ (.tail _ (.tail _ (.tail _ (.tail _ (.tail _ (.tail _ (.tail _ (.tail _ hq))))))))))).1
   have NK : News g L' h16 [(332, tabObj #[]), (lk, lst [Value.ref p0, Value.ref p1] nlk), (p0, tup [Value.int i0 t0, Value.int d0 t1] n0), (p1, tup [Value.int i1 t2, Value.int d1 t3] n1)] := fun p hp => N16 p (.tail _ (.tail _ (.tail _ (List.mem_append.mpr (.inl hp) : p ∈ [(332, tabObj #[]), (lk, lst [Value.ref p0, Value.ref p1] nlk), (p0, tup [Value.int i0 t0, Value.int d0 t1] n0), (p1, tup [Value.int i1 t2, Value.int d1 t3] n1)] ++ _))))
   have hye16 := (hye15.keep fun v x q => WdAt.ks q ks16).keep fun v x q => WdAt.hideK q NK
   have hws16 := (hws15.keep fun v x q => WdAt.ks q ks16).keep fun v x q => WdAt.hideK q NK
   have hkl : (kindsP w16 ties).length = 16 := kindsP_len
   have hkv : kv.length = 16 := hki.length.trans hkl
   have hwaK := hide_lst NK (N16 (wa, _) (.tail _ (.tail _ (.tail _ (.tail _ (.tail _ (.tail _ (.tail _ (.head _))))))))).1 (by rw [hw16]; decide)
   have hyl : ys.length = 16 := hye15.1.trans hes
   have heaK := hide_lst NK (N16 (ea, _) (.tail _ (.tail _ (.tail _ (.tail _ (.tail _ (.tail _ (.tail _ (.tail _ (.head _)))))))))).1 (by rw [hyl]; decide)
   have hkaK := hide_lst NK (N16 (ka, _) (.tail _ (.tail _ (.tail _ (.tail _ (.tail _ (.tail _ (.tail _ (.tail _ (.tail _ (.head _))))))))))).1 (by rw [hkv]; decide)
   clear hye15 hws15 hka0 hka off15 kp15 ks16 K15
   refine Halt.mk ?_
   refine least_spec w _ _ _ _ _ _ _ _ _ _ _ _ _ _ _ _ _ _ _ _ _ B' F16 X' T' rfl wa ka lk p0 p1 (v2 ++ v3) kv 0 nk nlk n0 n1 (kindsP w16 ties) i0 d0 i1 d1 t0 t1 t2 t3 NK CH hwaK hws16 hkaK hki hkl K (by decide) (by decide) ?_
   intro la h17 tk17 lv nl17 ps hps ⟨tz, hz⟩ G17 K17 hla0 hla hlv
   obtain ⟨tl17, NT17, off17, kp17'⟩ := swallow G17 [L' + 1 + 1 + 1]
   have c3K := K17 _ _ (hide_cell NK (N16 _ (.head _)).1 dL)
   have c2K := K17 _ _ (hide_cell NK (N16 _ (.tail _ (.head _))).1 dK16)
   have c1K := K17 _ _ (hide_cell NK (N16 _ (.tail _ (.tail _ (.head _)))).1 dR9)
   have kp17 : ∀ h₂, Mine.Keeps g h₂ -> Has tl17 h₂ -> KS h17 h₂ := fun h₂ a b => (kp17' h₂ a b).all fun q hq o e => by
     rw [List.mem_singleton.mp hq, c3K] at e; cases e; exact no_cell dL
   have la17 := hide_new F16 NK hla0 hla
   have NN17 := news_cons ⟨c3K, (N16 _ (.head _)).2⟩ (news_cons ⟨c2K, (N16 _ (.tail _ (.head _))).2⟩ (news_cons ⟨c1K, (N16 _ (.tail _ (.tail _ (.head _)))).2⟩ (news_cons (a := 332) (o := tabObj tz) ⟨hz, (N16 _ (.tail _ (.tail _ (.tail _ (.head _))))).2⟩ (news_cons ⟨K17 _ _ hwaK, (N16 _ (.tail _ (.tail _ (.tail _ (.tail _ (.tail _ (.tail _ (.tail _ (.head _))))))))).2⟩ (news_cons ⟨K17 _ _ heaK, (N16 _ (.tail _ (.tail _ (.tail _ (.tail _ (.tail _ (.tail _ (.tail _ (.tail _ (.head _)))))))))).2⟩ (news_cons ⟨K17 _ _ hkaK, (N16 _ (.tail _ (.tail _ (.tail _ (.tail _ (.tail _ (.tail _ (.tail _ (.tail _ (.tail _ (.head _))))))))))).2⟩ (news_cons la17 NT17)))))))
   have hye17 := hye16.keep fun v x q => WdAt.ks q (KS.of K17)
   have hws17 := hws16.keep fun v x q => WdAt.ks q (KS.of K17)
   clear kp17' c3K c2K c1K la17 hwaK heaK hkaK K17 NK hla0 N16 hye16 hws16
   try dsimp only
   k_steps
   with_reducible refine inCellsS ?_
   with_unfolding_all refine stCNk (own := []) (rest := (L' + 1 + 1, oK16) :: (L' + 1, oR9) :: (332, tabObj tz) :: (wa, lst (v2 ++ v3) 0) :: (ea, LCg.lst ys) :: (ka, lst kv nk) :: (la, lst lv nl17) :: tl17) G17 NN17 rfl dL trivial ⟨.inl (Nat.ne_of_lt (Nat.lt_succ_self _)), .inl (Nat.ne_of_lt (Nat.lt_succ_of_lt (Nat.lt_succ_self _))), .inr (fun _ q => by cases q), .inr (fun _ q => by cases q), .inr (fun _ q => by cases q), .inr (fun _ q => by cases q), .inr (fun _ q => by cases q), apart_off (.head _) off17⟩ ?_
   intro h18 oL18 F18 N18 dL18
   simp only [List.nil_append] at N18
   clear NN17 G17
   revert dL18; revert N18; revert F18; revert hws17; revert hye17; revert kp17; revert off17; revert NT17; revert hlv; revert hla; revert hz; revert hps; revert hyl; revert hkv; revert hkl; revert dK16; revert F16; revert hki; revert o14; revert N14; revert F14; revert hfx; revert hdn; revert hes; revert offx; revert hw16; revert dR9; revert hta; revert hws; revert hties; revert hrl; revert hOk; revert hRP; revert hrs; revert hra0; revert lifted; revert l5'; revert hwa3; revert hwa30; revert hwa20; revert K; revert htm; revert hvl; revert T'; revert hlo; revert dK; revert dL; revert hfit; revert CH; revert lt332; revert B'; revert X'; revert hli; revert hgens
   exact hP0 la h17 tk17 lv nl17 ps tz tl17 h18 oL18
namespace K6_0
abbrev TT : Type := (((Addr × Heap) × Nat) × ((List Value) × Nat)) × ((((Array Nat) × (Array Value)) × (List (Addr × Obj))) × (Heap × Obj))
def PP (p : TT) : Prop := sg6.1 p.1.1.1.1 p.1.1.1.2 p.1.1.2 p.1.2.1 p.1.2.2 p.2.1.1.1 p.2.1.1.2 p.2.1.2 p.2.2.1 p.2.2.2
def pt := ep ⟨default⟩ PP
@[irreducible] def la := pt.1.1.1.1
@[irreducible] def h17 := pt.1.1.1.2
@[irreducible] def tk17 := pt.1.1.2
@[irreducible] def lv := pt.1.2.1
@[irreducible] def nl17 := pt.1.2.2
@[irreducible] def ps := pt.2.1.1.1
@[irreducible] def tz := pt.2.1.1.2
@[irreducible] def tl17 := pt.2.1.2
@[irreducible] def h18 := pt.2.2.1
@[irreducible] def oL18 := pt.2.2.2
theorem sg7 : sg6.1 la h17 tk17 lv nl17 ps tz tl17 h18 oL18 := by
 unfold sg6
 dsimp only
 intro hgens hli X' B' lt332 CH hfit dL dK hlo T' hvl htm K hwa20 hwa30 hwa3 l5' lifted hra0 hrs hRP hOk hrl hties hws hta dR9 hw16 offx hes hdn hfx F14 N14 o14 hki F16 dK16 hkl hkv hyl hps hz hla hlv NT17 off17 kp17 hye17 hws17 F18 N18 dL18
 have ks18 := kp17 _ F18.keep fun q hq => (N18 q (.tail _ (.tail _ (.tail _ (.tail _ (.tail _ (.tail _ (.tail _ (.tail _ (hq)))))))))).1
 have hye18 := hye17.keep fun v x q => WdAt.ks q ks18
 have hlv18 := hlv.keep fun v x q => WdAt.ks q ks18
 clear hws17 ks18
 try dsimp only
 k_steps
 obtain ⟨hel, hfi⟩ := plain_law i0 d0 i1 d1 ties rs es ps K (hties.1.symm.trans hvl) htm hRP hes hdn hps
 refine Halt.mk ?_
 refine ne_words (N18 (ea, _) (.tail _ (.tail _ (.tail _ (.tail _ (.tail _ (.head _))))))).1 (N18 (la, _) (.tail _ (.tail _ (.tail _ (.tail _ (.tail _ (.tail _ (.tail _ (.head _))))))))).1 hye18 hlv18 (by show 4 + 3 + 64 < 9900; decide) ?_
 rw [show (!decide (es = leastP (kindsP w16 ties) ps.toList)) = false by rw [← hel]; simp]
 try dsimp only
 k_steps
 refine Halt.mk ?_
 k_dflt (refine LCt.Assign_ListComp_T (F₀ := by k_asm) (by rfl) (by with_unfolding_all rfl) (by with_unfolding_all rfl) (by decide) (by rfl) (by decide) (by rfl) (by rfl) (by rfl) ?_)
 k_steps
 refine Halt.mk ?_
 refine len_list ⟨_, (N18 (wa, _) (.tail _ (.tail _ (.tail _ (.tail _ (.head _)))))).1, rfl, _, rfl⟩ (by rw [List.size_toArray, hw16]; decide) ?_
 rw [List.size_toArray, hw16]
 k_steps
 rename IsRange _ _ _ _ _ _ _ _ => hR
 rename Fr g L' _ _ => F20
 rename News g L' _ _ => N20
 refine Halt.mk ?_
 refine LCt.CompSrcT.range (n := 16) (by rfl) F20 N20 hR (by decide) (by rfl) (by rw [sizeLine_eq]; decide) fun gg => compRestT_J (J := fun i zs news => zs = fst1 (kindsP w16 ties) lv i ∧ news = [(L' + 1 + 1 + 1, oL18), (L' + 1 + 1, oK16), (L' + 1, oR9), (332, tabObj tz), (wa, lst (v2 ++ v3) 0), (ea, LCg.lst ys), (ka, lst kv nk), (la, lst lv nl17)] ++ tl17) ?_ ?_ 16 0 [] _ (Nat.zero_add _) ⟨rfl, rfl⟩
 . rintro i v zs news I oI C oC D m₂ h tk E' hi ⟨tv, rfl⟩ ⟨rfl, rfl⟩ hC hx F21 N21 off ne
   simp only [List.cons_append, List.nil_append] at N21 off ⊢
   k_steps
   rename Fr g L' _ _ => F29
   rename News g L' _ _ => N29
   rename IntsAre _ (List.take _ _) => hI29
   refine Halt.mk ?_
   refine notin_list_ints ⟨_, (N29 _ (.head _)).1, rfl, _, rfl⟩ hI29 ?_
   k_steps
   . rename Fr g L' _ _ => F22
     rename News g L' _ _ => N22
     refine Halt.mk ?_
     refine LCg.CompEnd.intro F22 N22 _ (fun p hp => .tail _ hp) off ?_ ?_
     . exact trivial
     . exact ⟨(fst1_no (by assumption)).symm, rfl⟩
   . rename Fr g L' _ _ => F22
     rename News g L' _ _ => N22
     refine Halt.mk ?_
     with_reducible show wpAny _ _ (subscriptTail _ _ (Value.ref _) (Value.int _ _)) _ _ _
     with_unfolding_all refine' item_listL ?zl ?za ?zb ?zc ?_ ?zd ?ze
     case zl => exact ⟨_, (N22 (la, _) (.tail _ (.tail _ (.tail _ (.tail _ (.tail _ (.tail _ (.tail _ (.tail _ (.tail _ (.tail _ (.tail _ (.head _))))))))))))).1, rfl, _, rfl⟩
     case za => omega
     case zb => omega
     case zc => exact lv_at (by rw [hlv18.1, least_len]; exact hi)
     case zd => with_unfolding_all rfl
     case ze => intro _; with_unfolding_all rfl
     k_steps
     refine Halt.mk ?_
     refine LCg.CompEnd.intro F22 N22 _ (fun p hp => .tail _ hp) off ?_ ?_
     . exact trivial
     . exact ⟨(fst1_yes (by assumption)).symm, rfl⟩
 . rintro zs news ⟨rfl, rfl⟩
   simp only [List.cons_append, List.nil_append]
   clear F20 N20
   unfold LCg.FinA
   intro fa h24 tk24 F24 N24 o24
   k_steps
   have ks24 := kp17 _ F24.keep fun q hq => (N24 q (.tail _ (.tail _ (.tail _ (.tail _ (.tail _ (.tail _ (.tail _ (.tail _ (.tail _ (hq))))))))))).1
   have hye24 := hye17.keep fun v x q => WdAt.ks q ks24
   have hfs24 := AllAt.fst1 (ks := kindsP w16 ties) (hlv.keep fun v x q => WdAt.ks q ks24) least_len
   refine Halt.mk ?_
   refine dedup_spec w _ _ _ _ _ _ _ _ _ _ _ _ _ _ _ _ _ _ _ _ _ B' F24 X' T' rfl ea ys _ es (N24 (ea, _) (.tail _ (.tail _ (.tail _ (.tail _ (.tail _ (.tail _ (.head _)))))))).1 hye24 (by rw [hyl]; decide) (by decide) (by decide) ?_
   intro da h25 tk25 dv nd G25 K25 hda0 hda hdv
   have hfs25 := hfs24.keep fun v x q => WdAt.ks q (KS.of K25)
   have hfa := K25 _ _ (N24 _ (.head _)).1
   have N25 : News g L' h25 [(332, tabObj tz)] := news_cons ⟨K25 _ _ (N24 _ (.tail _ (.tail _ (.tail _ (.tail _ (.head _)))))).1, (N24 _ (.tail _ (.tail _ (.tail _ (.tail _ (.head _)))))).2⟩ news_nil
   k_steps
   refine Halt.mk ?_
   refine cmp_words hda hfa hdv hfs25 (by show 4 + 3 + 64 < 9900; decide) ?_
   rw [show decide (dedupP es = firstsP (kindsP w16 ties) (leastP (kindsP w16 ties) ps.toList)) = true by rw [← hfi]; simp]
   k_steps
theorem fin : ∀ x, PP x := drink ⟨default⟩ PP (by with_unfolding_all exact sg7)
end K6_0
theorem fin : ∀ x, PP x := drink ⟨default⟩ PP (by with_unfolding_all exact sg6.2 (by intros; exact K6_0.fin ((((_, _), _), (_, _)), (((_, _), _), (_, _)))))
end K4_1
theorem fin : ∀ x, PP x := drink ⟨default⟩ PP (by with_unfolding_all exact sg4.2.2 (by intros; exact K4_0.fin ((((_, _), (_, _)), ((_, _), _)), (((_, _), (_, _)), ((_, _), _)))) (by intros; exact K4_1.fin ((((_, _), (_, _)), ((_, _), _)), (((_, _), (_, _)), ((_, _), _)))))
end K3_0
theorem fin : ∀ x, PP x := drink ⟨default⟩ PP (by with_unfolding_all exact sg3.2 (by intros; exact K3_0.fin ((((_, _), (_, _)), ((_, _), _)), (((_, _), _), ((_, _), _)))))
end K2_0
theorem fin : ∀ x, PP x := drink ⟨default⟩ PP (by with_unfolding_all exact sg2.2 (by intros; exact K2_0.fin ((((_, _), (_, _)), ((_, _), _)), (((_, _), _), ((_, _), _)))))
end K1_0
theorem fin : ∀ x, PP x := drink nn PP (by with_unfolding_all exact sg1.2 (by intros; exact K1_0.fin (((((_, _), _), ((_, _), _)), (((_, _), _), ((_, _), _))), ((((_, _), _), ((_, _), _)), (((_, _), _), (_, _))))))
end K0_0
end HLc
theorem PySem.Challenge.cw_wn0129_03_holds : PySem.Challenge.rw_wn0129_03.Holds :=
 HLc.sg0.2 (by intros; exact HLc.K0_0.fin (((((_, _), _), (_, _)), (((_, _), _), (_, _))), ((((_, _), _), (_, _)), ((_, _), (_, _)))))
end
end
