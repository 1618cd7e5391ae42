import PyProof.Rows.All
import Wide.All
import OpenK.AllK
import Wide.FinOn
import PySem.Challenge.RW_ul0026_01
open PySem PySem.W PyProof.Rows
set_option Elab.async false
set_option maxRecDepth 100000
set_option maxHeartbeats 0
namespace Ul
section SHd
noncomputable section
abbrev pw : Program := PySem.Challenge.pw_ul0026_01
def stm (i : Nat) : Stmt := (pw.main.body[i]?).getD (.Pass ⟨0, 0, 0, 0⟩)
def fArgs : Stmt → Arguments
  | .FunctionDef _ a _ _ _ _ _ _ _ _ => a
  | _ => default
def fBody : Stmt → List Stmt
  | .FunctionDef _ _ b _ _ _ _ _ _ _ => b
  | _ => []
def fScope : Stmt → Scope
  | .FunctionDef _ _ _ _ _ _ s _ _ _ => s
  | _ => default
def fn (k : Nat) (name : Str) (gl : Addr) (m c : Value) : FuncData :=
  { name, qualname := name, params := fArgs (stm k), body := .stmts (fBody (stm k)), scope := fScope (stm k), globals := gl, closure := [], defaults := .none, kwdefaults := .none, pyModule := m, code := c }
def en (P : Params) (x : Str) (t : Tok) (v : Value) : DictEntry := ⟨PyData.keyHash P x, .str x t, v⟩
abbrev tSeg := @PySem.W.Fast.tw10110043849684766642
abbrev tTab := @PySem.W.Fast.tw14364793385576792824
def env0 : Env := { scope := pw.main.scope, locals := mainNs, globals := mainNs, cells := [], code := .ref 13, frame := some 14 }
def cE : Code := .body (behindTheImports pw) env0
def q0 : Pos := ⟨0, 0, 0, 0⟩
def tB (P : Params) : BT := BT.nil |>.ins 0 (boot_o_0 P) |>.ins 1 (boot_o_1 P) |>.ins 2 (boot_o_2 P) |>.ins 3 (boot_o_3 P) |>.ins 4 (boot_o_4 P) |>.ins 5 (boot_o_5 P) |>.ins 6 (boot_o_6 P) |>.ins 7 (boot_o_7 P) |>.ins 8 (boot_o_8 P) |>.ins 9 (boot_o_9 P) |>.ins 10 (boot_o_10 P)
@[irreducible] def dK : List (Option PySem.Expr) := match stm 15 with | .Assign _ (.Dict ks _ _) _ => ks | _ => []
@[irreducible] def dV : List PySem.Expr := match stm 15 with | .Assign _ (.Dict _ vs _) _ => vs | _ => []
@[irreducible] def dP : Pos := match stm 15 with | .Assign _ (.Dict _ _ p) _ => p | _ => q0
@[irreducible] def aP : Pos := match stm 15 with | .Assign _ (.Dict _ _ _) p => p | _ => q0
@[irreducible] def tabK : List Int := dK.map fun | some (.Constant (.int i) _ _) => i | _ => 0
@[irreducible] def tabV : List Str := dV.map fun | .Constant (.str s) _ _ => s | _ => default
@[irreducible] def PS : List (Int × Str) := tabK.zip tabV
@[irreducible] def c0 : List (Int × Str) := PS.take 17
@[irreducible] def chs : List (List (Int × Str)) := (List.range 37).map fun c => (PS.drop (17 * c + 17)).take 17
@[irreducible] def c9 : List (Int × Str) := PS.drop 646
abbrev dobj (es : List DictEntry) (n : Nat) : Obj := ⟨.type "dict", none, .dict es.toArray n, #[]⟩
def entsP : Nat → List (Int × Str) → List DictEntry
  | _, [] => []
  | t, x :: r => ⟨x.1, .int x.1 t, .str x.2 (t + 1)⟩ :: entsP (t + 3) r
def entsL : Nat → List (Int × Str) → List DictEntry
  | _, [] => []
  | t, x :: r => ⟨x.1, .int x.1 t, .str x.2 (t + 1)⟩ :: entsL (t + 2) r
def subsC : Nat → List (List (Int × Str)) → List Obj
  | _, [] => []
  | t, c :: r => dobj (entsP t c) 17 :: subsC (t + 51) r
@[irreducible] def bigEs : List DictEntry := entsP 387 (c0 ++ chs.flatten) ++ entsL 2325 c9
@[irreducible] def dObjs : List Obj := dobj bigEs 650 :: (subsC 438 chs ++ [dobj (entsL 2325 c9) 4])
def insAll : BT → Nat → List Obj → BT
  | t, _, [] => t
  | t, n, o :: r => insAll (t.ins n o) (n + 1) r
-- m0 11 preSteps 12 prePos ⟨0, 0, 0, 0⟩ framePos ⟨0, 0, 0, 0⟩ block 0 ⟨0, 0, 0, 0⟩ fin 1 toks0 181
def o11v0 (_ : Params) : Obj := ⟨.type "tuple", none, .seq #[] 0, #[]⟩
def o12v0 (_ : Params) : Obj := ⟨.none, none, .fields #[], #[]⟩
def o13v0 (_ : Params) : Obj := ⟨.type "code", none, .fields #[.str "<module>" 182, .str "<module>" 183, .str "/claim/cut.py" 184, .int 1 0, .int 0 0, .int 0 0, .int 0 0, .int 0 0, .ref 11, .bool false, .int 181 0, .ref 12, .none, .none, .none, .none, .int 185 0, .int 1 0, .str "/claim/cut.py" 186], #[]⟩
def o14v0 (_ : Params) : Obj := ⟨.type "frame", none, .plain, #[some (.ref 13), some (.ref 3), some (.ref 3), none, some (.str "__main__" 164), none, some (.ref 0)]⟩
def t0 (P : Params) : BT := tB P |>.ins 11 (o11v0 P) |>.ins 12 (o12v0 P) |>.ins 13 (o13v0 P) |>.ins 14 (o14v0 P)
def S0 (w : World) (os : OsState) : SharedT := ⟨t0 w.params, 15, {}, ⟨[]⟩, {}, 187, os⟩
def p0 : Pos := ⟨0, 0, 0, 0⟩
def o3v1 (P : Params) : Obj := ⟨.type "dict", none, .dict #[en P "__name__" 165 (.str "cpy313.ftplib" 187), en P "__doc__" 166 (.none), en P "__package__" 167 (.none), en P "__loader__" 168 (.builtin "__main__.__loader__#opaque"), en P "__spec__" 169 (.none), en P "__annotations__" 170 (.ref 6), en P "__builtins__" 171 (.ref 4), en P "__file__" 173 (.str "/claim/cut.py" 172), en P "__cached__" 174 (.none)] 9, #[]⟩
def t1 (P : Params) : BT := t0 P |>.set 3 (fun _ => o3v1 P)
def S1 (w : World) (os : OsState) : SharedT := ⟨t1 w.params, 15, {}, ⟨[]⟩, {}, 189, os⟩
def p1 : Pos := ⟨1, 0, 1, 8⟩
def o2v2 (P : Params) : Obj := ⟨.none, none, .dict #[en P "type.__subclasses__.Exception.0" 205 (.int 24 0), en P "type.__subclasses__.Exception.n" 206 (.int 1 0)] 2, #[]⟩
def o3v2 (P : Params) : Obj := ⟨.type "dict", none, .dict #[en P "__name__" 165 (.str "cpy313.ftplib" 187), en P "__doc__" 166 (.none), en P "__package__" 167 (.none), en P "__loader__" 168 (.builtin "__main__.__loader__#opaque"), en P "__spec__" 169 (.none), en P "__annotations__" 170 (.ref 6), en P "__builtins__" 171 (.ref 4), en P "__file__" 173 (.str "/claim/cut.py" 172), en P "__cached__" 174 (.none), en P "Error" 208 (.ref 24)] 10, #[]⟩
def o12v2 (_ : Params) : Obj := ⟨.none, none, .fields #[.int 2 0, .int 0 0, .ref 20], #[]⟩
def o15v2 (_ : Params) : Obj := ⟨.type "tuple", none, .seq #[.type "Exception"] 0, #[]⟩
def o16v2 (_ : Params) : Obj := ⟨.type "builtin_function_or_method", none, .fields #[.builtin "type.__prepare__", .type "type"], #[]⟩
def o17v2 (P : Params) : Obj := ⟨.type "dict", none, .dict #[en P "__module__" 196 (.str "cpy313.ftplib" 187), en P "__qualname__" 198 (.str "Error" 197), en P "__firstlineno__" 200 (.int 2 199), en P "__static_attributes__" 201 (.ref 22)] 4, #[]⟩
def o18v2 (_ : Params) : Obj := ⟨.type "tuple", none, .seq #[] 0, #[]⟩
def o19v2 (_ : Params) : Obj := ⟨.none, none, .fields #[], #[]⟩
def o20v2 (_ : Params) : Obj := ⟨.type "code", none, .fields #[.str "Error" 191, .str "Error" 192, .str "/claim/cut.py" 193, .int 2 0, .int 0 0, .int 0 0, .int 0 0, .int 0 0, .ref 18, .bool false, .int 181 0, .ref 19, .none, .none, .none, .none, .int 194 0, .int 2 0, .str "/claim/cut.py" 195], #[]⟩
def o21v2 (_ : Params) : Obj := ⟨.type "frame", none, .plain, #[some (.ref 20), some (.ref 3), some (.ref 17), none, some (.str "cpy313.ftplib" 187), none, some (.ref 0)]⟩
def o22v2 (_ : Params) : Obj := ⟨.type "tuple", none, .seq #[] 0, #[]⟩
def o23v2 (P : Params) : Obj := ⟨.type "dict", none, .dict #[en P "__module__" 196 (.str "cpy313.ftplib" 187), en P "__firstlineno__" 200 (.int 2 199), en P "__static_attributes__" 201 (.ref 22), en P "__weakref__" 203 (.ref 25), en P "__doc__" 204 (.none)] 3, #[]⟩
def o24v2 (_ : Params) : Obj := ⟨.type "type", none, .cls { name := "Error", bases := [.type "Exception"], mro := [.ref 24, .type "Exception", .type "BaseException", .type "object"], ns := 23, qualname := "Error" }, #[some (.ref 15), none, some (.str "Error" 189), some (.str "Error" 197), some (.builtin "Exception.__new__"), some (.bool true)]⟩
def o25v2 (_ : Params) : Obj := ⟨.type "getset_descriptor", none, .fields #[.str "__weakref__" 202, .ref 24, .builtin "ExceptionGroup.__weakref__", .none], #[]⟩
def o26v2 (_ : Params) : Obj := ⟨.type "super", none, .fields #[.ref 24, .ref 24, .ref 24], #[]⟩
def o27v2 (_ : Params) : Obj := ⟨.type "builtin_function_or_method", none, .fields #[.builtin "object.__init_subclass__", .ref 24], #[]⟩
def t2 (P : Params) : BT := t1 P |>.set 2 (fun _ => o2v2 P) |>.set 3 (fun _ => o3v2 P) |>.set 12 (fun _ => o12v2 P) |>.ins 15 (o15v2 P) |>.ins 16 (o16v2 P) |>.ins 17 (o17v2 P) |>.ins 18 (o18v2 P) |>.ins 19 (o19v2 P) |>.ins 20 (o20v2 P) |>.ins 21 (o21v2 P) |>.ins 22 (o22v2 P) |>.ins 23 (o23v2 P) |>.ins 24 (o24v2 P) |>.ins 25 (o25v2 P) |>.ins 26 (o26v2 P) |>.ins 27 (o27v2 P)
def S2 (w : World) (os : OsState) : SharedT := ⟨t2 w.params, 28, {}, ⟨[]⟩, {}, 209, os⟩
def p2 : Pos := ⟨2, 0, 3, 8⟩
def o3v3 (P : Params) : Obj := ⟨.type "dict", none, .dict #[en P "__name__" 165 (.str "cpy313.ftplib" 187), en P "__doc__" 166 (.none), en P "__package__" 167 (.none), en P "__loader__" 168 (.builtin "__main__.__loader__#opaque"), en P "__spec__" 169 (.none), en P "__annotations__" 170 (.ref 6), en P "__builtins__" 171 (.ref 4), en P "__file__" 173 (.str "/claim/cut.py" 172), en P "__cached__" 174 (.none), en P "Error" 208 (.ref 24), en P "error_reply" 224 (.ref 37)] 11, #[]⟩
def o12v3 (_ : Params) : Obj := ⟨.none, none, .fields #[.int 2 0, .int 0 0, .ref 20, .int 4 0, .int 0 0, .ref 33], #[]⟩
def o24v3 (_ : Params) : Obj := ⟨.type "type", none, .cls { name := "Error", bases := [.type "Exception"], mro := [.ref 24, .type "Exception", .type "BaseException", .type "object"], ns := 23, qualname := "Error", subclasses := [.ref 37] }, #[some (.ref 15), none, some (.str "Error" 189), some (.str "Error" 197), some (.builtin "Exception.__new__"), some (.bool true)]⟩
def o28v3 (_ : Params) : Obj := ⟨.type "tuple", none, .seq #[.ref 24] 0, #[]⟩
def o29v3 (_ : Params) : Obj := ⟨.type "builtin_function_or_method", none, .fields #[.builtin "type.__prepare__", .type "type"], #[]⟩
def o30v3 (P : Params) : Obj := ⟨.type "dict", none, .dict #[en P "__module__" 216 (.str "cpy313.ftplib" 187), en P "__qualname__" 218 (.str "error_reply" 217), en P "__firstlineno__" 220 (.int 4 219), en P "__static_attributes__" 221 (.ref 35)] 4, #[]⟩
def o31v3 (_ : Params) : Obj := ⟨.type "tuple", none, .seq #[] 0, #[]⟩
def o32v3 (_ : Params) : Obj := ⟨.none, none, .fields #[], #[]⟩
def o33v3 (_ : Params) : Obj := ⟨.type "code", none, .fields #[.str "error_reply" 211, .str "error_reply" 212, .str "/claim/cut.py" 213, .int 4 0, .int 0 0, .int 0 0, .int 0 0, .int 0 0, .ref 31, .bool false, .int 181 0, .ref 32, .none, .none, .none, .none, .int 214 0, .int 4 0, .str "/claim/cut.py" 215], #[]⟩
def o34v3 (_ : Params) : Obj := ⟨.type "frame", none, .plain, #[some (.ref 33), some (.ref 3), some (.ref 30), none, some (.str "cpy313.ftplib" 187), none, some (.ref 0)]⟩
def o35v3 (_ : Params) : Obj := ⟨.type "tuple", none, .seq #[] 0, #[]⟩
def o36v3 (P : Params) : Obj := ⟨.type "dict", none, .dict #[en P "__module__" 216 (.str "cpy313.ftplib" 187), en P "__firstlineno__" 220 (.int 4 219), en P "__static_attributes__" 221 (.ref 35), en P "__doc__" 222 (.none)] 2, #[]⟩
def o37v3 (_ : Params) : Obj := ⟨.type "type", none, .cls { name := "error_reply", bases := [.ref 24], mro := [.ref 37, .ref 24, .type "Exception", .type "BaseException", .type "object"], ns := 36, qualname := "error_reply" }, #[some (.ref 28), none, some (.str "error_reply" 209), some (.str "error_reply" 217), some (.builtin "Exception.__new__"), some (.bool true)]⟩
def o38v3 (_ : Params) : Obj := ⟨.type "super", none, .fields #[.ref 37, .ref 37, .ref 37], #[]⟩
def o39v3 (_ : Params) : Obj := ⟨.type "builtin_function_or_method", none, .fields #[.builtin "object.__init_subclass__", .ref 37], #[]⟩
def t3 (P : Params) : BT := t2 P |>.set 3 (fun _ => o3v3 P) |>.set 12 (fun _ => o12v3 P) |>.set 24 (fun _ => o24v3 P) |>.ins 28 (o28v3 P) |>.ins 29 (o29v3 P) |>.ins 30 (o30v3 P) |>.ins 31 (o31v3 P) |>.ins 32 (o32v3 P) |>.ins 33 (o33v3 P) |>.ins 34 (o34v3 P) |>.ins 35 (o35v3 P) |>.ins 36 (o36v3 P) |>.ins 37 (o37v3 P) |>.ins 38 (o38v3 P) |>.ins 39 (o39v3 P)
def S3 (w : World) (os : OsState) : SharedT := ⟨t3 w.params, 40, {}, ⟨[]⟩, {}, 225, os⟩
def p3 : Pos := ⟨4, 0, 5, 8⟩
def o3v4 (P : Params) : Obj := ⟨.type "dict", none, .dict #[en P "__name__" 165 (.str "cpy313.ftplib" 187), en P "__doc__" 166 (.none), en P "__package__" 167 (.none), en P "__loader__" 168 (.builtin "__main__.__loader__#opaque"), en P "__spec__" 169 (.none), en P "__annotations__" 170 (.ref 6), en P "__builtins__" 171 (.ref 4), en P "__file__" 173 (.str "/claim/cut.py" 172), en P "__cached__" 174 (.none), en P "Error" 208 (.ref 24), en P "error_reply" 224 (.ref 37), en P "parse257" 235 (.ref 46)] 12, #[]⟩
def o12v4 (_ : Params) : Obj := ⟨.none, none, .fields #[.int 2 0, .int 0 0, .ref 20, .int 4 0, .int 0 0, .ref 33, .int 6 0, .int 0 0, .ref 45], #[]⟩
def o40v4 (_ : Params) : Obj := ⟨.type "tuple", none, .seq #[] 0, #[]⟩
def o41v4 (_ : Params) : Obj := ⟨.none, none, .fields #[], #[]⟩
def o42v4 (_ : Params) : Obj := ⟨.type "tuple", none, .seq #[.str "resp" 228, .str "dirname" 229, .str "i" 230, .str "n" 231, .str "c" 232] 0, #[]⟩
def o43v4 (_ : Params) : Obj := ⟨.type "tuple", none, .seq #[] 0, #[]⟩
def o44v4 (_ : Params) : Obj := ⟨.none, none, .func (fn 3 "parse257" 0 (.none) (.none)), #[]⟩
def o45v4 (_ : Params) : Obj := ⟨.type "code", none, .fields #[.str "parse257" 225, .str "parse257" 226, .str "/claim/cut.py" 227, .int 6 0, .int 1 0, .int 0 0, .int 0 0, .int 3 0, .ref 40, .bool true, .int 181 0, .ref 41, .none, .ref 42, .ref 43, .ref 44, .int 233 0, .int 6 0, .str "/claim/cut.py" 234], #[]⟩
def o46v4 (_ : Params) : Obj := ⟨.type "function", none, .func (fn 3 "parse257" 3 (.str "cpy313.ftplib" 187) (.ref 45)), #[]⟩
def t4 (P : Params) : BT := t3 P |>.set 3 (fun _ => o3v4 P) |>.set 12 (fun _ => o12v4 P) |>.ins 40 (o40v4 P) |>.ins 41 (o41v4 P) |>.ins 42 (o42v4 P) |>.ins 43 (o43v4 P) |>.ins 44 (o44v4 P) |>.ins 45 (o45v4 P) |>.ins 46 (o46v4 P)
def S4 (w : World) (os : OsState) : SharedT := ⟨t4 w.params, 47, {}, ⟨[]⟩, {}, 236, os⟩
def p4 : Pos := ⟨6, 0, 22, 18⟩
def o3v5 (P : Params) : Obj := ⟨.type "dict", none, .dict #[en P "__name__" 165 (.str "cpy313._pylong" 236), en P "__doc__" 166 (.none), en P "__package__" 167 (.none), en P "__loader__" 168 (.builtin "__main__.__loader__#opaque"), en P "__spec__" 169 (.none), en P "__annotations__" 170 (.ref 6), en P "__builtins__" 171 (.ref 4), en P "__file__" 173 (.str "/claim/cut.py" 172), en P "__cached__" 174 (.none), en P "Error" 208 (.ref 24), en P "error_reply" 224 (.ref 37), en P "parse257" 235 (.ref 46)] 12, #[]⟩
def t5 (P : Params) : BT := t4 P |>.set 3 (fun _ => o3v5 P)
def S5 (w : World) (os : OsState) : SharedT := ⟨t5 w.params, 47, {}, ⟨[]⟩, {}, 238, os⟩
def p5 : Pos := ⟨23, 0, 23, 8⟩
def o3v6 (P : Params) : Obj := ⟨.type "dict", none, .dict #[en P "__name__" 165 (.str "cpy313._pylong" 236), en P "__doc__" 166 (.none), en P "__package__" 167 (.none), en P "__loader__" 168 (.builtin "__main__.__loader__#opaque"), en P "__spec__" 169 (.none), en P "__annotations__" 170 (.ref 6), en P "__builtins__" 171 (.ref 4), en P "__file__" 173 (.str "/claim/cut.py" 172), en P "__cached__" 174 (.none), en P "Error" 208 (.ref 24), en P "error_reply" 224 (.ref 37), en P "parse257" 235 (.ref 46), en P "_DIV_LIMIT" 239 (.int 4000 238)] 13, #[]⟩
def t6 (P : Params) : BT := t5 P |>.set 3 (fun _ => o3v6 P)
def S6 (w : World) (os : OsState) : SharedT := ⟨t6 w.params, 47, {}, ⟨[]⟩, {}, 240, os⟩
def p6 : Pos := ⟨24, 0, 24, 10⟩
def o3v7 (P : Params) : Obj := ⟨.type "dict", none, .dict #[en P "__name__" 165 (.str "cpy313._pylong" 236), en P "__doc__" 166 (.none), en P "__package__" 167 (.none), en P "__loader__" 168 (.builtin "__main__.__loader__#opaque"), en P "__spec__" 169 (.none), en P "__annotations__" 170 (.ref 6), en P "__builtins__" 171 (.ref 4), en P "__file__" 173 (.str "/claim/cut.py" 172), en P "__cached__" 174 (.none), en P "Error" 208 (.ref 24), en P "error_reply" 224 (.ref 37), en P "parse257" 235 (.ref 46), en P "_DIV_LIMIT" 239 (.int 4000 238), en P "_div2n1n" 256 (.ref 53)] 14, #[]⟩
def o12v7 (_ : Params) : Obj := ⟨.none, none, .fields #[.int 2 0, .int 0 0, .ref 20, .int 4 0, .int 0 0, .ref 33, .int 6 0, .int 0 0, .ref 45, .int 25 0, .int 0 0, .ref 52], #[]⟩
def o47v7 (_ : Params) : Obj := ⟨.type "tuple", none, .seq #[] 0, #[]⟩
def o48v7 (_ : Params) : Obj := ⟨.none, none, .fields #[], #[]⟩
def o49v7 (_ : Params) : Obj := ⟨.type "tuple", none, .seq #[.str "a" 243, .str "b" 244, .str "n" 245, .str "pad" 246, .str "half_n" 247, .str "mask" 248, .str "b1" 249, .str "b2" 250, .str "q1" 251, .str "r" 252, .str "q2" 253] 0, #[]⟩
def o50v7 (_ : Params) : Obj := ⟨.type "tuple", none, .seq #[] 0, #[]⟩
def o51v7 (_ : Params) : Obj := ⟨.none, none, .func (fn 6 "_div2n1n" 0 (.none) (.none)), #[]⟩
def o52v7 (_ : Params) : Obj := ⟨.type "code", none, .fields #[.str "_div2n1n" 240, .str "_div2n1n" 241, .str "/claim/cut.py" 242, .int 25 0, .int 3 0, .int 0 0, .int 0 0, .int 3 0, .ref 47, .bool true, .int 181 0, .ref 48, .none, .ref 49, .ref 50, .ref 51, .int 254 0, .int 25 0, .str "/claim/cut.py" 255], #[]⟩
def o53v7 (_ : Params) : Obj := ⟨.type "function", none, .func (fn 6 "_div2n1n" 3 (.str "cpy313._pylong" 236) (.ref 52)), #[]⟩
def t7 (P : Params) : BT := t6 P |>.set 3 (fun _ => o3v7 P) |>.set 12 (fun _ => o12v7 P) |>.ins 47 (o47v7 P) |>.ins 48 (o48v7 P) |>.ins 49 (o49v7 P) |>.ins 50 (o50v7 P) |>.ins 51 (o51v7 P) |>.ins 52 (o52v7 P) |>.ins 53 (o53v7 P)
def S7 (w : World) (os : OsState) : SharedT := ⟨t7 w.params, 54, {}, ⟨[]⟩, {}, 257, os⟩
def p7 : Pos := ⟨25, 0, 40, 33⟩
def o3v8 (P : Params) : Obj := ⟨.type "dict", none, .dict #[en P "__name__" 165 (.str "cpy313._pylong" 236), en P "__doc__" 166 (.none), en P "__package__" 167 (.none), en P "__loader__" 168 (.builtin "__main__.__loader__#opaque"), en P "__spec__" 169 (.none), en P "__annotations__" 170 (.ref 6), en P "__builtins__" 171 (.ref 4), en P "__file__" 173 (.str "/claim/cut.py" 172), en P "__cached__" 174 (.none), en P "Error" 208 (.ref 24), en P "error_reply" 224 (.ref 37), en P "parse257" 235 (.ref 46), en P "_DIV_LIMIT" 239 (.int 4000 238), en P "_div2n1n" 256 (.ref 53), en P "_div3n2n" 270 (.ref 60)] 15, #[]⟩
def o12v8 (_ : Params) : Obj := ⟨.none, none, .fields #[.int 2 0, .int 0 0, .ref 20, .int 4 0, .int 0 0, .ref 33, .int 6 0, .int 0 0, .ref 45, .int 25 0, .int 0 0, .ref 52, .int 41 0, .int 0 0, .ref 59], #[]⟩
def o54v8 (_ : Params) : Obj := ⟨.type "tuple", none, .seq #[] 0, #[]⟩
def o55v8 (_ : Params) : Obj := ⟨.none, none, .fields #[], #[]⟩
def o56v8 (_ : Params) : Obj := ⟨.type "tuple", none, .seq #[.str "a12" 260, .str "a3" 261, .str "b" 262, .str "b1" 263, .str "b2" 264, .str "n" 265, .str "q" 266, .str "r" 267] 0, #[]⟩
def o57v8 (_ : Params) : Obj := ⟨.type "tuple", none, .seq #[] 0, #[]⟩
def o58v8 (_ : Params) : Obj := ⟨.none, none, .func (fn 7 "_div3n2n" 0 (.none) (.none)), #[]⟩
def o59v8 (_ : Params) : Obj := ⟨.type "code", none, .fields #[.str "_div3n2n" 257, .str "_div3n2n" 258, .str "/claim/cut.py" 259, .int 41 0, .int 6 0, .int 0 0, .int 0 0, .int 3 0, .ref 54, .bool true, .int 181 0, .ref 55, .none, .ref 56, .ref 57, .ref 58, .int 268 0, .int 41 0, .str "/claim/cut.py" 269], #[]⟩
def o60v8 (_ : Params) : Obj := ⟨.type "function", none, .func (fn 7 "_div3n2n" 3 (.str "cpy313._pylong" 236) (.ref 59)), #[]⟩
def t8 (P : Params) : BT := t7 P |>.set 3 (fun _ => o3v8 P) |>.set 12 (fun _ => o12v8 P) |>.ins 54 (o54v8 P) |>.ins 55 (o55v8 P) |>.ins 56 (o56v8 P) |>.ins 57 (o57v8 P) |>.ins 58 (o58v8 P) |>.ins 59 (o59v8 P) |>.ins 60 (o60v8 P)
def S8 (w : World) (os : OsState) : SharedT := ⟨t8 w.params, 61, {}, ⟨[]⟩, {}, 271, os⟩
def p8 : Pos := ⟨41, 0, 50, 17⟩
def o3v9 (P : Params) : Obj := ⟨.type "dict", none, .dict #[en P "__name__" 165 (.str "cpy313._pylong" 236), en P "__doc__" 166 (.none), en P "__package__" 167 (.none), en P "__loader__" 168 (.builtin "__main__.__loader__#opaque"), en P "__spec__" 169 (.none), en P "__annotations__" 170 (.ref 6), en P "__builtins__" 171 (.ref 4), en P "__file__" 173 (.str "/claim/cut.py" 172), en P "__cached__" 174 (.none), en P "Error" 208 (.ref 24), en P "error_reply" 224 (.ref 37), en P "parse257" 235 (.ref 46), en P "_DIV_LIMIT" 239 (.int 4000 238), en P "_div2n1n" 256 (.ref 53), en P "_div3n2n" 270 (.ref 60), en P "_int2digits" 281 (.ref 67)] 16, #[]⟩
def o12v9 (_ : Params) : Obj := ⟨.none, none, .fields #[.int 2 0, .int 0 0, .ref 20, .int 4 0, .int 0 0, .ref 33, .int 6 0, .int 0 0, .ref 45, .int 25 0, .int 0 0, .ref 52, .int 41 0, .int 0 0, .ref 59, .int 51 0, .int 0 0, .ref 66], #[]⟩
def o61v9 (_ : Params) : Obj := ⟨.type "tuple", none, .seq #[] 0, #[]⟩
def o62v9 (_ : Params) : Obj := ⟨.none, none, .fields #[], #[]⟩
def o63v9 (_ : Params) : Obj := ⟨.type "tuple", none, .seq #[.str "a" 274, .str "n" 275] 0, #[]⟩
def o64v9 (_ : Params) : Obj := ⟨.type "tuple", none, .seq #[.str "n" 276, .str "a_digits" 277, .str "inner" 278] 0, #[]⟩
def o65v9 (_ : Params) : Obj := ⟨.none, none, .func (fn 8 "_int2digits" 0 (.none) (.none)), #[]⟩
def o66v9 (_ : Params) : Obj := ⟨.type "code", none, .fields #[.str "_int2digits" 271, .str "_int2digits" 272, .str "/claim/cut.py" 273, .int 51 0, .int 2 0, .int 0 0, .int 0 0, .int 3 0, .ref 61, .bool true, .int 181 0, .ref 62, .none, .ref 63, .ref 64, .ref 65, .int 279 0, .int 51 0, .str "/claim/cut.py" 280], #[]⟩
def o67v9 (_ : Params) : Obj := ⟨.type "function", none, .func (fn 8 "_int2digits" 3 (.str "cpy313._pylong" 236) (.ref 66)), #[]⟩
def t9 (P : Params) : BT := t8 P |>.set 3 (fun _ => o3v9 P) |>.set 12 (fun _ => o12v9 P) |>.ins 61 (o61v9 P) |>.ins 62 (o62v9 P) |>.ins 63 (o63v9 P) |>.ins 64 (o64v9 P) |>.ins 65 (o65v9 P) |>.ins 66 (o66v9 P) |>.ins 67 (o67v9 P)
def S9 (w : World) (os : OsState) : SharedT := ⟨t9 w.params, 68, {}, ⟨[]⟩, {}, 282, os⟩
def p9 : Pos := ⟨51, 0, 66, 19⟩
def o3v10 (P : Params) : Obj := ⟨.type "dict", none, .dict #[en P "__name__" 165 (.str "cpy313._pylong" 236), en P "__doc__" 166 (.none), en P "__package__" 167 (.none), en P "__loader__" 168 (.builtin "__main__.__loader__#opaque"), en P "__spec__" 169 (.none), en P "__annotations__" 170 (.ref 6), en P "__builtins__" 171 (.ref 4), en P "__file__" 173 (.str "/claim/cut.py" 172), en P "__cached__" 174 (.none), en P "Error" 208 (.ref 24), en P "error_reply" 224 (.ref 37), en P "parse257" 235 (.ref 46), en P "_DIV_LIMIT" 239 (.int 4000 238), en P "_div2n1n" 256 (.ref 53), en P "_div3n2n" 270 (.ref 60), en P "_int2digits" 281 (.ref 67), en P "_digits2int" 292 (.ref 74)] 17, #[]⟩
def o12v10 (_ : Params) : Obj := ⟨.none, none, .fields #[.int 2 0, .int 0 0, .ref 20, .int 4 0, .int 0 0, .ref 33, .int 6 0, .int 0 0, .ref 45, .int 25 0, .int 0 0, .ref 52, .int 41 0, .int 0 0, .ref 59, .int 51 0, .int 0 0, .ref 66, .int 67 0, .int 0 0, .ref 73], #[]⟩
def o68v10 (_ : Params) : Obj := ⟨.type "tuple", none, .seq #[] 0, #[]⟩
def o69v10 (_ : Params) : Obj := ⟨.none, none, .fields #[], #[]⟩
def o70v10 (_ : Params) : Obj := ⟨.type "tuple", none, .seq #[.str "digits" 285, .str "n" 286] 0, #[]⟩
def o71v10 (_ : Params) : Obj := ⟨.type "tuple", none, .seq #[.str "digits" 287, .str "n" 288, .str "inner" 289] 0, #[]⟩
def o72v10 (_ : Params) : Obj := ⟨.none, none, .func (fn 9 "_digits2int" 0 (.none) (.none)), #[]⟩
def o73v10 (_ : Params) : Obj := ⟨.type "code", none, .fields #[.str "_digits2int" 282, .str "_digits2int" 283, .str "/claim/cut.py" 284, .int 67 0, .int 2 0, .int 0 0, .int 0 0, .int 3 0, .ref 68, .bool true, .int 181 0, .ref 69, .none, .ref 70, .ref 71, .ref 72, .int 290 0, .int 67 0, .str "/claim/cut.py" 291], #[]⟩
def o74v10 (_ : Params) : Obj := ⟨.type "function", none, .func (fn 9 "_digits2int" 3 (.str "cpy313._pylong" 236) (.ref 73)), #[]⟩
def t10 (P : Params) : BT := t9 P |>.set 3 (fun _ => o3v10 P) |>.set 12 (fun _ => o12v10 P) |>.ins 68 (o68v10 P) |>.ins 69 (o69v10 P) |>.ins 70 (o70v10 P) |>.ins 71 (o71v10 P) |>.ins 72 (o72v10 P) |>.ins 73 (o73v10 P) |>.ins 74 (o74v10 P)
def S10 (w : World) (os : OsState) : SharedT := ⟨t10 w.params, 75, {}, ⟨[]⟩, {}, 293, os⟩
def p10 : Pos := ⟨67, 0, 75, 49⟩
def o3v11 (P : Params) : Obj := ⟨.type "dict", none, .dict #[en P "__name__" 165 (.str "cpy313._pylong" 236), en P "__doc__" 166 (.none), en P "__package__" 167 (.none), en P "__loader__" 168 (.builtin "__main__.__loader__#opaque"), en P "__spec__" 169 (.none), en P "__annotations__" 170 (.ref 6), en P "__builtins__" 171 (.ref 4), en P "__file__" 173 (.str "/claim/cut.py" 172), en P "__cached__" 174 (.none), en P "Error" 208 (.ref 24), en P "error_reply" 224 (.ref 37), en P "parse257" 235 (.ref 46), en P "_DIV_LIMIT" 239 (.int 4000 238), en P "_div2n1n" 256 (.ref 53), en P "_div3n2n" 270 (.ref 60), en P "_int2digits" 281 (.ref 67), en P "_digits2int" 292 (.ref 74), en P "_divmod_pos" 307 (.ref 81)] 18, #[]⟩
def o12v11 (_ : Params) : Obj := ⟨.none, none, .fields #[.int 2 0, .int 0 0, .ref 20, .int 4 0, .int 0 0, .ref 33, .int 6 0, .int 0 0, .ref 45, .int 25 0, .int 0 0, .ref 52, .int 41 0, .int 0 0, .ref 59, .int 51 0, .int 0 0, .ref 66, .int 67 0, .int 0 0, .ref 73, .int 76 0, .int 0 0, .ref 80], #[]⟩
def o75v11 (_ : Params) : Obj := ⟨.type "tuple", none, .seq #[] 0, #[]⟩
def o76v11 (_ : Params) : Obj := ⟨.none, none, .fields #[], #[]⟩
def o77v11 (_ : Params) : Obj := ⟨.type "tuple", none, .seq #[.str "a" 296, .str "b" 297, .str "n" 298, .str "a_digits" 299, .str "r" 300, .str "q_digits" 301, .str "a_digit" 302, .str "q_digit" 303, .str "q" 304] 0, #[]⟩
def o78v11 (_ : Params) : Obj := ⟨.type "tuple", none, .seq #[] 0, #[]⟩
def o79v11 (_ : Params) : Obj := ⟨.none, none, .func (fn 10 "_divmod_pos" 0 (.none) (.none)), #[]⟩
def o80v11 (_ : Params) : Obj := ⟨.type "code", none, .fields #[.str "_divmod_pos" 293, .str "_divmod_pos" 294, .str "/claim/cut.py" 295, .int 76 0, .int 2 0, .int 0 0, .int 0 0, .int 3 0, .ref 75, .bool true, .int 181 0, .ref 76, .none, .ref 77, .ref 78, .ref 79, .int 305 0, .int 76 0, .str "/claim/cut.py" 306], #[]⟩
def o81v11 (_ : Params) : Obj := ⟨.type "function", none, .func (fn 10 "_divmod_pos" 3 (.str "cpy313._pylong" 236) (.ref 80)), #[]⟩
def t11 (P : Params) : BT := t10 P |>.set 3 (fun _ => o3v11 P) |>.set 12 (fun _ => o12v11 P) |>.ins 75 (o75v11 P) |>.ins 76 (o76v11 P) |>.ins 77 (o77v11 P) |>.ins 78 (o78v11 P) |>.ins 79 (o79v11 P) |>.ins 80 (o80v11 P) |>.ins 81 (o81v11 P)
def S11 (w : World) (os : OsState) : SharedT := ⟨t11 w.params, 82, {}, ⟨[]⟩, {}, 308, os⟩
def p11 : Pos := ⟨76, 0, 86, 17⟩
def o3v12 (P : Params) : Obj := ⟨.type "dict", none, .dict #[en P "__name__" 165 (.str "cpy313._pylong" 236), en P "__doc__" 166 (.none), en P "__package__" 167 (.none), en P "__loader__" 168 (.builtin "__main__.__loader__#opaque"), en P "__spec__" 169 (.none), en P "__annotations__" 170 (.ref 6), en P "__builtins__" 171 (.ref 4), en P "__file__" 173 (.str "/claim/cut.py" 172), en P "__cached__" 174 (.none), en P "Error" 208 (.ref 24), en P "error_reply" 224 (.ref 37), en P "parse257" 235 (.ref 46), en P "_DIV_LIMIT" 239 (.int 4000 238), en P "_div2n1n" 256 (.ref 53), en P "_div3n2n" 270 (.ref 60), en P "_int2digits" 281 (.ref 67), en P "_digits2int" 292 (.ref 74), en P "_divmod_pos" 307 (.ref 81), en P "int_divmod" 317 (.ref 88)] 19, #[]⟩
def o12v12 (_ : Params) : Obj := ⟨.none, none, .fields #[.int 2 0, .int 0 0, .ref 20, .int 4 0, .int 0 0, .ref 33, .int 6 0, .int 0 0, .ref 45, .int 25 0, .int 0 0, .ref 52, .int 41 0, .int 0 0, .ref 59, .int 51 0, .int 0 0, .ref 66, .int 67 0, .int 0 0, .ref 73, .int 76 0, .int 0 0, .ref 80, .int 87 0, .int 0 0, .ref 87], #[]⟩
def o82v12 (_ : Params) : Obj := ⟨.type "tuple", none, .seq #[] 0, #[]⟩
def o83v12 (_ : Params) : Obj := ⟨.none, none, .fields #[], #[]⟩
def o84v12 (_ : Params) : Obj := ⟨.type "tuple", none, .seq #[.str "a" 311, .str "b" 312, .str "q" 313, .str "r" 314] 0, #[]⟩
def o85v12 (_ : Params) : Obj := ⟨.type "tuple", none, .seq #[] 0, #[]⟩
def o86v12 (_ : Params) : Obj := ⟨.none, none, .func (fn 11 "int_divmod" 0 (.none) (.none)), #[]⟩
def o87v12 (_ : Params) : Obj := ⟨.type "code", none, .fields #[.str "int_divmod" 308, .str "int_divmod" 309, .str "/claim/cut.py" 310, .int 87 0, .int 2 0, .int 0 0, .int 0 0, .int 3 0, .ref 82, .bool true, .int 181 0, .ref 83, .none, .ref 84, .ref 85, .ref 86, .int 315 0, .int 87 0, .str "/claim/cut.py" 316], #[]⟩
def o88v12 (_ : Params) : Obj := ⟨.type "function", none, .func (fn 11 "int_divmod" 3 (.str "cpy313._pylong" 236) (.ref 87)), #[]⟩
def t12 (P : Params) : BT := t11 P |>.set 3 (fun _ => o3v12 P) |>.set 12 (fun _ => o12v12 P) |>.ins 82 (o82v12 P) |>.ins 83 (o83v12 P) |>.ins 84 (o84v12 P) |>.ins 85 (o85v12 P) |>.ins 86 (o86v12 P) |>.ins 87 (o87v12 P) |>.ins 88 (o88v12 P)
def S12 (w : World) (os : OsState) : SharedT := ⟨t12 w.params, 89, {}, ⟨[]⟩, {}, 318, os⟩
def p12 : Pos := ⟨87, 0, 97, 32⟩
def o3v13 (P : Params) : Obj := ⟨.type "dict", none, .dict #[en P "__name__" 165 (.str "cpy313.stringprep" 318), en P "__doc__" 166 (.none), en P "__package__" 167 (.none), en P "__loader__" 168 (.builtin "__main__.__loader__#opaque"), en P "__spec__" 169 (.none), en P "__annotations__" 170 (.ref 6), en P "__builtins__" 171 (.ref 4), en P "__file__" 173 (.str "/claim/cut.py" 172), en P "__cached__" 174 (.none), en P "Error" 208 (.ref 24), en P "error_reply" 224 (.ref 37), en P "parse257" 235 (.ref 46), en P "_DIV_LIMIT" 239 (.int 4000 238), en P "_div2n1n" 256 (.ref 53), en P "_div3n2n" 270 (.ref 60), en P "_int2digits" 281 (.ref 67), en P "_digits2int" 292 (.ref 74), en P "_divmod_pos" 307 (.ref 81), en P "int_divmod" 317 (.ref 88)] 19, #[]⟩
def t13 (P : Params) : BT := t12 P |>.set 3 (fun _ => o3v13 P)
def S13 (w : World) (os : OsState) : SharedT := ⟨t13 w.params, 89, {}, ⟨[]⟩, {}, 320, os⟩
def p13 : Pos := ⟨98, 0, 98, 8⟩
def o3v14 (P : Params) : Obj := ⟨.type "dict", none, .dict #[en P "__name__" 165 (.str "cpy313.stringprep" 318), en P "__doc__" 166 (.none), en P "__package__" 167 (.none), en P "__loader__" 168 (.builtin "__main__.__loader__#opaque"), en P "__spec__" 169 (.none), en P "__annotations__" 170 (.ref 6), en P "__builtins__" 171 (.ref 4), en P "__file__" 173 (.str "/claim/cut.py" 172), en P "__cached__" 174 (.none), en P "Error" 208 (.ref 24), en P "error_reply" 224 (.ref 37), en P "parse257" 235 (.ref 46), en P "_DIV_LIMIT" 239 (.int 4000 238), en P "_div2n1n" 256 (.ref 53), en P "_div3n2n" 270 (.ref 60), en P "_int2digits" 281 (.ref 67), en P "_digits2int" 292 (.ref 74), en P "_divmod_pos" 307 (.ref 81), en P "int_divmod" 317 (.ref 88), en P "b1_set" 379 (.ref 96)] 20, #[]⟩
def o89v14 (_ : Params) : Obj := ⟨.type "list", none, .seq #[.int 173 320, .int 847 321, .int 6150 322, .int 6155 323, .int 6156 324, .int 6157 325, .int 8203 326, .int 8204 327, .int 8205 328, .int 8288 329, .int 65279 330] 0, #[]⟩
def o90v14 (_ : Params) : Obj := ⟨.type "range", none, .fields #[.int 65024 331, .int 65040 332, .int 1 333], #[]⟩
def o91v14 (_ : Params) : Obj := ⟨.type "list", none, .seq #[.int 65024 336, .int 65025 337, .int 65026 338, .int 65027 339, .int 65028 340, .int 65029 341, .int 65030 342, .int 65031 343, .int 65032 344, .int 65033 345, .int 65034 346, .int 65035 347, .int 65036 348, .int 65037 349, .int 65038 350, .int 65039 351] 18, #[]⟩
def o92v14 (_ : Params) : Obj := ⟨.type "range_iterator", none, .fields #[.int 65040 0, .int 0 0, .int 1 0], #[]⟩
def o93v14 (_ : Params) : Obj := ⟨.type "tuple", none, .seq #[] 0, #[]⟩
def o94v14 (_ : Params) : Obj := ⟨.type "StopIteration", none, .fields #[.ref 93, .none, .none, .none, .bool false, .none], #[]⟩
def o95v14 (_ : Params) : Obj := ⟨.type "list", none, .seq #[.int 173 320, .int 847 321, .int 6150 322, .int 6155 323, .int 6156 324, .int 6157 325, .int 8203 326, .int 8204 327, .int 8205 328, .int 8288 329, .int 65279 330, .int 65024 336, .int 65025 337, .int 65026 338, .int 65027 339, .int 65028 340, .int 65029 341, .int 65030 342, .int 65031 343, .int 65032 344, .int 65033 345, .int 65034 346, .int 65035 347, .int 65036 348, .int 65037 349, .int 65038 350, .int 65039 351] 0, #[]⟩
def o96v14 (P : Params) : Obj := ⟨.type "set", none, .set #[(65024, .int 65024 336), (65025, .int 65025 337), (65026, .int 65026 338), (65027, .int 65027 339), (65028, .int 65028 340), (65029, .int 65029 341), (6150, .int 6150 322), (65030, .int 65030 342), (65031, .int 65031 343), (65032, .int 65032 344), (65033, .int 65033 345), (6155, .int 6155 323), (6156, .int 6156 324), (6157, .int 6157 325), (8203, .int 8203 326), (8204, .int 8204 327), (8205, .int 8205 328), (65034, .int 65034 346), (65035, .int 65035 347), (65036, .int 65036 348), (65037, .int 65037 349), (65038, .int 65038 350), (65039, .int 65039 351), (173, .int 173 320), (847, .int 847 321), (8288, .int 8288 329), (65279, .int 65279 330)] 29 ⟨127, #[0, 1, 2, 3, 4, 5, 6, 7, 8, 9, 10, 11, 12, 13, 14, 15, 16, 17, 18, 19, 20, 21, 22, 45, 79, 96, 127], #[], 0, !P.followText "set-order", 2, true⟩, #[]⟩
def o97v14 (_ : Params) : Obj := ⟨.type "list_iterator", none, .fields #[.none, .int 27 0], #[]⟩
def o98v14 (_ : Params) : Obj := ⟨.type "tuple", none, .seq #[] 0, #[]⟩
def o99v14 (_ : Params) : Obj := ⟨.type "StopIteration", none, .fields #[.ref 98, .none, .none, .none, .bool false, .none], #[]⟩
def t14 (P : Params) : BT := t13 P |>.set 3 (fun _ => o3v14 P) |>.ins 89 (o89v14 P) |>.ins 90 (o90v14 P) |>.ins 91 (o91v14 P) |>.ins 92 (o92v14 P) |>.ins 93 (o93v14 P) |>.ins 94 (o94v14 P) |>.ins 95 (o95v14 P) |>.ins 96 (o96v14 P) |>.ins 97 (o97v14 P) |>.ins 98 (o98v14 P) |>.ins 99 (o99v14 P)
def S14 (w : World) (os : OsState) : SharedT := ⟨t14 w.params, 100, {}, ⟨[]⟩, {}, 380, os⟩
def p14 : Pos := ⟨99, 0, 99, 6⟩
-- rows [set-order, special-get-raises]
def o3v15 (P : Params) : Obj := ⟨.type "dict", none, .dict #[en P "__name__" 165 (.str "cpy313.stringprep" 318), en P "__doc__" 166 (.none), en P "__package__" 167 (.none), en P "__loader__" 168 (.builtin "__main__.__loader__#opaque"), en P "__spec__" 169 (.none), en P "__annotations__" 170 (.ref 6), en P "__builtins__" 171 (.ref 4), en P "__file__" 173 (.str "/claim/cut.py" 172), en P "__cached__" 174 (.none), en P "Error" 208 (.ref 24), en P "error_reply" 224 (.ref 37), en P "parse257" 235 (.ref 46), en P "_DIV_LIMIT" 239 (.int 4000 238), en P "_div2n1n" 256 (.ref 53), en P "_div3n2n" 270 (.ref 60), en P "_int2digits" 281 (.ref 67), en P "_digits2int" 292 (.ref 74), en P "_divmod_pos" 307 (.ref 81), en P "int_divmod" 317 (.ref 88), en P "b1_set" 379 (.ref 96), en P "in_table_b1" 386 (.ref 106)] 21, #[]⟩
def o12v15 (_ : Params) : Obj := ⟨.none, none, .fields #[.int 2 0, .int 0 0, .ref 20, .int 4 0, .int 0 0, .ref 33, .int 6 0, .int 0 0, .ref 45, .int 25 0, .int 0 0, .ref 52, .int 41 0, .int 0 0, .ref 59, .int 51 0, .int 0 0, .ref 66, .int 67 0, .int 0 0, .ref 73, .int 76 0, .int 0 0, .ref 80, .int 87 0, .int 0 0, .ref 87, .int 100 0, .int 0 0, .ref 105], #[]⟩
def o100v15 (_ : Params) : Obj := ⟨.type "tuple", none, .seq #[] 0, #[]⟩
def o101v15 (_ : Params) : Obj := ⟨.none, none, .fields #[], #[]⟩
def o102v15 (_ : Params) : Obj := ⟨.type "tuple", none, .seq #[.str "code" 383] 0, #[]⟩
def o103v15 (_ : Params) : Obj := ⟨.type "tuple", none, .seq #[] 0, #[]⟩
def o104v15 (_ : Params) : Obj := ⟨.none, none, .func (fn 14 "in_table_b1" 0 (.none) (.none)), #[]⟩
def o105v15 (_ : Params) : Obj := ⟨.type "code", none, .fields #[.str "in_table_b1" 380, .str "in_table_b1" 381, .str "/claim/cut.py" 382, .int 100 0, .int 1 0, .int 0 0, .int 0 0, .int 3 0, .ref 100, .bool true, .int 181 0, .ref 101, .none, .ref 102, .ref 103, .ref 104, .int 384 0, .int 100 0, .str "/claim/cut.py" 385], #[]⟩
def o106v15 (_ : Params) : Obj := ⟨.type "function", none, .func (fn 14 "in_table_b1" 3 (.str "cpy313.stringprep" 318) (.ref 105)), #[]⟩
def t15 (P : Params) : BT := t14 P |>.set 3 (fun _ => o3v15 P) |>.set 12 (fun _ => o12v15 P) |>.ins 100 (o100v15 P) |>.ins 101 (o101v15 P) |>.ins 102 (o102v15 P) |>.ins 103 (o103v15 P) |>.ins 104 (o104v15 P) |>.ins 105 (o105v15 P) |>.ins 106 (o106v15 P)
def S15 (w : World) (os : OsState) : SharedT := ⟨t15 w.params, 107, {}, ⟨[]⟩, {}, 387, os⟩
def p15 : Pos := ⟨100, 0, 101, 30⟩
def o3v16 (P : Params) : Obj := ⟨.type "dict", none, .dict #[en P "__name__" 165 (.str "cpy313.stringprep" 318), en P "__doc__" 166 (.none), en P "__package__" 167 (.none), en P "__loader__" 168 (.builtin "__main__.__loader__#opaque"), en P "__spec__" 169 (.none), en P "__annotations__" 170 (.ref 6), en P "__builtins__" 171 (.ref 4), en P "__file__" 173 (.str "/claim/cut.py" 172), en P "__cached__" 174 (.none), en P "Error" 208 (.ref 24), en P "error_reply" 224 (.ref 37), en P "parse257" 235 (.ref 46), en P "_DIV_LIMIT" 239 (.int 4000 238), en P "_div2n1n" 256 (.ref 53), en P "_div3n2n" 270 (.ref 60), en P "_int2digits" 281 (.ref 67), en P "_digits2int" 292 (.ref 74), en P "_divmod_pos" 307 (.ref 81), en P "int_divmod" 317 (.ref 88), en P "b1_set" 379 (.ref 96), en P "in_table_b1" 386 (.ref 106), en P "b3_exceptions" 2337 (.ref 107)] 22, #[]⟩
def tD (P : Params) : BT := insAll (t15 P) 107 dObjs
def t16 (P : Params) : BT := tD P |>.set 3 (fun _ => o3v16 P)
def S16 (w : World) (os : OsState) : SharedT := ⟨t16 w.params, 146, {}, ⟨[]⟩, {}, 2338, os⟩
def p16 : Pos := ⟨102, 0, 102, 13⟩
def o3v17 (P : Params) : Obj := ⟨.type "dict", none, .dict #[en P "__name__" 165 (.str "cpy313.stringprep" 318), en P "__doc__" 166 (.none), en P "__package__" 167 (.none), en P "__loader__" 168 (.builtin "__main__.__loader__#opaque"), en P "__spec__" 169 (.none), en P "__annotations__" 170 (.ref 6), en P "__builtins__" 171 (.ref 4), en P "__file__" 173 (.str "/claim/cut.py" 172), en P "__cached__" 174 (.none), en P "Error" 208 (.ref 24), en P "error_reply" 224 (.ref 37), en P "parse257" 235 (.ref 46), en P "_DIV_LIMIT" 239 (.int 4000 238), en P "_div2n1n" 256 (.ref 53), en P "_div3n2n" 270 (.ref 60), en P "_int2digits" 281 (.ref 67), en P "_digits2int" 292 (.ref 74), en P "_divmod_pos" 307 (.ref 81), en P "int_divmod" 317 (.ref 88), en P "b1_set" 379 (.ref 96), en P "in_table_b1" 386 (.ref 106), en P "b3_exceptions" 2337 (.ref 107), en P "map_table_b3" 2345 (.ref 152)] 23, #[]⟩
def o12v17 (_ : Params) : Obj := ⟨.none, none, .fields #[.int 2 0, .int 0 0, .ref 20, .int 4 0, .int 0 0, .ref 33, .int 6 0, .int 0 0, .ref 45, .int 25 0, .int 0 0, .ref 52, .int 41 0, .int 0 0, .ref 59, .int 51 0, .int 0 0, .ref 66, .int 67 0, .int 0 0, .ref 73, .int 76 0, .int 0 0, .ref 80, .int 87 0, .int 0 0, .ref 87, .int 100 0, .int 0 0, .ref 105, .int 103 0, .int 0 0, .ref 151], #[]⟩
def o146v17 (_ : Params) : Obj := ⟨.type "tuple", none, .seq #[] 0, #[]⟩
def o147v17 (_ : Params) : Obj := ⟨.none, none, .fields #[], #[]⟩
def o148v17 (_ : Params) : Obj := ⟨.type "tuple", none, .seq #[.str "code" 2341, .str "r" 2342] 0, #[]⟩
def o149v17 (_ : Params) : Obj := ⟨.type "tuple", none, .seq #[] 0, #[]⟩
def o150v17 (_ : Params) : Obj := ⟨.none, none, .func (fn 16 "map_table_b3" 0 (.none) (.none)), #[]⟩
def o151v17 (_ : Params) : Obj := ⟨.type "code", none, .fields #[.str "map_table_b3" 2338, .str "map_table_b3" 2339, .str "/claim/cut.py" 2340, .int 103 0, .int 1 0, .int 0 0, .int 0 0, .int 3 0, .ref 146, .bool true, .int 181 0, .ref 147, .none, .ref 148, .ref 149, .ref 150, .int 2343 0, .int 103 0, .str "/claim/cut.py" 2344], #[]⟩
def o152v17 (_ : Params) : Obj := ⟨.type "function", none, .func (fn 16 "map_table_b3" 3 (.str "cpy313.stringprep" 318) (.ref 151)), #[]⟩
def t17 (P : Params) : BT := t16 P |>.set 3 (fun _ => o3v17 P) |>.set 12 (fun _ => o12v17 P) |>.ins 146 (o146v17 P) |>.ins 147 (o147v17 P) |>.ins 148 (o148v17 P) |>.ins 149 (o149v17 P) |>.ins 150 (o150v17 P) |>.ins 151 (o151v17 P) |>.ins 152 (o152v17 P)
def S17 (w : World) (os : OsState) : SharedT := ⟨t17 w.params, 153, {}, ⟨[]⟩, {}, 2346, os⟩
def p17 : Pos := ⟨103, 0, 107, 23⟩
def o3v18 (P : Params) : Obj := ⟨.type "dict", none, .dict #[en P "__name__" 165 (.str "law_ul0026_01" 2346), en P "__doc__" 166 (.none), en P "__package__" 167 (.none), en P "__loader__" 168 (.builtin "__main__.__loader__#opaque"), en P "__spec__" 169 (.none), en P "__annotations__" 170 (.ref 6), en P "__builtins__" 171 (.ref 4), en P "__file__" 173 (.str "/claim/cut.py" 172), en P "__cached__" 174 (.none), en P "Error" 208 (.ref 24), en P "error_reply" 224 (.ref 37), en P "parse257" 235 (.ref 46), en P "_DIV_LIMIT" 239 (.int 4000 238), en P "_div2n1n" 256 (.ref 53), en P "_div3n2n" 270 (.ref 60), en P "_int2digits" 281 (.ref 67), en P "_digits2int" 292 (.ref 74), en P "_divmod_pos" 307 (.ref 81), en P "int_divmod" 317 (.ref 88), en P "b1_set" 379 (.ref 96), en P "in_table_b1" 386 (.ref 106), en P "b3_exceptions" 2337 (.ref 107), en P "map_table_b3" 2345 (.ref 152)] 23, #[]⟩
def t18 (P : Params) : BT := t17 P |>.set 3 (fun _ => o3v18 P)
def S18 (w : World) (os : OsState) : SharedT := ⟨t18 w.params, 153, {}, ⟨[]⟩, {}, 2348, os⟩
def p18 : Pos := ⟨108, 0, 108, 8⟩
def o3v19 (P : Params) : Obj := ⟨.type "dict", none, .dict #[en P "__name__" 165 (.str "law_ul0026_01" 2346), en P "__doc__" 166 (.none), en P "__package__" 167 (.none), en P "__loader__" 168 (.builtin "__main__.__loader__#opaque"), en P "__spec__" 169 (.none), en P "__annotations__" 170 (.ref 6), en P "__builtins__" 171 (.ref 4), en P "__file__" 173 (.str "/claim/cut.py" 172), en P "__cached__" 174 (.none), en P "Error" 208 (.ref 24), en P "error_reply" 224 (.ref 37), en P "parse257" 235 (.ref 46), en P "_DIV_LIMIT" 239 (.int 4000 238), en P "_div2n1n" 256 (.ref 53), en P "_div3n2n" 270 (.ref 60), en P "_int2digits" 281 (.ref 67), en P "_digits2int" 292 (.ref 74), en P "_divmod_pos" 307 (.ref 81), en P "int_divmod" 317 (.ref 88), en P "b1_set" 379 (.ref 96), en P "in_table_b1" 386 (.ref 106), en P "b3_exceptions" 2337 (.ref 107), en P "map_table_b3" 2345 (.ref 152), en P "_law_nothing" 2356 (.ref 159)] 24, #[]⟩
def o12v19 (_ : Params) : Obj := ⟨.none, none, .fields #[.int 2 0, .int 0 0, .ref 20, .int 4 0, .int 0 0, .ref 33, .int 6 0, .int 0 0, .ref 45, .int 25 0, .int 0 0, .ref 52, .int 41 0, .int 0 0, .ref 59, .int 51 0, .int 0 0, .ref 66, .int 67 0, .int 0 0, .ref 73, .int 76 0, .int 0 0, .ref 80, .int 87 0, .int 0 0, .ref 87, .int 100 0, .int 0 0, .ref 105, .int 103 0, .int 0 0, .ref 151, .int 109 0, .int 0 0, .ref 158], #[]⟩
def o153v19 (_ : Params) : Obj := ⟨.type "tuple", none, .seq #[] 0, #[]⟩
def o154v19 (_ : Params) : Obj := ⟨.none, none, .fields #[], #[]⟩
def o155v19 (_ : Params) : Obj := ⟨.type "tuple", none, .seq #[.str "pick" 2351, .str "codes" 2352, .str "place" 2353] 0, #[]⟩
def o156v19 (_ : Params) : Obj := ⟨.type "tuple", none, .seq #[] 0, #[]⟩
def o157v19 (_ : Params) : Obj := ⟨.none, none, .func (fn 18 "_law_nothing" 0 (.none) (.none)), #[]⟩
def o158v19 (_ : Params) : Obj := ⟨.type "code", none, .fields #[.str "_law_nothing" 2348, .str "_law_nothing" 2349, .str "/claim/cut.py" 2350, .int 109 0, .int 1 0, .int 0 0, .int 0 0, .int 3 0, .ref 153, .bool true, .int 181 0, .ref 154, .none, .ref 155, .ref 156, .ref 157, .int 2354 0, .int 109 0, .str "/claim/cut.py" 2355], #[]⟩
def o159v19 (_ : Params) : Obj := ⟨.type "function", none, .func (fn 18 "_law_nothing" 3 (.str "law_ul0026_01" 2346) (.ref 158)), #[]⟩
def t19 (P : Params) : BT := t18 P |>.set 3 (fun _ => o3v19 P) |>.set 12 (fun _ => o12v19 P) |>.ins 153 (o153v19 P) |>.ins 154 (o154v19 P) |>.ins 155 (o155v19 P) |>.ins 156 (o156v19 P) |>.ins 157 (o157v19 P) |>.ins 158 (o158v19 P) |>.ins 159 (o159v19 P)
def S19 (w : World) (os : OsState) : SharedT := ⟨t19 w.params, 160, {}, ⟨[]⟩, {}, 2357, os⟩
def p19 : Pos := ⟨109, 0, 114, 29⟩
def o3v20 (P : Params) : Obj := ⟨.type "dict", none, .dict #[en P "__name__" 165 (.str "law_ul0026_01" 2346), en P "__doc__" 166 (.none), en P "__package__" 167 (.none), en P "__loader__" 168 (.builtin "__main__.__loader__#opaque"), en P "__spec__" 169 (.none), en P "__annotations__" 170 (.ref 6), en P "__builtins__" 171 (.ref 4), en P "__file__" 173 (.str "/claim/cut.py" 172), en P "__cached__" 174 (.none), en P "Error" 208 (.ref 24), en P "error_reply" 224 (.ref 37), en P "parse257" 235 (.ref 46), en P "_DIV_LIMIT" 239 (.int 4000 238), en P "_div2n1n" 256 (.ref 53), en P "_div3n2n" 270 (.ref 60), en P "_int2digits" 281 (.ref 67), en P "_digits2int" 292 (.ref 74), en P "_divmod_pos" 307 (.ref 81), en P "int_divmod" 317 (.ref 88), en P "b1_set" 379 (.ref 96), en P "in_table_b1" 386 (.ref 106), en P "b3_exceptions" 2337 (.ref 107), en P "map_table_b3" 2345 (.ref 152), en P "_law_nothing" 2356 (.ref 159), en P "_law_letters" 2365 (.ref 166)] 25, #[]⟩
def o12v20 (_ : Params) : Obj := ⟨.none, none, .fields #[.int 2 0, .int 0 0, .ref 20, .int 4 0, .int 0 0, .ref 33, .int 6 0, .int 0 0, .ref 45, .int 25 0, .int 0 0, .ref 52, .int 41 0, .int 0 0, .ref 59, .int 51 0, .int 0 0, .ref 66, .int 67 0, .int 0 0, .ref 73, .int 76 0, .int 0 0, .ref 80, .int 87 0, .int 0 0, .ref 87, .int 100 0, .int 0 0, .ref 105, .int 103 0, .int 0 0, .ref 151, .int 109 0, .int 0 0, .ref 158, .int 115 0, .int 0 0, .ref 165], #[]⟩
def o160v20 (_ : Params) : Obj := ⟨.type "tuple", none, .seq #[] 0, #[]⟩
def o161v20 (_ : Params) : Obj := ⟨.none, none, .fields #[], #[]⟩
def o162v20 (_ : Params) : Obj := ⟨.type "tuple", none, .seq #[.str "count" 2360, .str "pick" 2361, .str "text" 2362] 0, #[]⟩
def o163v20 (_ : Params) : Obj := ⟨.type "tuple", none, .seq #[] 0, #[]⟩
def o164v20 (_ : Params) : Obj := ⟨.none, none, .func (fn 19 "_law_letters" 0 (.none) (.none)), #[]⟩
def o165v20 (_ : Params) : Obj := ⟨.type "code", none, .fields #[.str "_law_letters" 2357, .str "_law_letters" 2358, .str "/claim/cut.py" 2359, .int 115 0, .int 2 0, .int 0 0, .int 0 0, .int 3 0, .ref 160, .bool true, .int 181 0, .ref 161, .none, .ref 162, .ref 163, .ref 164, .int 2363 0, .int 115 0, .str "/claim/cut.py" 2364], #[]⟩
def o166v20 (_ : Params) : Obj := ⟨.type "function", none, .func (fn 19 "_law_letters" 3 (.str "law_ul0026_01" 2346) (.ref 165)), #[]⟩
def t20 (P : Params) : BT := t19 P |>.set 3 (fun _ => o3v20 P) |>.set 12 (fun _ => o12v20 P) |>.ins 160 (o160v20 P) |>.ins 161 (o161v20 P) |>.ins 162 (o162v20 P) |>.ins 163 (o163v20 P) |>.ins 164 (o164v20 P) |>.ins 165 (o165v20 P) |>.ins 166 (o166v20 P)
def S20 (w : World) (os : OsState) : SharedT := ⟨t20 w.params, 167, {}, ⟨[]⟩, {}, 2366, os⟩
def p20 : Pos := ⟨115, 0, 125, 15⟩
def o3v21 (P : Params) : Obj := ⟨.type "dict", none, .dict #[en P "__name__" 165 (.str "law_ul0026_01" 2346), en P "__doc__" 166 (.none), en P "__package__" 167 (.none), en P "__loader__" 168 (.builtin "__main__.__loader__#opaque"), en P "__spec__" 169 (.none), en P "__annotations__" 170 (.ref 6), en P "__builtins__" 171 (.ref 4), en P "__file__" 173 (.str "/claim/cut.py" 172), en P "__cached__" 174 (.none), en P "Error" 208 (.ref 24), en P "error_reply" 224 (.ref 37), en P "parse257" 235 (.ref 46), en P "_DIV_LIMIT" 239 (.int 4000 238), en P "_div2n1n" 256 (.ref 53), en P "_div3n2n" 270 (.ref 60), en P "_int2digits" 281 (.ref 67), en P "_digits2int" 292 (.ref 74), en P "_divmod_pos" 307 (.ref 81), en P "int_divmod" 317 (.ref 88), en P "b1_set" 379 (.ref 96), en P "in_table_b1" 386 (.ref 106), en P "b3_exceptions" 2337 (.ref 107), en P "map_table_b3" 2345 (.ref 152), en P "_law_nothing" 2356 (.ref 159), en P "_law_letters" 2365 (.ref 166), en P "_law_measure" 2373 (.ref 173)] 26, #[]⟩
def o12v21 (_ : Params) : Obj := ⟨.none, none, .fields #[.int 2 0, .int 0 0, .ref 20, .int 4 0, .int 0 0, .ref 33, .int 6 0, .int 0 0, .ref 45, .int 25 0, .int 0 0, .ref 52, .int 41 0, .int 0 0, .ref 59, .int 51 0, .int 0 0, .ref 66, .int 67 0, .int 0 0, .ref 73, .int 76 0, .int 0 0, .ref 80, .int 87 0, .int 0 0, .ref 87, .int 100 0, .int 0 0, .ref 105, .int 103 0, .int 0 0, .ref 151, .int 109 0, .int 0 0, .ref 158, .int 115 0, .int 0 0, .ref 165, .int 126 0, .int 0 0, .ref 172], #[]⟩
def o167v21 (_ : Params) : Obj := ⟨.type "tuple", none, .seq #[] 0, #[]⟩
def o168v21 (_ : Params) : Obj := ⟨.none, none, .fields #[], #[]⟩
def o169v21 (_ : Params) : Obj := ⟨.type "tuple", none, .seq #[.str "one" 2369, .str "other" 2370] 0, #[]⟩
def o170v21 (_ : Params) : Obj := ⟨.type "tuple", none, .seq #[] 0, #[]⟩
def o171v21 (_ : Params) : Obj := ⟨.none, none, .func (fn 20 "_law_measure" 0 (.none) (.none)), #[]⟩
def o172v21 (_ : Params) : Obj := ⟨.type "code", none, .fields #[.str "_law_measure" 2366, .str "_law_measure" 2367, .str "/claim/cut.py" 2368, .int 126 0, .int 2 0, .int 0 0, .int 0 0, .int 3 0, .ref 167, .bool true, .int 181 0, .ref 168, .none, .ref 169, .ref 170, .ref 171, .int 2371 0, .int 126 0, .str "/claim/cut.py" 2372], #[]⟩
def o173v21 (_ : Params) : Obj := ⟨.type "function", none, .func (fn 20 "_law_measure" 3 (.str "law_ul0026_01" 2346) (.ref 172)), #[]⟩
def t21 (P : Params) : BT := t20 P |>.set 3 (fun _ => o3v21 P) |>.set 12 (fun _ => o12v21 P) |>.ins 167 (o167v21 P) |>.ins 168 (o168v21 P) |>.ins 169 (o169v21 P) |>.ins 170 (o170v21 P) |>.ins 171 (o171v21 P) |>.ins 172 (o172v21 P) |>.ins 173 (o173v21 P)
def S21 (w : World) (os : OsState) : SharedT := ⟨t21 w.params, 174, {}, ⟨[]⟩, {}, 2374, os⟩
def p21 : Pos := ⟨126, 0, 129, 14⟩
def o3v22 (P : Params) : Obj := ⟨.type "dict", none, .dict #[en P "__name__" 165 (.str "law_ul0026_01" 2346), en P "__doc__" 166 (.none), en P "__package__" 167 (.none), en P "__loader__" 168 (.builtin "__main__.__loader__#opaque"), en P "__spec__" 169 (.none), en P "__annotations__" 170 (.ref 6), en P "__builtins__" 171 (.ref 4), en P "__file__" 173 (.str "/claim/cut.py" 172), en P "__cached__" 174 (.none), en P "Error" 208 (.ref 24), en P "error_reply" 224 (.ref 37), en P "parse257" 235 (.ref 46), en P "_DIV_LIMIT" 239 (.int 4000 238), en P "_div2n1n" 256 (.ref 53), en P "_div3n2n" 270 (.ref 60), en P "_int2digits" 281 (.ref 67), en P "_digits2int" 292 (.ref 74), en P "_divmod_pos" 307 (.ref 81), en P "int_divmod" 317 (.ref 88), en P "b1_set" 379 (.ref 96), en P "in_table_b1" 386 (.ref 106), en P "b3_exceptions" 2337 (.ref 107), en P "map_table_b3" 2345 (.ref 152), en P "_law_nothing" 2356 (.ref 159), en P "_law_letters" 2365 (.ref 166), en P "_law_measure" 2373 (.ref 173), en P "law" 2404 (.ref 180)] 27, #[]⟩
def o12v22 (_ : Params) : Obj := ⟨.none, none, .fields #[.int 2 0, .int 0 0, .ref 20, .int 4 0, .int 0 0, .ref 33, .int 6 0, .int 0 0, .ref 45, .int 25 0, .int 0 0, .ref 52, .int 41 0, .int 0 0, .ref 59, .int 51 0, .int 0 0, .ref 66, .int 67 0, .int 0 0, .ref 73, .int 76 0, .int 0 0, .ref 80, .int 87 0, .int 0 0, .ref 87, .int 100 0, .int 0 0, .ref 105, .int 103 0, .int 0 0, .ref 151, .int 109 0, .int 0 0, .ref 158, .int 115 0, .int 0 0, .ref 165, .int 126 0, .int 0 0, .ref 172, .int 130 0, .int 0 0, .ref 179], #[]⟩
def o174v22 (_ : Params) : Obj := ⟨.type "tuple", none, .seq #[] 0, #[]⟩
def o175v22 (_ : Params) : Obj := ⟨.none, none, .fields #[], #[]⟩
def o176v22 (_ : Params) : Obj := ⟨.type "tuple", none, .seq #[.str "script" 2377, .str "given" 2378, .str "turns" 2379, .str "m" 2380, .str "n" 2381, .str "x" 2382, .str "unit" 2383, .str "rest" 2384, .str "moved" 2385, .str "side" 2386, .str "pick" 2387, .str "text" 2388, .str "k" 2389, .str "size" 2390, .str "mark" 2391, .str "name" 2392, .str "lost" 2393, .str "turn" 2394, .str "j" 2395, .str "told" 2396, .str "left" 2397, .str "prepared" 2398, .str "sign" 2399, .str "d" 2400, .str "count" 2401] 0, #[]⟩
def o177v22 (_ : Params) : Obj := ⟨.type "tuple", none, .seq #[] 0, #[]⟩
def o178v22 (_ : Params) : Obj := ⟨.none, none, .func (fn 21 "law" 0 (.none) (.none)), #[]⟩
def o179v22 (_ : Params) : Obj := ⟨.type "code", none, .fields #[.str "law" 2374, .str "law" 2375, .str "/claim/cut.py" 2376, .int 130 0, .int 1 0, .int 0 0, .int 0 0, .int 3 0, .ref 174, .bool true, .int 181 0, .ref 175, .none, .ref 176, .ref 177, .ref 178, .int 2402 0, .int 130 0, .str "/claim/cut.py" 2403], #[]⟩
def o180v22 (_ : Params) : Obj := ⟨.type "function", none, .func (fn 21 "law" 3 (.str "law_ul0026_01" 2346) (.ref 179)), #[]⟩
def t22 (P : Params) : BT := t21 P |>.set 3 (fun _ => o3v22 P) |>.set 12 (fun _ => o12v22 P) |>.ins 174 (o174v22 P) |>.ins 175 (o175v22 P) |>.ins 176 (o176v22 P) |>.ins 177 (o177v22 P) |>.ins 178 (o178v22 P) |>.ins 179 (o179v22 P) |>.ins 180 (o180v22 P)
def S22 (w : World) (os : OsState) : SharedT := ⟨t22 w.params, 181, {}, ⟨[]⟩, {}, 2405, os⟩
def p22 : Pos := ⟨130, 0, 168, 48⟩
-- fin: 181 toks 2405 1
end
end SHd
section SHq
abbrev Pr := Option (Sem Value) × Sem Value
abbrev St := Option Addr × List (Sem Value × Sem Value)
structure DD where
  f : Pr → St → Sem (ForInStep St)
  g : St → Sem Value
  h : ∀ items : List Pr, dictDisplay items = Sem.bind (forIn items ((none, []) : St) f) g
def ddB : DD := DD.mk _ _ (fun items => Eq.refl (dictDisplay items))
def loopN (f : Pr → St → Sem (ForInStep St)) : List Pr → St → Sem (ForInStep St)
  | [], s => .pure (.yield s)
  | x :: r, s => (f x s).bind fun | .done s => .pure (.done s) | .yield s => loopN f r s
theorem bind_assoc {α β γ : Type} (m : Sem α) (f : α → Sem β) (g : β → Sem γ) : (m.bind f).bind g = m.bind fun x => (f x).bind g := by
  induction m <;> simp only [Sem.bind, *]
theorem forIn_app (f : Pr → St → Sem (ForInStep St)) (l2 : List Pr) : ∀ (l1 : List Pr) (s : St), (forIn (m := Sem) (l1 ++ l2) s f) = (loopN f l1 s).bind fun | .done s => .pure s | .yield s => forIn (m := Sem) l2 s f
  | [], s => rfl
  | x :: r, s => by
    rw [List.cons_append, List.forIn_cons, loopN, bind_assoc]
    show Sem.bind (f x s) _ = _
    refine congrArg (Sem.bind (f x s)) (funext fun a => ?_)
    cases a with
    | done s => rfl
    | yield s => exact forIn_app f l2 r s
theorem exec_dict (x : Str) (np dp ap : Pos) (ks : List (Option PySem.Expr)) (vs : List PySem.Expr) (env : Env) :
   exec (.Assign [.Name x np] (.Dict ks vs dp) ap) env = (standAt ap).bind fun _ => ((standAt dp).bind fun _ => (dictDisplay ((evalEachOpt ks env).zip ((evalEach vs env).map fun v => v.bind fun x => (standAt dp).bind fun _ => .pure x)))).bind fun v => assignStores env v none ((assignEach [.Name x np] env).map (·.2)) := by
  rfl

noncomputable section
def items : List Pr := (evalEachOpt dK env0).zip ((evalEach dV env0).map fun v => v.bind fun x => (standAt dP).bind fun _ => .pure x)
end
end SHq
section SHg
noncomputable section
abbrev tSegS := @PySem.W.Fast.tw14374325043358763698
abbrev tHash := @PySem.W.Fast.tw10540108854288196387
abbrev TR (w : World) (n : Nat) (s : Shared) (t : Thread) : Option Shared := topRun treeTable pw w 11 (some (.ref 6)) n s t
def Goes {α : Type} (w : World) (x : Sem α) (k : Nat) (s : Shared) (p : Pos) (a : α) (s' : Shared) (p' : Pos) : Prop :=
  ∀ (K : α → Sem Fin) (H : Value → Sem Fin) (lv : List Value → List Value) (N : Nat) (r : Shared), TR w N s' ⟨K a, cE, p', [topFrame q0]⟩ = some r → TR w (k + N) s ⟨x.wrap K H id lv, cE, p, [topFrame q0]⟩ = some r
section
variable {α β : Type} {w : World} {k k1 k2 : Nat} {s s1 s2 s' : Shared} {p p1 p2 p' : Pos} {a : α} {b : β}
theorem Goes.pure : Goes w (.pure a) 0 s p a s p := fun K H lv N r h => by rw [Nat.zero_add]; exact h
theorem Goes.bind {x : Sem α} {f : α → Sem β} (hx : Goes w x k1 s p a s1 p1) (hf : Goes w (f a) k2 s1 p1 b s2 p2) : Goes w (x.bind f) (k1 + k2) s p b s2 p2 := fun K H lv N r h => by
  rw [Sem.bind_eq_wrap, Sem.wrap_wrap, Nat.add_assoc]
  exact hx _ _ _ _ _ (hf K H lv N r h)
theorem Goes.keep {x : Sem α} {vs : List Value} (hx : Goes w x k s p a s' p') : Goes w (x.keep vs) k s p a s' p' := fun K H lv N r h => by
  rw [Sem.keep_eq_wrap, Sem.wrap_wrap]
  exact hx _ _ _ _ _ h
theorem Goes.onRaise {x : Sem α} {hh : Value → Sem Unit} (hx : Goes w x k s p a s' p') : Goes w (x.onRaise hh) k s p a s' p' := fun K H lv N r h => by
  rw [Sem.onRaise_eq_wrap, Sem.wrap_wrap]
  exact hx _ _ _ _ _ h
theorem Goes.more {x : Sem α} (hx : Goes w x k s p a s' p') (hk : k ≤ k2) : Goes w x k2 s p a s' p' := fun K H lv N r h => by
  have := topRun_mono (k2 - k) _ _ _ _ (hx K H lv N r h)
  rwa [show k + N + (k2 - k) = k2 + N by omega] at this
theorem Goes.holding {x : Sem α} {vs : List Value} (hx : Goes w x k s p a s' p') : Goes w (holding vs x) k s p a s' p' := by
  unfold PySem.holding
  split
  · exact hx
  · exact hx.keep
theorem top_go {n : Nat} {t : Thread} {s₂ : Shared} {t₂ : Thread} {r : Shared} (h1 : stepOk 11 (some (.ref 6)) t = true) (h2 : through t = false) (h3 : step (denote treeTable) pw w s t = .go s₂ t₂) (h : TR w n s₂ t₂ = some r) : TR w (n + 1) s t = some r := by
  show topRun _ _ _ _ _ (n + 1) _ _ = _
  unfold topRun
  rw [h2, h1, h3]
  exact h
theorem Goes.one {x : Sem α} {y : Sem α} (h1 : ∀ (K : α → Sem Fin) (H : Value → Sem Fin) (lv : List Value → List Value), stepOk 11 (some (.ref 6)) ⟨x.wrap K H id lv, cE, p, [topFrame q0]⟩ = true ∧
      step (denote treeTable) pw w s ⟨x.wrap K H id lv, cE, p, [topFrame q0]⟩ = .go s1 ⟨y.wrap K H id lv, cE, p1, [topFrame q0]⟩) (h : Goes w y k s1 p1 a s' p') : Goes w x (k + 1) s p a s' p' := fun K H lv N r hr => by
  rw [show k + 1 + N = k + N + 1 by omega]
  exact top_go (h1 K H lv).1 rfl (h1 K H lv).2 (h K H lv N r hr)
theorem Goes.load {c : Addr} {part : Option Value} {f : Obj → Sem α} {o : Obj} (hg : s.heap.get? c = some o) (h : Goes w (f o) k s p a s' p') : Goes w (.load c part f) (k + 1) s p a s' p' :=
  Goes.one (fun K H lv => ⟨rfl, by obtain ⟨hp, g, d, t, os⟩ := s; simp only [Sem.wrap, step]; dsimp only at hg; rw [hg]⟩) h
theorem Goes.update {c : Addr} {part : Option Value} {g : Obj → Obj} {f : Unit → Sem α} {o : Obj} (hc : Nat.ble 11 c = true) (hg : s.heap.get? c = some o) (h : Goes w (f ()) k { s with heap := s.heap.update c g } p a s' p') : Goes w (.update c part g f) (k + 1) s p a s' p' :=
  Goes.one (fun K H lv => ⟨by simp only [Sem.wrap, stepOk, hc]; rfl, by obtain ⟨hp, g, d, t, os⟩ := s; simp only [Sem.wrap, step]; dsimp only at hg; rw [hg]; rfl⟩) h
theorem Goes.alloc {o : Obj} {f : Addr → Sem α} (h : Goes w (f s.heap.objs.size) k { s with heap := s.heap.push o } p a s' p') : Goes w (.alloc o f) (k + 1) s p a s' p' := Goes.one (fun _ _ _ => ⟨rfl, rfl⟩) h
theorem Goes.fresh {f : Tok → Sem α} (h : Goes w (f s.toks) k { s with toks := s.toks + 1 } p a s' p') : Goes w (.fresh f) (k + 1) s p a s' p' := Goes.one (fun _ _ _ => ⟨rfl, rfl⟩) h
theorem Goes.rule {x : String} {f : Unit → Sem α} (h : Goes w (f ()) k s p a s' p') : Goes w (.rule x f) (k + 1) s p a s' p' := Goes.one (fun _ _ _ => ⟨rfl, rfl⟩) h
theorem Goes.at {q : Pos} {f : Unit → Sem α} (h : Goes w (f ()) k s q a s' p') : Goes w (.at q f) (k + 1) s p a s' p' := Goes.one (fun _ _ _ => ⟨rfl, rfl⟩) h
theorem Goes.seg {x : Sem α} {n : Nat} {f : Flow} (res : α → Flow) (h : ∀ lv, segRun treeTable pw w 11 (some (.ref 6)) 1 n s ⟨x.wrap (fun a => .pure (.done (res a))) deadEnd id lv, cE, p, [topFrame q0]⟩ = some (f, s', cE, p')) (hf : ∀ a', res a' = f → a' = a) : Goes w x n s p a s' p' := fun K H lv N r hr => by
  obtain ⟨a', e, hN⟩ := seg_top (res := res) (K' := K) (H' := H) (gd := id) (lv := lv) (B := [topFrame q0]) rfl n s ⟨x.wrap (fun a => .pure (.done (res a))) deadEnd id lv, cE, p, [topFrame q0]⟩ ⟨x.wrap K H id lv, cE, p, [topFrame q0]⟩ f s' cE p' ⟨rfl, rfl, .inl ⟨rfl, rfl, x, rfl, rfl⟩⟩ (h lv)
  obtain rfl := hf a' e
  exact hN N r hr
end
abbrev hashOk (i : Int) : Prop := ∀ w : World, (fun h g d t os p tk lv => tSegS tTab pw w 11 (some (.ref 6)) 1 40 ⟨h, g, d, t, os⟩ ⟨(tHash (.int i tk)).wrap (fun a => .pure (.done (.ret (.int a 0)))) deadEnd id lv, cE, p, [topFrame q0]⟩) = fun h g d t os p tk lv => some (.ret (.int i 0), ⟨h, g, d, t + 1, os⟩, cE, p)
end
end SHg
section SHm
section
variable {w : World} {k : Nat} {s : Shared} {p : Pos} {d : Addr} {es : List DictEntry} {n : Nat}
theorem goes_entries {part : Option Value} (hd : s.heap.get? d = some (dobj es n)) : Goes w (dictEntries d part) 1 s p es.toArray s p :=
  Goes.load (o := dobj es n) hd Goes.pure
theorem goes_epoch {part : Option Value} (hd : s.heap.get? d = some (dobj es n)) : Goes w (dictEpoch d part) 1 s p n s p :=
  Goes.load (o := dobj es n) hd Goes.pure
theorem places_nil {es : List DictEntry} {h : Int} (hn : ∀ e ∈ es, e.hash ≠ h) : placesWithHash es.toArray.size (fun i => es.toArray[i]?.map (·.hash)) h = [] := by
  unfold placesWithHash
  rw [List.filter_eq_nil_iff]
  intro i _ hi
  simp only [List.getElem?_toArray] at hi
  cases hq : es[i]? with
  | none => rw [hq] at hi; simp at hi
  | some e => rw [hq] at hi; simp at hi; exact hn e (List.mem_of_getElem? hq) hi
theorem goes_find {i h : Int} {t : Tok} (hd : s.heap.get? d = some (dobj es n)) (hn : ∀ e ∈ es, e.hash ≠ h) : Goes w (dictFind d (.int i t) h) 1 s p none s p := by
  unfold dictFind
  refine Goes.holding ?_
  refine Goes.bind (k2 := 0) (goes_entries hd) ?_
  simp only [places_nil hn]
  exact Goes.pure
theorem goes_keys {f : Array DictEntry → Array DictEntry} {es' : List DictEntry} {part : Option Value} (hd : s.heap.get? d = some (dobj es n)) (hc : Nat.ble 11 d = true) (hf : f es.toArray = es'.toArray) (hz : es'.length ≤ sizeLine) :
    Goes w (updateDictKeys d f part) 3 s p () { s with heap := s.heap.update d (Obj.mapDictKeys f) } p := by
  unfold updateDictKeys
  refine Goes.load (o := dobj es n) hd ?_
  refine Goes.update hc hd ?_
  have e := Heap.get?_update_self (h := s.heap) (Obj.mapDictKeys f) hd rfl
  refine Goes.load e ?_
  refine Goes.bind (k1 := 0) (k2 := 0) Goes.pure ?_
  have : (Obj.mapDictKeys f (dobj es n)).data.pastItsLine = none := by
    show (if (f es.toArray).size > sizeLine + 1 then _ else none) = none
    rw [hf, if_neg (by simp only [List.size_toArray]; omega)]
  rw [this]
  exact Goes.pure
theorem upd_same {h : Heap} {f : Obj → Obj} {o : Obj} (hd : h.get? d = some o) : h.update d f = h.update d (fun _ => f o) := by
  have e := (Heap.get?_some_iff.mp hd).1
  obtain ⟨objs, l⟩ := h
  show Heap.mk _ _ = Heap.mk _ _
  refine congrArg (Heap.mk · l) (Array.ext_getElem? fun i => ?_)
  rw [Array.getElem?_modify, Array.getElem?_modify]
  by_cases q : d = i
  · subst q; dsimp only at e; rw [e]; simp
  · simp [q]
theorem upd_upd {h : Heap} {o o' : Obj} : (h.update d (fun _ => o)).update d (fun _ => o') = h.update d (fun _ => o') := by
  obtain ⟨objs, l⟩ := h
  show Heap.mk _ _ = Heap.mk _ _
  refine congrArg (Heap.mk · l) (Array.ext_getElem? fun i => ?_)
  simp only [Array.getElem?_modify]
  by_cases q : d = i
  · subst q; cases objs[d]? <;> simp
  · simp [q]
abbrev putH (s : Shared) (d : Addr) (es : List DictEntry) (n : Nat) : Shared := { s with heap := s.heap.update d (fun _ => dobj es n) }
theorem goes_put {i : Int} {t : Tok} {v : Value} (hd : s.heap.get? d = some (dobj es n)) (hc : Nat.ble 11 d = true) (hn : ∀ e ∈ es, e.hash ≠ i) (hz : es.length < sizeLine) :
    Goes w (dictPut d i (.int i t) v) 4 s p () (putH s d (es ++ [⟨i, .int i t, v⟩]) (n + 1)) p := by
  unfold dictPut
  refine Goes.bind (k1 := 1) (k2 := 3) (goes_find hd hn) ?_
  have := goes_keys (w := w) (p := p) (part := none) (f := fun x => x.push ⟨i, .int i t, v⟩) (es' := es ++ [⟨i, .int i t, v⟩]) hd hc (by simp) (by simp; omega)
  rw [upd_same hd] at this
  have e : Obj.mapDictKeys (fun x => x.push ⟨i, .int i t, v⟩) (dobj es n) = dobj (es ++ [⟨i, .int i t, v⟩]) (n + 1) := by
    show (⟨_, _, _, _⟩ : Obj) = _
    simp
  rw [e] at this
  exact this
theorem get_put {h : Heap} {o : Obj} (hd : h.get? d = some o) : (h.update d (fun _ => dobj es n)).get? d = some (dobj es n) := Heap.get?_update_self _ hd rfl
def mS (s : Shared) (d : Addr) (es : List DictEntry) (n : Nat) : Nat → Shared
  | 0 => s
  | m + 1 => putH s d es (n + (m + 1))
/-- the entries of one chunk: the hash of each is its int key -/
def IntEs (es : List DictEntry) : Prop := ∀ e ∈ es, ∃ t, e.key = .int e.hash t
theorem goes_mergeLoop {a : Addr} {sub : List DictEntry} {na : Nat} (had : d ≠ a) (body : Nat → PUnit → Sem (ForInStep PUnit))
    (hb : ∀ (j : Nat) (hlt : j < sub.length) (s : Shared) (es : List DictEntry) (n : Nat), s.heap.get? a = some (dobj sub na) → s.heap.get? d = some (dobj es n) → es.length < sizeLine → (∀ e ∈ es, e.hash ≠ sub[j].hash) →
      Goes w (body j ⟨⟩) 6 s p (.yield ⟨⟩) (putH s d (es ++ [sub[j]]) (n + 1)) p) :
    ∀ (m j : Nat) (s : Shared) (es : List DictEntry) (n : Nat), j + m = sub.length → s.heap.get? a = some (dobj sub na) → s.heap.get? d = some (dobj es n) → es.length + m < sizeLine →
      (es ++ sub.drop j).Pairwise (fun x y => x.hash ≠ y.hash) →
      Goes w (forIn (m := Sem) (List.range' j m) PUnit.unit body) (6 * m) s p ⟨⟩ (mS s d (es ++ sub.drop j) n m) p
  | 0, j, s, es, n, _, _, _, _, _ => by
    rw [List.range'_zero]
    exact Goes.pure
  | m + 1, j, s, es, n, hj, ha, hd, hz, hp => by
    rw [List.range'_succ, List.forIn_cons]
    have hlt : j < sub.length := by omega
    have hdrop : sub.drop j = sub[j] :: sub.drop (j + 1) := List.drop_eq_getElem_cons hlt
    have hn : ∀ e ∈ es, e.hash ≠ sub[j].hash := fun e he => by
      rw [List.pairwise_append] at hp
      exact hp.2.2 e he _ (by rw [hdrop]; exact List.mem_cons_self)
    have ha' : (putH s d (es ++ [sub[j]]) (n + 1)).heap.get? a = some (dobj sub na) := (Heap.get?_update_other _ _ had).trans ha
    have hd' : (putH s d (es ++ [sub[j]]) (n + 1)).heap.get? d = some (dobj (es ++ [sub[j]]) (n + 1)) := get_put hd
    have hrest := goes_mergeLoop had body hb m (j + 1) (putH s d (es ++ [sub[j]]) (n + 1)) (es ++ [sub[j]]) (n + 1) (by omega) ha' hd' (by simp; omega) (by rw [List.append_assoc]; rw [hdrop] at hp; exact hp)
    have hfirst := hb j hlt s es n ha hd (by omega) hn
    refine Goes.more (k := 6 + 6 * m) ?_ (by omega)
    have hfin : mS (putH s d (es ++ [sub[j]]) (n + 1)) d ((es ++ [sub[j]]) ++ sub.drop (j + 1)) (n + 1) m = putH s d (es ++ sub.drop j) (n + (m + 1)) := by
      cases m with
      | zero =>
        have : sub.drop (j + 1) = [] := List.drop_eq_nil_of_le (by omega)
        rw [hdrop, this]; rfl
      | succ m' =>
        show ({ s with heap := _ } : Shared) = { s with heap := _ }
        rw [upd_upd, hdrop, List.append_assoc, show n + 1 + (m' + 1) = n + (m' + 1 + 1) by omega]
        rfl
    show Goes w _ _ s p _ (putH s d (es ++ sub.drop j) (n + (m + 1))) p
    rw [← hfin]
    exact Goes.bind hfirst hrest
end
end SHm
section SHh
abbrev HashAt (w : World) : Prop := (fun h g d t os p tk lv => tabK.map fun i => tSegS tTab pw w 11 (some (.ref 6)) 1 40 ⟨h, g, d, t, os⟩ ⟨(tHash (.int i tk)).wrap (fun a => .pure (.done (.ret (.int a 0)))) deadEnd id lv, cE, p, [topFrame q0]⟩) = fun h g d t os p _ _ => tabK.map fun i => some (.ret (.int i 0), ⟨h, g, d, t + 1, os⟩, cE, p)
abbrev hashAll : Prop := ∀ w : World, HashAt w
theorem hash_f : ∀ w : World, HashAt (w.withFollow "special-get-raises" false) := fun w => by kernel_rfl
theorem hash_t : ∀ w : World, HashAt (w.withFollow "special-get-raises" true) := fun w => by kernel_rfl
theorem hash_all : hashAll := byRow2 "special-get-raises" hash_f hash_t
end SHh
section SHn
def resB : Bool → Flow := fun b => .ret (.bool b)
def resO : Option Value → Flow
  | some (.builtin x) => .ret (.builtin x)
  | some _ => .brk
  | none => .next
theorem sub_seg : ∀ w : World, (fun h g d t os p lv => tSegS tTab pw w 11 (some (.ref 6)) 1 40 ⟨h, g, d, t, os⟩ ⟨(isSubtype (.type "dict") (.type "dict")).wrap (fun a => .pure (.done (resB a))) deadEnd id lv, cE, p, [topFrame q0]⟩) = fun h g d t os p _ => some (.ret (.bool true), ⟨h, g, d, t, os⟩, cE, p) := fun w => by kernel_rfl
theorem look_seg : ∀ w : World, (fun h g d t os p lv => tSegS tTab pw w 11 (some (.ref 6)) 1 40 ⟨h, g, d, t, os⟩ ⟨(typeLookup (.type "dict") "__iter__").wrap (fun a => .pure (.done (resO a))) deadEnd id lv, cE, p, [topFrame q0]⟩) = fun h g d t os p _ => some (.ret (.builtin "dict.__iter__"), ⟨h, g, d, t, os⟩, cE, p) := fun w => by kernel_rfl
theorem seg_same : @tSegS tTab = @segRun treeTable := by
  rw [show @tSegS = @segRun from PySem.W.Fast.te14374325043358763698.symm, show @tTab = @treeTable from PySem.W.Fast.te14364793385576792824.symm]
section
variable {w : World} {k : Nat} {s : Shared} {p : Pos} {d : Addr} {es : List DictEntry} {n : Nat}
theorem goes_sub : Goes w (isSubtype (.type "dict") (.type "dict")) 40 s p true s p :=
  Goes.seg resB (fun lv => by
    have := congrFun (congrFun (congrFun (congrFun (congrFun (congrFun (congrFun (sub_seg w) s.heap) s.gens) s.drawn) s.toks) s.os) p) lv
    rw [seg_same] at this
    exact this) (fun a' e => by cases a' <;> simp_all [resB])
theorem goes_look : Goes w (typeLookup (.type "dict") "__iter__") 40 s p (some (.builtin "dict.__iter__")) s p :=
  Goes.seg resO (fun lv => by
    have := congrFun (congrFun (congrFun (congrFun (congrFun (congrFun (congrFun (look_seg w) s.heap) s.gens) s.drawn) s.toks) s.os) p) lv
    rw [seg_same] at this
    exact this) (fun a' e => by
      cases a' with
      | none => simp [resO] at e
      | some v => cases v <;> simp_all [resO])
theorem goes_typeOf {a : Addr} (ha : s.heap.get? a = some (dobj es n)) : Goes w (typeOf (.ref a)) 1 s p (.type "dict") s p :=
  Goes.bind (k1 := 1) (k2 := 0) (Goes.load ha Goes.pure) Goes.pure
theorem goes_isDict {a : Addr} (ha : s.heap.get? a = some (dobj es n)) : Goes w (isInstance (.ref a) (.type "dict")) 41 s p true s p :=
  Goes.bind (k1 := 1) (k2 := 40) (goes_typeOf ha) goes_sub
theorem goes_iterOf {a : Addr} (ha : s.heap.get? a = some (dobj es n)) : Goes w (specialOf (.ref a) "__iter__") 41 s p (some (.builtin "dict.__iter__")) s p :=
  Goes.bind (k1 := 1) (k2 := 40) (goes_typeOf ha) goes_look
theorem goes_merge {a : Addr} {sub : List DictEntry} {na m : Nat} (had : d ≠ a) (hc : Nat.ble 11 d = true) (hs : (a == sysModules) = false) (hi : IntEs sub) (hm : sub.length = m + 1) (hne : es ≠ [])
    (ha : s.heap.get? a = some (dobj sub na)) (hd : s.heap.get? d = some (dobj es n)) (hz : es.length + (m + 1) < sizeLine) (hp : (es ++ sub).Pairwise (fun x y => x.hash ≠ y.hash)) :
    Goes w (mergeMapping d (.ref a) false) (85 + 6 * (m + 1)) s p () (putH s d (es ++ sub) (n + (m + 1))) p := by
  refine Goes.more (k := 41 + (41 + (0 + (1 + (1 + (1 + (6 * (m + 1) + 0))))))) ?_ (by omega)
  unfold mergeMapping
  refine Goes.bind (a := true) (s1 := s) (p1 := p) (k1 := 41)  (goes_isDict ha) ?_
  dsimp only
  refine Goes.bind (k1 := 41)  (goes_iterOf ha) ?_
  simp only [beq_self_eq_true]
  refine Goes.bind (k1 := 0) Goes.pure ?_
  dsimp only
  rw [if_neg (by simp [hs])]
  refine Goes.bind (k1 := 1)  (goes_entries hd) ?_
  rw [if_neg (by simpa using hne)]
  refine Goes.bind (k1 := 1)  (goes_entries ha) ?_
  refine Goes.bind (goes_epoch ha) ?_
  rw [show List.range sub.toArray.size = List.range' 0 (m + 1) by rw [List.size_toArray, hm, List.range_eq_range']]
  refine Goes.bind (k1 := 6 * (m + 1)) (k2 := 0) (goes_mergeLoop had _ ?_ (m + 1) 0 s es n (by omega) ha hd hz (by rw [List.drop_zero]; exact hp)) ?_
  · intro j hlt s es n ha hd hz hn
    obtain ⟨t, ht⟩ := hi sub[j] (List.getElem_mem hlt)
    have hput := goes_put (w := w) (p := p) (i := sub[j].hash) (t := t) (v := sub[j].val) hd hc hn (by omega)
    have hkey : (⟨sub[j].hash, .int sub[j].hash t, sub[j].val⟩ : DictEntry) = sub[j] := by rw [← ht]
    rw [hkey] at hput
    have ha' : (putH s d (es ++ [sub[j]]) (n + 1)).heap.get? a = some (dobj sub na) := (Heap.get?_update_other _ _ had).trans ha
    refine Goes.bind (k1 := 1) (k2 := 5) (goes_entries ha) ?_
    rw [show sub.toArray[j]? = some sub[j] by simp [List.getElem?_eq_getElem hlt]]
    dsimp only
    refine Goes.bind (k1 := 4) (k2 := 1) (a := ()) (p1 := p) (s1 := putH s d (es ++ [sub[j]]) (n + 1)) ?_ ?_
    · rw [ht]; exact Goes.holding hput
    · refine Goes.bind (k1 := 1) (k2 := 0) (goes_epoch ha') ?_
      rw [if_neg (by simp)]
      exact Goes.pure
  · exact Goes.pure
end
end SHn
section SHs
def pairOf (x : Int × Str) : Sem Value × Sem Value := (mkInt x.1, (mkText x.2).bind fun v => (standAt dP).bind fun _ => .pure v)
theorem entsP_len : ∀ (t : Nat) (ps : List (Int × Str)), (entsP t ps).length = ps.length
  | _, [] => rfl
  | t, x :: r => by show (entsP (t + 3) r).length + 1 = _; rw [entsP_len]; rfl
theorem entsP_int : ∀ (t : Nat) (ps : List (Int × Str)), IntEs (entsP t ps)
  | _, [], _, h => by cases h
  | t, x :: r, e, h => by
    rcases List.mem_cons.mp h with rfl | h
    · exact ⟨t, rfl⟩
    · exact entsP_int (t + 3) r e h
theorem entsP_hash : ∀ (t : Nat) (ps : List (Int × Str)), (entsP t ps).map (·.hash) = ps.map (·.1)
  | _, [] => rfl
  | t, x :: r => by show x.1 :: (entsP (t + 3) r).map (·.hash) = _; rw [entsP_hash]; rfl
def subS (s : Shared) (d : Addr) (es : List DictEntry) (n : Nat) (ps : List (Int × Str)) : Shared :=
  { s with heap := (match ps with | [] => s.heap | _ :: _ => s.heap.update d (fun _ => dobj (es ++ entsP s.toks ps) (n + ps.length))), toks := s.toks + 3 * ps.length }
section
variable {w : World} {k : Nat} {s : Shared} {p : Pos} {d : Addr} {es : List DictEntry} {n : Nat}
theorem hash_same : @tHash = @pyHash := PySem.W.Fast.te10540108854288196387.symm
theorem goes_hash {i : Int} {t : Tok} (hi : i ∈ tabK) : Goes w (pyHash (.int i t)) 40 s p i { s with toks := s.toks + 1 } p :=
  Goes.seg (fun a => .ret (.int a 0)) (fun lv => by
    have := congrFun (congrFun (congrFun (congrFun (congrFun (congrFun (congrFun (congrFun (hash_all w) s.heap) s.gens) s.drawn) s.toks) s.os) p) t) lv
    have := List.map_inj_left.mp this i hi
    rw [seg_same, hash_same] at this
    exact this) (fun a' e => by simp_all)
theorem goes_set {i : Int} {t : Tok} {v : Value} (hi : i ∈ tabK) (hd : s.heap.get? d = some (dobj es n)) (hc : Nat.ble 11 d = true) (hn : ∀ e ∈ es, e.hash ≠ i) (hz : es.length < sizeLine) :
    Goes w (dictSet d (.int i t) v) 45 s p () { putH s d (es ++ [⟨i, .int i t, v⟩]) (n + 1) with toks := s.toks + 1 } p := by
  unfold dictSet
  refine Goes.holding (Goes.bind (k1 := 40) (k2 := 5) (goes_hash hi) ?_)
  unfold dictSetHashed
  refine Goes.holding ?_
  refine Goes.bind (k1 := 1) (k2 := 4) (goes_find (es := es) (n := n) hd hn) ?_
  dsimp only
  refine Goes.rule ?_
  have := goes_keys (w := w) (s := { s with toks := s.toks + 1 }) (p := p) (part := keyPart (.int i t)) (f := fun x => x.push ⟨i, .int i t, v⟩) (es := es) (n := n) (es' := es ++ [⟨i, .int i t, v⟩]) hd hc (by simp) (by simp; omega)
  have e : Obj.mapDictKeys (fun x => x.push ⟨i, .int i t, v⟩) (dobj es n) = dobj (es ++ [⟨i, .int i t, v⟩]) (n + 1) := by
    show (⟨_, _, _, _⟩ : Obj) = _
    simp
  rw [upd_same (o := dobj es n) hd, e] at this
  exact this
theorem goes_subLoop (hc : Nat.ble 11 d = true) (body : Sem Value × Sem Value → PUnit → Sem (ForInStep PUnit))
    (hb : ∀ x u, body x u = x.1.bind fun kv => (holding [kv] x.2).bind fun vv => (holding [kv, vv] (dictSet d kv vv)).bind fun _ => .pure (.yield ⟨⟩)) :
    ∀ (ps : List (Int × Str)) (s : Shared) (es : List DictEntry) (n : Nat), (∀ x ∈ ps, x.1 ∈ tabK) → s.heap.get? d = some (dobj es n) → es.length + ps.length < sizeLine →
      (es ++ entsP s.toks ps).Pairwise (fun x y => x.hash ≠ y.hash) → Goes w (forIn (m := Sem) (ps.map pairOf) PUnit.unit body) (50 * ps.length) s dP ⟨⟩ (subS s d es n ps) dP
  | [], s, es, n, _, _, _, _ => Goes.pure
  | x :: r, s, es, n, hk, hd, hz, hp => by
    rw [List.map_cons, List.forIn_cons]
    have hn : ∀ e ∈ es, e.hash ≠ x.1 := fun e he => by
      rw [List.pairwise_append] at hp
      exact hp.2.2 e he _ List.mem_cons_self
    have hset := goes_set (w := w) (p := dP) (s := { s with toks := s.toks + 1 + 1 }) (t := s.toks) (v := .str x.2 (s.toks + 1)) (hk x List.mem_cons_self) hd hc hn (by omega)
    have hfirst : Goes w (body (pairOf x) ⟨⟩) 50 s dP (.yield ⟨⟩) { putH s d (es ++ [⟨x.1, .int x.1 s.toks, .str x.2 (s.toks + 1)⟩]) (n + 1) with toks := s.toks + 3 } dP := by
      rw [hb]
      refine Goes.more (k := 1 + (2 + (45 + 0))) ?_ (by omega)
      refine Goes.bind (a := .int x.1 s.toks) (s1 := { s with toks := s.toks + 1 }) (p1 := dP) (Goes.fresh Goes.pure) ?_
      refine Goes.bind (a := .str x.2 (s.toks + 1)) (s1 := { s with toks := s.toks + 1 + 1 }) (p1 := dP) (Goes.holding ?_) ?_
      · exact Goes.bind (k1 := 1) (k2 := 1) (Goes.fresh Goes.pure) (Goes.bind (k1 := 1) (k2 := 0) (Goes.at Goes.pure) Goes.pure)
      · exact Goes.bind (Goes.holding hset) Goes.pure
    have hrest := goes_subLoop hc body hb r { putH s d (es ++ [⟨x.1, .int x.1 s.toks, .str x.2 (s.toks + 1)⟩]) (n + 1) with toks := s.toks + 3 } (es ++ [⟨x.1, .int x.1 s.toks, .str x.2 (s.toks + 1)⟩]) (n + 1)
      (fun y hy => hk y (List.mem_cons_of_mem _ hy)) (get_put hd) (by simp at hz ⊢; omega) (by rw [List.append_assoc]; exact hp)
    have hfin : subS { putH s d (es ++ [⟨x.1, .int x.1 s.toks, .str x.2 (s.toks + 1)⟩]) (n + 1) with toks := s.toks + 3 } d (es ++ [⟨x.1, .int x.1 s.toks, .str x.2 (s.toks + 1)⟩]) (n + 1) r = subS s d es n (x :: r) := by
      unfold subS
      cases r with
      | nil => rfl
      | cons y r' =>
        dsimp only
        rw [upd_upd, List.append_assoc, show n + 1 + (y :: r').length = n + (x :: y :: r').length by simp; omega, show s.toks + 3 + 3 * (y :: r').length = s.toks + 3 * (x :: y :: r').length by simp; omega]
        rfl
    refine Goes.more (k := 50 + 50 * r.length) ?_ (by simp; omega)
    rw [← hfin]
    exact Goes.bind hfirst hrest
theorem push_upd {h : Heap} {o : Obj} {f : Obj → Obj} : (h.push o).update h.objs.size f = h.push (f o) := by
  obtain ⟨objs, l⟩ := h
  show Heap.mk _ _ = Heap.mk _ _
  refine congrArg (Heap.mk · l) (Array.ext_getElem? fun i => ?_)
  show ((objs.push o).modify objs.size f)[i]? = (objs.push (f o))[i]?
  rw [Array.getElem?_modify, Array.getElem?_push, Array.getElem?_push]
  by_cases q : objs.size = i
  · subst q; simp
  · simp [q, Ne.symm q]
theorem goes_subDict {ps : List (Int × Str)} (hl : 15 < ps.length) (hk : ∀ x ∈ ps, x.1 ∈ tabK) (hc : Nat.ble 11 s.heap.objs.size = true) (hz : ps.length < sizeLine) (hp : (entsP s.toks ps).Pairwise (fun x y => x.hash ≠ y.hash)) :
    Goes w (subDict (ps.map pairOf)) (50 * ps.length + 2) s dP s.heap.objs.size { s with heap := s.heap.push (dobj (entsP s.toks ps) ps.length), toks := s.toks + 3 * ps.length } dP := by
  unfold subDict
  refine Goes.more (k := 1 + ((0 + (50 * ps.length + 0) + 1) + 0)) ?_ (by omega)
  refine Goes.bind (a := s.heap.objs.size) (s1 := { s with heap := s.heap.push (dobj [] 0) }) (p1 := dP) (Goes.alloc Goes.pure) ?_
  have hg : (s.heap.push (dobj [] 0)).get? s.heap.objs.size = some (dobj [] 0) := Heap.get?_push_size _ rfl
  have hfin : subS { s with heap := s.heap.push (dobj [] 0) } s.heap.objs.size [] 0 ps = { s with heap := s.heap.push (dobj (entsP s.toks ps) ps.length), toks := s.toks + 3 * ps.length } := by
    unfold subS
    cases ps with
    | nil => simp at hl
    | cons x r =>
      dsimp only
      rw [push_upd, Nat.zero_add]
      rfl
  refine Goes.bind (a := ()) (Goes.holding ?_) Goes.pure
  rw [if_neg (by simpa using hl)]
  refine Goes.rule (Goes.bind Goes.pure (Goes.bind (a := ⟨⟩) ?_ Goes.pure))
  rw [← hfin]
  exact goes_subLoop hc _ (fun x u => rfl) ps _ [] 0 hk hg (by simp; omega) (by simpa using hp)
end
end SHs
section SHl
def itemOf (x : Int × Str) : Pr := (some (pairOf x).1, (pairOf x).2)
section
variable {w : World} {k : Nat} {s s' : Shared} {p p' : Pos} {d : Addr} {es : List DictEntry} {n : Nat}
theorem f_grow {x : Int × Str} {main : Option Addr} {run : List (Sem Value × Sem Value)} (h : run.length + 1 ≠ 17) : ddB.f (itemOf x) (main, run) = .pure (.yield (main, run ++ [pairOf x])) := by
  show (if ((run ++ [((pairOf x).1, (pairOf x).2)]).length == 17) = true then _ else _) = _
  rw [if_neg (by simp; omega)]
  rfl
theorem f_flush {x : Int × Str} {run : List (Sem Value × Sem Value)} (h : run.length + 1 = 17) : ddB.f (itemOf x) (some d, run) =
    ((holding [.ref d] (subDict (run ++ [pairOf x]))).bind fun sub => ((holding [.ref d, .ref sub] (mergeMapping d (.ref sub) false)).onRaise fun e => (holding [.ref d, e] (runValue (.builtin "proto.let_go" {}))).bind fun _ => .pure ()).bind fun _ => (.pure (some d) : Sem (Option Addr))).bind fun m => .pure (.yield (m, [])) := by
  show (if ((run ++ [((pairOf x).1, (pairOf x).2)]).length == 17) = true then _ else _) = _
  rw [if_pos (by simp; omega)]
  dsimp only
  rw [if_neg (by simp)]
  rfl
theorem f_flush0 {x : Int × Str} {run : List (Sem Value × Sem Value)} (h : run.length + 1 = 17) : ddB.f (itemOf x) (none, run) =
    ((subDict (run ++ [pairOf x])).bind fun sub => (.pure (some sub) : Sem (Option Addr))).bind fun m => .pure (.yield (m, [])) := by
  show (if ((run ++ [((pairOf x).1, (pairOf x).2)]).length == 17) = true then _ else _) = _
  rw [if_pos (by simp; omega)]
  dsimp only
  rw [if_neg (by simp)]
  rfl
theorem goes_grow {rest : List Pr} {main : Option Addr} {b : St} : ∀ (ps : List (Int × Str)) (run : List (Sem Value × Sem Value)), run.length + ps.length ≤ 16 →
    Goes w (forIn (m := Sem) rest (main, run ++ ps.map pairOf) ddB.f) k s p b s' p' → Goes w (forIn (m := Sem) (ps.map itemOf ++ rest) (main, run) ddB.f) k s p b s' p'
  | [], run, _, h => by simpa using h
  | x :: r, run, hl, h => by
    rw [List.map_cons, List.cons_append, List.forIn_cons, f_grow (by simp at hl; omega)]
    exact goes_grow r (run ++ [pairOf x]) (by simp at hl ⊢; omega) (by rw [List.append_assoc]; exact h)
theorem entsP_app : ∀ (a b : List (Int × Str)) (t : Nat), entsP t (a ++ b) = entsP t a ++ entsP (t + 3 * a.length) b
  | [], b, t => rfl
  | x :: r, b, t => by
    show _ :: entsP (t + 3) (r ++ b) = _ :: (entsP (t + 3) r ++ _)
    rw [entsP_app r b (t + 3), show t + 3 + 3 * r.length = t + 3 * (x :: r).length by simp; omega]
def pushAll (h : Heap) (l : List Obj) : Heap := l.foldl Heap.push h
theorem pushAll_size : ∀ (l : List Obj) (h : Heap), (pushAll h l).objs.size = h.objs.size + l.length
  | [], _ => rfl
  | o :: r, h => by show (pushAll (h.push o) r).objs.size = _; rw [pushAll_size r, Heap.size_push]; simp; omega
theorem push_comm {h : Heap} {a : Addr} {o : Obj} {f : Obj → Obj} (ha : a < h.objs.size) : (h.push o).update a f = (h.update a f).push o := by
  obtain ⟨objs, l⟩ := h
  show Heap.mk _ _ = Heap.mk _ _
  refine congrArg (Heap.mk · l) (Array.ext_getElem? fun i => ?_)
  show ((objs.push o).modify a f)[i]? = ((objs.modify a f).push o)[i]?
  have ha' : a < objs.size := ha
  rw [Array.getElem?_modify, Array.getElem?_push, Array.getElem?_push, Array.getElem?_modify, Array.size_modify]
  by_cases q : a = i
  · subst q; simp [Nat.ne_of_lt ha']
  · simp [q]
theorem pushAll_upd {f : Obj → Obj} {a : Addr} : ∀ (l : List Obj) (h : Heap), a < h.objs.size → (pushAll h l).update a f = pushAll (h.update a f) l
  | [], _, _ => rfl
  | o :: r, h, ha => by
    show (pushAll (h.push o) r).update a f = pushAll ((h.update a f).push o) r
    rw [pushAll_upd r (h.push o) (by rw [Heap.size_push]; exact Nat.lt_succ_of_lt ha), push_comm ha]
theorem pushAll_snoc (h : Heap) (l : List Obj) (o : Obj) : (pushAll h l).push o = pushAll h (l ++ [o]) := by
  unfold pushAll; rw [List.foldl_append]; rfl
theorem pushAll_get {a : Addr} {o : Obj} : ∀ (l : List Obj) (h : Heap), h.get? a = some o → (pushAll h l).get? a = some o
  | [], _, e => e
  | x :: r, h, e => pushAll_get r (h.push x) (Heap.get?_push_of_some x e)
def stepC (s : Shared) (d : Addr) (es : List DictEntry) (n : Nat) (c : List (Int × Str)) : Shared :=
  putH { s with heap := s.heap.push (dobj (entsP s.toks c) 17), toks := s.toks + 51 } d (es ++ entsP s.toks c) (n + 17)
def endC (s : Shared) (d : Addr) (es : List DictEntry) (n : Nat) : List (List (Int × Str)) → Shared
  | [] => s
  | c :: r => endC (stepC s d es n c) d (es ++ entsP s.toks c) (n + 17) r
theorem endC_eq (h0 : Heap) : ∀ (chs : List (List (Int × Str))) (s : Shared) (es : List DictEntry) (n : Nat) (pre : List Obj), (∀ c ∈ chs, c.length = 17) → s.heap = pushAll (h0.push (dobj es n)) pre →
    endC s h0.objs.size es n chs = { s with heap := pushAll (h0.push (dobj (es ++ entsP s.toks chs.flatten) (n + 17 * chs.length))) (pre ++ subsC s.toks chs), toks := s.toks + 51 * chs.length }
  | [], s, es, n, pre, _, hh => by
    show s = _
    obtain ⟨hp, g, dr, tk, os⟩ := s
    dsimp only at hh
    subst hh
    simp [entsP, subsC]
  | c :: r, s, es, n, pre, hl, hh => by
    have hc : c.length = 17 := hl c List.mem_cons_self
    have hs : (stepC s h0.objs.size es n c).heap = pushAll (h0.push (dobj (es ++ entsP s.toks c) (n + 17))) (pre ++ [dobj (entsP s.toks c) 17]) := by
      show ((s.heap.push _).update _ _) = _
      rw [hh, pushAll_snoc, pushAll_upd _ _ (by rw [Heap.size_push]; exact Nat.lt_succ_self _), push_upd]
    show endC (stepC s h0.objs.size es n c) _ _ _ r = _
    rw [endC_eq h0 r _ _ _ _ (fun x hx => hl x (List.mem_cons_of_mem _ hx)) hs]
    show ({ s with heap := _, toks := s.toks + 51 + 51 * r.length } : Shared) = _
    rw [List.flatten_cons, entsP_app, hc, List.length_cons, List.append_assoc, List.append_assoc, show n + 17 + 17 * r.length = n + 17 * (r.length + 1) by omega, show s.toks + 51 + 51 * r.length = s.toks + 51 * (r.length + 1) by omega]
    rfl
theorem snoc_of {c : List (Int × Str)} (h : c.length = 17) : ∃ l x, c = l ++ [x] ∧ l.length = 16 := by
  refine ⟨c.dropLast, c.getLast (by intro q; rw [q] at h; simp at h), (List.dropLast_concat_getLast _).symm, by simp [h]⟩
theorem goes_chunks (hc : Nat.ble 11 d = true) (hds : 0 < d) {rest : List Pr} {b : St} : ∀ (chs : List (List (Int × Str))) (s : Shared) (es : List DictEntry) (n : Nat), (∀ c ∈ chs, c.length = 17) → (∀ c ∈ chs, ∀ x ∈ c, x.1 ∈ tabK) → es ≠ [] → d < s.heap.objs.size →
    s.heap.get? d = some (dobj es n) → es.length + chs.flatten.length < sizeLine → (es ++ entsP s.toks chs.flatten).Pairwise (fun x y => x.hash ≠ y.hash) →
    Goes w (forIn (m := Sem) rest (some d, []) ddB.f) k (endC s d es n chs) dP b s' p' → Goes w (forIn (m := Sem) (chs.flatten.map itemOf ++ rest) (some d, []) ddB.f) (1300 * chs.length + k) s dP b s' p'
  | [], s, es, n, _, _, _, _, _, _, _, h => by
    rw [List.length_nil, Nat.mul_zero, Nat.zero_add]
    exact h
  | c :: r, s, es, n, hl, hk, hne, hd, hg, hz, hp, h => by
    have hcl := hl c List.mem_cons_self
    obtain ⟨l, x, hcx, hl16⟩ := snoc_of hcl
    have hsize : Nat.ble 11 s.heap.objs.size = true := Nat.ble_eq_true_of_le (Nat.le_of_lt (Nat.lt_of_le_of_lt (Nat.le_of_ble_eq_true hc) hd))
    rw [List.flatten_cons] at hz hp
    rw [List.length_append, hcl] at hz
    rw [entsP_app, hcl, ← List.append_assoc] at hp
    have hp1 : (es ++ entsP s.toks c).Pairwise (fun x y => x.hash ≠ y.hash) := (List.pairwise_append.mp hp).1
    have hp0 : (entsP s.toks c).Pairwise (fun x y => x.hash ≠ y.hash) := (List.pairwise_append.mp hp1).2.1
    have hsub := goes_subDict (w := w) (s := s) (ps := c) (by rw [hcl]; decide) (hk c List.mem_cons_self) hsize (by rw [hcl]; exact Nat.lt_of_le_of_lt (by omega) hz) hp0
    rw [hcl] at hsub
    have hgd : (s.heap.push (dobj (entsP s.toks c) 17)).get? d = some (dobj es n) := Heap.get?_push_of_some _ hg
    have hmer := goes_merge (w := w) (p := dP) (s := { s with heap := s.heap.push (dobj (entsP s.toks c) 17), toks := s.toks + 51 }) (d := d) (es := es) (n := n) (a := s.heap.objs.size) (sub := entsP s.toks c) (na := 17) (m := 16)
      (Nat.ne_of_lt hd) hc (by rw [beq_eq_false_iff_ne]; intro q; have := Nat.le_of_ble_eq_true hsize; rw [q] at this; exact absurd this (by decide)) (entsP_int _ _) (by rw [entsP_len, hcl]) hne (Heap.get?_push_size _ rfl) hgd (by omega) hp1
    rw [List.flatten_cons, List.map_append, List.append_assoc, hcx, List.map_append, List.append_assoc]
    have hrec := goes_chunks hc hds r (stepC s d es n c) (es ++ entsP s.toks c) (n + 17) (fun y hy => hl y (List.mem_cons_of_mem _ hy)) (fun y hy => hk y (List.mem_cons_of_mem _ hy)) (by simp [hne]) (by
        show d < ((s.heap.push _).update _ _).objs.size
        rw [Heap.size_after_update, Heap.size_push]; exact Nat.lt_succ_of_lt hd) (get_put hgd) (by rw [List.length_append, entsP_len, hcl]; omega) hp h
    refine Goes.more (k := (((1000 + ((85 + 6 * (16 + 1)) + 0)) + 0) + (113 + 1300 * r.length + k))) ?_ (by simp; omega)
    refine goes_grow l [] (by simp; omega) ?_
    rw [List.nil_append, List.map_cons, List.map_nil, List.singleton_append, List.forIn_cons, f_flush (by simp; omega)]
    refine Goes.bind (a := .yield (some d, [])) (s1 := stepC s d es n c) (p1 := dP) (Goes.bind (a := some d) (s1 := stepC s d es n c) (p1 := dP) (Goes.bind (a := s.heap.objs.size) (s1 := { s with heap := s.heap.push (dobj (entsP s.toks c) 17), toks := s.toks + 51 }) (p1 := dP) (Goes.holding ?_) ?_) Goes.pure) ?_
    · rw [show l.map pairOf ++ [pairOf x] = c.map pairOf by rw [hcx]; simp]
      exact hsub.more (by omega)
    · exact Goes.bind (a := ()) (p1 := dP) (Goes.onRaise (Goes.holding hmer)) Goes.pure
    · exact hrec.more (by omega)
end
end SHl
section SHf
theorem items_eq : items = PS.map itemOf := by kernel_rfl
theorem PS_eq : PS = c0 ++ (chs.flatten ++ c9) := by kernel_rfl
theorem stm15 : stm 15 = .Assign [.Name "b3_exceptions" ⟨102, 0, 102, 13⟩] (.Dict dK dV dP) aP := by kernel_rfl
def rising : List Int → Bool
  | [] => true
  | x :: r => (match r with | [] => true | y :: _ => decide (x < y)) && rising r
theorem rising_lt : ∀ (l : List Int) (x : Int), rising (x :: l) = true → ∀ y ∈ l, x < y
  | [], _, _, _, h => by cases h
  | z :: r, x, h, y, hy => by
    unfold rising at h
    simp only [Bool.and_eq_true, decide_eq_true_eq] at h
    rcases List.mem_cons.mp hy with rfl | hy
    · exact h.1
    · exact Int.lt_trans h.1 (rising_lt r z h.2 y hy)
theorem rising_pw : ∀ (l : List Int), rising l = true → l.Pairwise (· ≠ ·)
  | [], _ => .nil
  | x :: r, h => by
    refine List.pairwise_cons.mpr ⟨fun y hy => Int.ne_of_lt (rising_lt r x h y hy), rising_pw r ?_⟩
    unfold rising at h
    exact (Bool.and_eq_true_iff.mp h).2
theorem tabK_rising : rising (PS.map (·.1)) = true := by kernel_rfl
theorem tabK_pw : (PS.map (·.1)).Pairwise (· ≠ ·) := rising_pw _ tabK_rising
theorem pw_of {es : List DictEntry} (h : (es.map (·.hash)).Pairwise (· ≠ ·)) : es.Pairwise (fun x y => x.hash ≠ y.hash) := List.pairwise_map.mp h
theorem chs_len : ∀ c ∈ chs, c.length = 17 := fun c hc => by
  have h : (chs.all fun c => c.length == 17) = true := by kernel_rfl
  exact beq_iff_eq.mp (List.all_eq_true.mp h c hc)
theorem keys_of {x : Int × Str} (h : x ∈ PS) : x.1 ∈ tabK := by
  unfold PS at h
  exact (List.of_mem_zip (a := x.1) (b := x.2) h).1
theorem mem_c0 {x : Int × Str} (h : x ∈ c0) : x.1 ∈ tabK := keys_of (by rw [PS_eq]; exact List.mem_append_left _ h)
theorem mem_chs {c : List (Int × Str)} (hc : c ∈ chs) {x : Int × Str} (h : x ∈ c) : x.1 ∈ tabK := keys_of (by rw [PS_eq]; exact List.mem_append_right _ (List.mem_append_left _ (List.mem_flatten.mpr ⟨c, hc, h⟩)))
theorem mem_c9 {x : Int × Str} (h : x ∈ c9) : x.1 ∈ tabK := keys_of (by rw [PS_eq]; exact List.mem_append_right _ (List.mem_append_right _ h))
theorem entsL_len : ∀ (t : Nat) (ps : List (Int × Str)), (entsL t ps).length = ps.length
  | _, [] => rfl
  | t, x :: r => by show (entsL (t + 2) r).length + 1 = _; rw [entsL_len]; rfl
theorem entsL_int : ∀ (t : Nat) (ps : List (Int × Str)), IntEs (entsL t ps)
  | _, [], _, h => by cases h
  | t, x :: r, e, h => by
    rcases List.mem_cons.mp h with rfl | h
    · exact ⟨t, rfl⟩
    · exact entsL_int (t + 2) r e h
theorem entsL_hash : ∀ (t : Nat) (ps : List (Int × Str)), (entsL t ps).map (·.hash) = ps.map (·.1)
  | _, [] => rfl
  | t, x :: r => by show x.1 :: (entsL (t + 2) r).map (·.hash) = _; rw [entsL_hash]; rfl
theorem big_pw : bigEs.Pairwise (fun x y => x.hash ≠ y.hash) := pw_of (by
  unfold bigEs
  rw [List.map_append, entsP_hash, entsL_hash, ← List.map_append, List.append_assoc, ← PS_eq]
  exact tabK_pw)
theorem c0_len : c0.length = 17 := by kernel_rfl
theorem c9_len : c9.length = 4 := by kernel_rfl
theorem flat_len : chs.flatten.length = 629 := by kernel_rfl
section
variable {w : World} {k : Nat} {s s' : Shared} {p p' : Pos} {d : Addr} {es : List DictEntry} {n : Nat}
def valsL : Nat → List (Int × Str) → List (Value × Value)
  | _, [] => []
  | t, x :: r => (.int x.1 t, .str x.2 (t + 1)) :: valsL (t + 2) r
theorem goes_pairs : ∀ (ps : List (Int × Str)) (s : Shared), Goes w (evalPairs (ps.map pairOf)) (3 * ps.length) s dP (valsL s.toks ps) { s with toks := s.toks + 2 * ps.length } dP
  | [], s => Goes.pure
  | x :: r, s => by
    refine Goes.more (k := 1 + (2 + (3 * r.length + 0))) ?_ (by simp; omega)
    refine Goes.bind (a := .int x.1 s.toks) (s1 := { s with toks := s.toks + 1 }) (p1 := dP) (Goes.fresh Goes.pure) ?_
    refine Goes.bind (a := .str x.2 (s.toks + 1)) (s1 := { s with toks := s.toks + 1 + 1 }) (p1 := dP) (Goes.holding ?_) ?_
    · exact Goes.bind (k1 := 1) (k2 := 1) (Goes.fresh Goes.pure) (Goes.bind (k1 := 1) (k2 := 0) (Goes.at Goes.pure) Goes.pure)
    · have h := goes_pairs r { s with toks := s.toks + 1 + 1 }
      rw [show (x :: r).length = r.length + 1 from rfl, show s.toks + 2 * (r.length + 1) = s.toks + 1 + 1 + 2 * r.length by omega]
      exact Goes.bind (Goes.holding h) Goes.pure
def subT (s : Shared) (d : Addr) (es : List DictEntry) (n t : Nat) (ps : List (Int × Str)) : Shared :=
  { s with heap := (match ps with | [] => s.heap | _ :: _ => s.heap.update d (fun _ => dobj (es ++ entsL t ps) (n + ps.length))), toks := s.toks + ps.length }
theorem goes_setLoop (hc : Nat.ble 11 d = true) (body : Value × Value → PUnit → Sem (ForInStep PUnit))
    (hb : ∀ x u, body x u = (dictSet d x.1 x.2).bind fun _ => .pure (.yield ⟨⟩)) :
    ∀ (ps : List (Int × Str)) (s : Shared) (es : List DictEntry) (n t : Nat), (∀ x ∈ ps, x.1 ∈ tabK) → s.heap.get? d = some (dobj es n) → es.length + ps.length < sizeLine →
      (es ++ entsL t ps).Pairwise (fun x y => x.hash ≠ y.hash) → Goes w (forIn (m := Sem) (valsL t ps) PUnit.unit body) (50 * ps.length) s dP ⟨⟩ (subT s d es n t ps) dP
  | [], s, es, n, t, _, _, _, _ => Goes.pure
  | x :: r, s, es, n, t, hk, hd, hz, hp => by
    show Goes w (forIn (m := Sem) ((.int x.1 t, .str x.2 (t + 1)) :: valsL (t + 2) r) PUnit.unit body) _ _ _ _ _ _
    rw [List.forIn_cons]
    have hn : ∀ e ∈ es, e.hash ≠ x.1 := fun e he => by
      rw [List.pairwise_append] at hp
      exact hp.2.2 e he _ List.mem_cons_self
    have hset := goes_set (w := w) (p := dP) (s := s) (t := t) (v := .str x.2 (t + 1)) (hk x List.mem_cons_self) hd hc hn (by simp at hz; omega)
    have hfirst : Goes w (body (.int x.1 t, .str x.2 (t + 1)) ⟨⟩) 50 s dP (.yield ⟨⟩) { putH s d (es ++ [⟨x.1, .int x.1 t, .str x.2 (t + 1)⟩]) (n + 1) with toks := s.toks + 1 } dP := by
      rw [hb]
      exact Goes.more (Goes.bind hset Goes.pure) (by omega)
    have hrest := goes_setLoop hc body hb r { putH s d (es ++ [⟨x.1, .int x.1 t, .str x.2 (t + 1)⟩]) (n + 1) with toks := s.toks + 1 } (es ++ [⟨x.1, .int x.1 t, .str x.2 (t + 1)⟩]) (n + 1) (t + 2)
      (fun y hy => hk y (List.mem_cons_of_mem _ hy)) (get_put hd) (by simp at hz ⊢; omega) (by rw [List.append_assoc]; exact hp)
    have hfin : subT { putH s d (es ++ [⟨x.1, .int x.1 t, .str x.2 (t + 1)⟩]) (n + 1) with toks := s.toks + 1 } d (es ++ [⟨x.1, .int x.1 t, .str x.2 (t + 1)⟩]) (n + 1) (t + 2) r = subT s d es n t (x :: r) := by
      unfold subT
      cases r with
      | nil => rfl
      | cons y r' =>
        dsimp only
        rw [upd_upd, List.append_assoc, show n + 1 + (y :: r').length = n + (x :: y :: r').length by simp; omega, show s.toks + 1 + (y :: r').length = s.toks + (x :: y :: r').length by simp; omega]
        rfl
    refine Goes.more (k := 50 + 50 * r.length) ?_ (by simp; omega)
    rw [← hfin]
    exact Goes.bind hfirst hrest
theorem goes_subShort {ps : List (Int × Str)} (hl : ps.length ≤ 15) (h0 : 0 < ps.length) (hk : ∀ x ∈ ps, x.1 ∈ tabK) (hc : Nat.ble 11 s.heap.objs.size = true) (hz : ps.length < sizeLine) (hp : (entsL s.toks ps).Pairwise (fun x y => x.hash ≠ y.hash)) :
    Goes w (subDict (ps.map pairOf)) (60 * ps.length + 2) s dP s.heap.objs.size { s with heap := s.heap.push (dobj (entsL s.toks ps) ps.length), toks := s.toks + 2 * ps.length + ps.length } dP := by
  unfold subDict
  refine Goes.more (k := 1 + ((3 * ps.length + (50 * ps.length + 0)) + 0)) ?_ (by omega)
  refine Goes.bind (a := s.heap.objs.size) (s1 := { s with heap := s.heap.push (dobj [] 0) }) (p1 := dP) (Goes.alloc Goes.pure) ?_
  have hg : (s.heap.push (dobj [] 0)).get? s.heap.objs.size = some (dobj [] 0) := Heap.get?_push_size _ rfl
  have hfin : subT { s with heap := s.heap.push (dobj [] 0), toks := s.toks + 2 * ps.length } s.heap.objs.size [] 0 s.toks ps = { s with heap := s.heap.push (dobj (entsL s.toks ps) ps.length), toks := s.toks + 2 * ps.length + ps.length } := by
    unfold subT
    cases ps with
    | nil => simp at h0
    | cons x r =>
      dsimp only
      rw [push_upd, Nat.zero_add]
      rfl
  refine Goes.bind (a := ()) (Goes.holding ?_) Goes.pure
  rw [if_pos (by simpa using hl)]
  refine Goes.bind (goes_pairs ps { s with heap := s.heap.push (dobj [] 0) }) ?_
  refine Goes.holding (Goes.bind (a := ⟨⟩) ?_ Goes.pure)
  rw [← hfin]
  exact goes_setLoop hc _ (fun x u => rfl) ps _ [] 0 s.toks hk hg (by simp; omega) (by simpa using hp)
theorem g_flush {run : List (Sem Value × Sem Value)} (h : run ≠ []) : ddB.g (some d, run) =
    ((holding [.ref d] (subDict run)).bind fun sub => ((holding [.ref d, .ref sub] (mergeMapping d (.ref sub) false)).onRaise fun e => (holding [.ref d, e] (runValue (.builtin "proto.let_go" {}))).bind fun _ => .pure ()).bind fun _ => (.pure (some d) : Sem (Option Addr))).bind fun m => match m with | some d => .pure (.ref d) | none => newDict := by
  show Sem.bind (if run.isEmpty = true then _ else _) _ = _
  rw [if_neg (by simpa using h)]
  rfl
end
end SHf
section SHf2
def insOk : BT → Nat → List Obj → Bool
  | _, _, [] => true
  | t, n, o :: r => ((t.ins n o).get n).isSome && insOk (t.ins n o) (n + 1) r
theorem abs_insAll {life : Life} : ∀ (l : List Obj) (t : BT) (n : Nat), insOk t n l = true → absHeap (insAll t n l) (n + l.length) life = pushAll (absHeap t n life) l
  | [], t, n, _ => rfl
  | o :: r, t, n, h => by
    unfold insOk at h
    obtain ⟨h1, h2⟩ := Bool.and_eq_true_iff.mp h
    show absHeap (insAll (t.ins n o) (n + 1) r) _ life = pushAll ((absHeap t n life).push o) r
    rw [← absHeap_ins h1, ← abs_insAll r _ _ h2, List.length_cons, show n + (r.length + 1) = n + 1 + r.length by omega]
theorem tD_ok : ∀ w : World, insOk (t15 w.params) 107 dObjs = true := fun w => by kernel_rfl
theorem dObjs_len : dObjs.length = 39 := by kernel_rfl
theorem chs_n : chs.length = 37 := by kernel_rfl
theorem tD_abs (w : World) : absHeap (tD w.params) 146 {} = pushAll (absHeap (t15 w.params) 107 {}) dObjs := by
  have := abs_insAll (life := {}) dObjs (t15 w.params) 107 (tD_ok w)
  rw [dObjs_len] at this
  exact this
noncomputable def SD (w : World) (os : OsState) : SharedT := ⟨tD w.params, 146, {}, ⟨[]⟩, {}, 2337, os⟩
theorem as_seg : ∀ w : World, (fun os lv => tSeg tTab pw w 11 (some (.ref 6)) 1 60 (SD w os) ⟨(assignStores env0 (.ref 107) none ((assignEach [.Name "b3_exceptions" ⟨102, 0, 102, 13⟩] env0).map (·.2))).wrap (fun f => .pure (.done f)) deadEnd id lv, cE, dP, [topFrame q0]⟩) = fun os _ => some (.next, S16 w os, cE, p16) := fun w => by kernel_rfl
theorem segT_same : @tSeg tTab = @segRunT treeTable := by
  rw [show @tSeg = @segRunT from PySem.W.Fast.te10110043849684766642.symm, show @tTab = @treeTable from PySem.W.Fast.te14364793385576792824.symm]
section
variable {w : World} {k : Nat} {s s' : Shared} {p p' : Pos} {d : Addr} {es : List DictEntry} {n : Nat}
theorem goes_as {os : OsState} : Goes w (assignStores env0 (.ref 107) none ((assignEach [.Name "b3_exceptions" ⟨102, 0, 102, 13⟩] env0).map (·.2))) 60 (SD w os).abs dP .next (S16 w os).abs p16 :=
  Goes.seg id (fun lv => by
    have := congrFun (congrFun (as_seg w) os) lv
    rw [segT_same] at this
    exact segRun_of this) (fun a' e => e)
theorem size_ok {n : Nat} (h : n ≤ 700) : n < sizeLine := Nat.lt_of_le_of_lt h (by decide)
end
end SHf2
section SHf3
section
variable {w : World} {k : Nat} {s s' : Shared} {p p' : Pos} {d : Addr} {es : List DictEntry} {n : Nat}
theorem goes_display (hs : s.heap.objs.size = 107) (ht : s.toks = 387) :
    Goes w (dictDisplay items) 51000 s dP (.ref 107) { s with heap := pushAll s.heap dObjs, toks := 2337 } dP := by
  rw [ddB.h, items_eq, PS_eq, List.map_append, List.map_append, ← List.append_nil (c9.map itemOf)]
  have hpwAll : (entsP 387 c0 ++ entsP 438 chs.flatten ++ entsL 2325 c9).Pairwise (fun x y => x.hash ≠ y.hash) := by
    have := big_pw
    unfold bigEs at this
    rw [entsP_app, c0_len] at this
    exact this
  have hpw1 := (List.pairwise_append.mp hpwAll).1
  have hpw0 := (List.pairwise_append.mp hpw1).1
  have hpw9 := (List.pairwise_append.mp hpwAll).2.1
  -- the first chunk
  obtain ⟨l, x, hcx, hl16⟩ := snoc_of c0_len
  have hsub := goes_subDict (w := w) (s := s) (ps := c0) (by rw [c0_len]; decide) (fun _ h => mem_c0 h) (by rw [hs]; rfl) (by rw [c0_len]; decide) (by rw [ht]; exact hpw0)
  rw [c0_len, hs, ht] at hsub
  have hg1 : (s.heap.push (dobj (entsP 387 c0) 17)).get? 107 = some (dobj (entsP 387 c0) 17) := by rw [← hs]; exact Heap.get?_push_size _ rfl
  -- the chunks
  have hend := endC_eq s.heap chs { s with heap := s.heap.push (dobj (entsP 387 c0) 17), toks := 438 } (entsP 387 c0) 17 [] chs_len rfl
  rw [hs, chs_n] at hend
  simp only [List.nil_append, Nat.reduceMul, Nat.reduceAdd] at hend hsub
  -- the last four
  have hlast := goes_subShort (w := w) (s := endC { s with heap := s.heap.push (dobj (entsP 387 c0) 17), toks := 438 } 107 (entsP 387 c0) 17 chs) (ps := c9) (by rw [c9_len]; decide) (by rw [c9_len]; decide) (fun _ h => mem_c9 h)
    (by rw [hend]; dsimp only; rw [pushAll_size, Heap.size_push, hs]; exact Nat.ble_eq_true_of_le (Nat.le_trans (by decide) (Nat.le_add_right 108 _))) (by rw [c9_len]; decide) (by rw [hend]; exact hpw9)
  have hsz : (endC { s with heap := s.heap.push (dobj (entsP 387 c0) 17), toks := 438 } 107 (entsP 387 c0) 17 chs).heap.objs.size = 145 := by
    rw [hend]; dsimp only
    rw [pushAll_size, Heap.size_push, hs, show (subsC 438 chs).length = 37 by kernel_rfl]
  have hg2 : ((endC { s with heap := s.heap.push (dobj (entsP 387 c0) 17), toks := 438 } 107 (entsP 387 c0) 17 chs).heap.push (dobj (entsL 2325 c9) 4)).get? 107 = some (dobj (entsP 387 c0 ++ entsP 438 chs.flatten) 646) := by
    refine Heap.get?_push_of_some _ ?_
    rw [hend]
    exact pushAll_get _ _ (by rw [← hs]; exact Heap.get?_push_size _ rfl)
  rw [hsz, c9_len, show (endC { s with heap := s.heap.push (dobj (entsP 387 c0) 17), toks := 438 } 107 (entsP 387 c0) 17 chs).toks = 2325 by rw [hend]] at hlast
  simp only [Nat.reduceMul, Nat.reduceAdd] at hlast
  have hmer := goes_merge (w := w) (p := dP) (s := { endC { s with heap := s.heap.push (dobj (entsP 387 c0) 17), toks := 438 } 107 (entsP 387 c0) 17 chs with heap := (endC { s with heap := s.heap.push (dobj (entsP 387 c0) 17), toks := 438 } 107 (entsP 387 c0) 17 chs).heap.push (dobj (entsL 2325 c9) 4), toks := 2337 })
    (d := 107) (es := entsP 387 c0 ++ entsP 438 chs.flatten) (n := 646) (a := 145) (sub := entsL 2325 c9) (na := 4) (m := 3) (by decide) rfl rfl (entsL_int _ _) (by rw [entsL_len, c9_len]) (by
      intro q; have := congrArg List.length q; rw [List.length_append, entsP_len, c0_len] at this; simp at this) (by rw [← hsz]; exact Heap.get?_push_size _ rfl) hg2 (by rw [List.length_append, entsP_len, entsP_len, c0_len, flat_len]; exact size_ok (by decide)) hpwAll
  have hfin : putH { endC { s with heap := s.heap.push (dobj (entsP 387 c0) 17), toks := 438 } 107 (entsP 387 c0) 17 chs with heap := (endC { s with heap := s.heap.push (dobj (entsP 387 c0) 17), toks := 438 } 107 (entsP 387 c0) 17 chs).heap.push (dobj (entsL 2325 c9) 4), toks := 2337 } 107 (entsP 387 c0 ++ entsP 438 chs.flatten ++ entsL 2325 c9) 650 = { s with heap := pushAll s.heap dObjs, toks := 2337 } := by
    rw [hend]
    have hb : bigEs = entsP 387 c0 ++ entsP 438 chs.flatten ++ entsL 2325 c9 := by
      unfold bigEs; rw [entsP_app, c0_len]
    unfold dObjs
    rw [hb]
    show ({ s with heap := ((pushAll (s.heap.push _) _).push _).update 107 _, toks := 2337 } : Shared) = _
    rw [pushAll_snoc, pushAll_upd _ _ (by rw [Heap.size_push, hs]; exact Nat.lt_succ_self _), ← hs, push_upd]
    rfl
  simp only [Nat.reduceMul, Nat.reduceAdd] at hmer
  rw [hfin] at hmer
  refine Goes.more (k := (51 * 20 + 0 + 0 + (1300 * 37 + 0)) + ((60 * 4 + 2 + (85 + 6 * (3 + 1) + 0)) + 0)) ?_ (by omega)
  refine Goes.bind (a := (some 107, c9.map pairOf)) (s1 := endC { s with heap := s.heap.push (dobj (entsP 387 c0) 17), toks := 438 } 107 (entsP 387 c0) 17 chs) (p1 := dP) ?_ ?_
  · have hcm : c0.map itemOf = l.map itemOf ++ [itemOf x] := by rw [hcx]; simp
    rw [hcm, List.append_assoc]
    refine goes_grow l [] (by simp; omega) ?_
    rw [List.nil_append, List.singleton_append, List.forIn_cons, f_flush0 (by simp; omega)]
    refine Goes.bind (a := .yield (some 107, [])) (s1 := { s with heap := s.heap.push (dobj (entsP 387 c0) 17), toks := 438 }) (p1 := dP) (Goes.bind (a := some 107) (p1 := dP) (Goes.bind (a := 107) (p1 := dP) ?_ Goes.pure) Goes.pure) ?_
    · rw [show l.map pairOf ++ [pairOf x] = c0.map pairOf by rw [hcx]; simp]
      exact hsub.more (by omega)
    · have := goes_chunks (w := w) (d := 107) rfl (by decide) (rest := c9.map itemOf ++ []) (k := 0) (p' := dP) (b := (some 107, c9.map pairOf)) (s' := endC { s with heap := s.heap.push (dobj (entsP 387 c0) 17), toks := 438 } 107 (entsP 387 c0) 17 chs) chs { s with heap := s.heap.push (dobj (entsP 387 c0) 17), toks := 438 } (entsP 387 c0) 17 chs_len (fun c hc x hx => mem_chs hc hx) (by
        intro q; have := congrArg List.length q; rw [entsP_len, c0_len] at this; simp at this) (by show 107 < (s.heap.push _).objs.size; rw [Heap.size_push, hs]; decide) hg1 (by rw [entsP_len, c0_len, flat_len]; exact size_ok (by decide)) hpw1 (goes_grow c9 [] (by rw [c9_len]; decide) Goes.pure)
      rw [chs_n] at this
      exact this
  · rw [g_flush (by intro q; have := congrArg List.length q; rw [List.length_map, c9_len] at this; simp at this)]
    refine Goes.bind (a := some 107) (p1 := dP) (Goes.bind (a := 145) (p1 := dP) (Goes.holding hlast) ?_) Goes.pure
    exact Goes.bind (a := ()) (p1 := dP) (Goes.onRaise (Goes.holding hmer)) Goes.pure
theorem S15_abs (w : World) (os : OsState) : (S15 w os).abs = ⟨absHeap (t15 w.params) 107 {}, ⟨[]⟩, {}, 387, os⟩ := by kernel_rfl
theorem SD_abs (w : World) (os : OsState) : (SD w os).abs = ⟨pushAll (absHeap (t15 w.params) 107 {}) dObjs, ⟨[]⟩, {}, 2337, os⟩ := by
  rw [← tD_abs]
  kernel_rfl
theorem pc15 (w : World) (os : OsState) : Goes w (exec (stm 15) env0) 52000 (S15 w os).abs p15 .next (S16 w os).abs p16 := by
  rw [stm15, exec_dict]
  refine Goes.more (k := 1 + ((1 + 51000) + 60)) ?_ (by omega)
  refine Goes.bind (a := ()) (s1 := (S15 w os).abs) (p1 := aP) (Goes.at Goes.pure) ?_
  refine Goes.bind (a := .ref 107) (s1 := (SD w os).abs) (p1 := dP) (Goes.bind (a := ()) (s1 := (S15 w os).abs) (p1 := dP) (Goes.at Goes.pure) ?_) goes_as
  rw [S15_abs, SD_abs]
  have := goes_display (w := w) (s := ⟨absHeap (t15 w.params) 107 {}, ⟨[]⟩, {}, 387, os⟩) (absHeap_size _ _ _) rfl
  unfold items at this
  exact this
end
end SHf3
section SHp
theorem pc0 : ∀ w : World, (fun os => tSeg tTab pw w 11 (some (.ref 6)) 1 10 (S0 w os) (piecesOf [stm 0] env0 cE p0 [topFrame q0])) = fun os => some (.next, S1 w os, cE, p1) := fun w => by kernel_rfl
theorem pc1 : ∀ w : World, (fun os => tSeg tTab pw w 11 (some (.ref 6)) 1 197 (S1 w os) (piecesOf [stm 1] env0 cE p1 [topFrame q0])) = fun os => some (.next, S2 w os, cE, p2) := fun w => by kernel_rfl
theorem pc2 : ∀ w : World, (fun os => tSeg tTab pw w 11 (some (.ref 6)) 1 214 (S2 w os) (piecesOf [stm 2] env0 cE p2 [topFrame q0])) = fun os => some (.next, S3 w os, cE, p3) := fun w => by kernel_rfl
theorem pc3 : ∀ w : World, (fun os => tSeg tTab pw w 11 (some (.ref 6)) 1 34 (S3 w os) (piecesOf [stm 3] env0 cE p3 [topFrame q0])) = fun os => some (.next, S4 w os, cE, p4) := fun w => by kernel_rfl
theorem pc4 : ∀ w : World, (fun os => tSeg tTab pw w 11 (some (.ref 6)) 1 10 (S4 w os) (piecesOf [stm 4] env0 cE p4 [topFrame q0])) = fun os => some (.next, S5 w os, cE, p5) := fun w => by kernel_rfl
theorem pc5 : ∀ w : World, (fun os => tSeg tTab pw w 11 (some (.ref 6)) 1 10 (S5 w os) (piecesOf [stm 5] env0 cE p5 [topFrame q0])) = fun os => some (.next, S6 w os, cE, p6) := fun w => by kernel_rfl
theorem pc6 : ∀ w : World, (fun os => tSeg tTab pw w 11 (some (.ref 6)) 1 40 (S6 w os) (piecesOf [stm 6] env0 cE p6 [topFrame q0])) = fun os => some (.next, S7 w os, cE, p7) := fun w => by kernel_rfl
theorem pc7 : ∀ w : World, (fun os => tSeg tTab pw w 11 (some (.ref 6)) 1 37 (S7 w os) (piecesOf [stm 7] env0 cE p7 [topFrame q0])) = fun os => some (.next, S8 w os, cE, p8) := fun w => by kernel_rfl
theorem pc8 : ∀ w : World, (fun os => tSeg tTab pw w 11 (some (.ref 6)) 1 34 (S8 w os) (piecesOf [stm 8] env0 cE p8 [topFrame q0])) = fun os => some (.next, S9 w os, cE, p9) := fun w => by kernel_rfl
theorem pc9 : ∀ w : World, (fun os => tSeg tTab pw w 11 (some (.ref 6)) 1 34 (S9 w os) (piecesOf [stm 9] env0 cE p9 [topFrame q0])) = fun os => some (.next, S10 w os, cE, p10) := fun w => by kernel_rfl
theorem pc10 : ∀ w : World, (fun os => tSeg tTab pw w 11 (some (.ref 6)) 1 38 (S10 w os) (piecesOf [stm 10] env0 cE p10 [topFrame q0])) = fun os => some (.next, S11 w os, cE, p11) := fun w => by kernel_rfl
theorem pc11 : ∀ w : World, (fun os => tSeg tTab pw w 11 (some (.ref 6)) 1 33 (S11 w os) (piecesOf [stm 11] env0 cE p11 [topFrame q0])) = fun os => some (.next, S12 w os, cE, p12) := fun w => by kernel_rfl
theorem pc12 : ∀ w : World, (fun os => tSeg tTab pw w 11 (some (.ref 6)) 1 10 (S12 w os) (piecesOf [stm 12] env0 cE p12 [topFrame q0])) = fun os => some (.next, S13 w os, cE, p13) := fun w => by kernel_rfl
abbrev Pc13 (w : World) : Prop := (fun os => tSeg tTab pw w 11 (some (.ref 6)) 1 999 (S13 w os) (piecesOf [stm 13] env0 cE p13 [topFrame q0])) = fun os => some (.next, S14 w os, cE, p14)
theorem pc13_ff : ∀ w : World, Pc13 ((w.withFollow "special-get-raises" false).withFollow "set-order" false) := fun w => by kernel_rfl
theorem pc13_ft : ∀ w : World, Pc13 ((w.withFollow "special-get-raises" true).withFollow "set-order" false) := fun w => by kernel_rfl
theorem pc13_tf : ∀ w : World, Pc13 ((w.withFollow "special-get-raises" false).withFollow "set-order" true) := fun w => by kernel_rfl
theorem pc13_tt : ∀ w : World, Pc13 ((w.withFollow "special-get-raises" true).withFollow "set-order" true) := fun w => by kernel_rfl
theorem pc13 : ∀ w : World, Pc13 w := byRow2 "set-order" (byRow2 "special-get-raises" pc13_ff pc13_ft) (byRow2 "special-get-raises" pc13_tf pc13_tt)
theorem pc14 : ∀ w : World, (fun os => tSeg tTab pw w 11 (some (.ref 6)) 1 30 (S14 w os) (piecesOf [stm 14] env0 cE p14 [topFrame q0])) = fun os => some (.next, S15 w os, cE, p15) := fun w => by kernel_rfl
theorem pc16 : ∀ w : World, (fun os => tSeg tTab pw w 11 (some (.ref 6)) 1 31 (S16 w os) (piecesOf [stm 16] env0 cE p16 [topFrame q0])) = fun os => some (.next, S17 w os, cE, p17) := fun w => by kernel_rfl
theorem pc17 : ∀ w : World, (fun os => tSeg tTab pw w 11 (some (.ref 6)) 1 10 (S17 w os) (piecesOf [stm 17] env0 cE p17 [topFrame q0])) = fun os => some (.next, S18 w os, cE, p18) := fun w => by kernel_rfl
theorem pc18 : ∀ w : World, (fun os => tSeg tTab pw w 11 (some (.ref 6)) 1 32 (S18 w os) (piecesOf [stm 18] env0 cE p18 [topFrame q0])) = fun os => some (.next, S19 w os, cE, p19) := fun w => by kernel_rfl
theorem pc19 : ∀ w : World, (fun os => tSeg tTab pw w 11 (some (.ref 6)) 1 32 (S19 w os) (piecesOf [stm 19] env0 cE p19 [topFrame q0])) = fun os => some (.next, S20 w os, cE, p20) := fun w => by kernel_rfl
theorem pc20 : ∀ w : World, (fun os => tSeg tTab pw w 11 (some (.ref 6)) 1 31 (S20 w os) (piecesOf [stm 20] env0 cE p20 [topFrame q0])) = fun os => some (.next, S21 w os, cE, p21) := fun w => by kernel_rfl
theorem pc21 : ∀ w : World, (fun os => tSeg tTab pw w 11 (some (.ref 6)) 1 54 (S21 w os) (piecesOf [stm 21] env0 cE p21 [topFrame q0])) = fun os => some (.next, S22 w os, cE, p22) := fun w => by kernel_rfl
end SHp
section SHk
noncomputable section
def qv : Program := { pw with main := { pw.main with body := [stm 1, stm 2, stm 3, stm 5, stm 6, stm 7, stm 8, stm 9, stm 10, stm 11, stm 13, stm 14, stm 15, stm 16, stm 18, stm 19, stm 20, stm 21] } }
def looseN : List Str := ["b1_set", "b3_exceptions"]
def KK : Params → Frag := (fun {a3 : Arguments} {b3 : List Stmt} {s3 : Scope} {u3 : Pos} {a6 : Arguments} {b6 : List Stmt} {s6 : Scope} {u6 : Pos} {a7 : Arguments} {b7 : List Stmt} {s7 : Scope} {u7 : Pos} {a8 : Arguments} {b8 : List Stmt} {s8 : Scope} {u8 : Pos} {a9 : Arguments} {b9 : List Stmt} {s9 : Scope} {u9 : Pos} {a10 : Arguments} {b10 : List Stmt} {s10 : Scope} {u10 : Pos} {a11 : Arguments} {b11 : List Stmt} {s11 : Scope} {u11 : Pos} {a14 : Arguments} {b14 : List Stmt} {s14 : Scope} {u14 : Pos} {a16 : Arguments} {b16 : List Stmt} {s16 : Scope} {u16 : Pos} {a18 : Arguments} {b18 : List Stmt} {s18 : Scope} {u18 : Pos} {a19 : Arguments} {b19 : List Stmt} {s19 : Scope} {u19 : Pos} {a20 : Arguments} {b20 : List Stmt} {s20 : Scope} {u20 : Pos} {a21 : Arguments} {b21 : List Stmt} {s21 : Scope} {u21 : Pos} (_ : defOf qv "parse257" = some (⟨"parse257", a3, b3, s3, u3⟩, [])) (_ : defOf qv "_div2n1n" = some (⟨"_div2n1n", a6, b6, s6, u6⟩, [])) (_ : defOf qv "_div3n2n" = some (⟨"_div3n2n", a7, b7, s7, u7⟩, [])) (_ : defOf qv "_int2digits" = some (⟨"_int2digits", a8, b8, s8, u8⟩, [])) (_ : defOf qv "_digits2int" = some (⟨"_digits2int", a9, b9, s9, u9⟩, [])) (_ : defOf qv "_divmod_pos" = some (⟨"_divmod_pos", a10, b10, s10, u10⟩, [])) (_ : defOf qv "int_divmod" = some (⟨"int_divmod", a11, b11, s11, u11⟩, [])) (_ : defOf qv "in_table_b1" = some (⟨"in_table_b1", a14, b14, s14, u14⟩, [])) (_ : defOf qv "map_table_b3" = some (⟨"map_table_b3", a16, b16, s16, u16⟩, [])) (_ : defOf qv "_law_nothing" = some (⟨"_law_nothing", a18, b18, s18, u18⟩, [])) (_ : defOf qv "_law_letters" = some (⟨"_law_letters", a19, b19, s19, u19⟩, [])) (_ : defOf qv "_law_measure" = some (⟨"_law_measure", a20, b20, s20, u20⟩, [])) (_ : defOf qv "law" = some (⟨"law", a21, b21, s21, u21⟩, [])) => fun P => Prod.mk (nat_lit 2) (o2v2 P) ::
  Prod.mk (nat_lit 3) (o3v22 P) ::
  Prod.mk (nat_lit 6) (boot_o_6 P) ::
  Prod.mk (nat_lit 15) (o15v2 P) ::
  Prod.mk (nat_lit 22) (o22v2 P) ::
  Prod.mk (nat_lit 23) (o23v2 P) ::
  Prod.mk (nat_lit 24) (o24v3 P) ::
  Prod.mk (nat_lit 25) (o25v2 P) ::
  Prod.mk (nat_lit 28) (o28v3 P) ::
  Prod.mk (nat_lit 35) (o35v3 P) ::
  Prod.mk (nat_lit 36) (o36v3 P) ::
  Prod.mk (nat_lit 37) (o37v3 P) ::
  Prod.mk (nat_lit 40) (o40v4 P) ::
  Prod.mk (nat_lit 42) (o42v4 P) ::
  Prod.mk (nat_lit 43) (o43v4 P) ::
  Prod.mk (nat_lit 45) (o45v4 P) ::
  Prod.mk (nat_lit 46) (⟨.type "function", none, .func (fnOf "parse257" "parse257" a3 b3 s3 .none .none .none (.str "cpy313.ftplib" 187) none (.ref 45) .none), #[]⟩) ::
  Prod.mk (nat_lit 47) (o47v7 P) ::
  Prod.mk (nat_lit 49) (o49v7 P) ::
  Prod.mk (nat_lit 50) (o50v7 P) ::
  Prod.mk (nat_lit 52) (o52v7 P) ::
  Prod.mk (nat_lit 53) (⟨.type "function", none, .func (fnOf "_div2n1n" "_div2n1n" a6 b6 s6 .none .none .none (.str "cpy313._pylong" 236) none (.ref 52) .none), #[]⟩) ::
  Prod.mk (nat_lit 54) (o54v8 P) ::
  Prod.mk (nat_lit 56) (o56v8 P) ::
  Prod.mk (nat_lit 57) (o57v8 P) ::
  Prod.mk (nat_lit 59) (o59v8 P) ::
  Prod.mk (nat_lit 60) (⟨.type "function", none, .func (fnOf "_div3n2n" "_div3n2n" a7 b7 s7 .none .none .none (.str "cpy313._pylong" 236) none (.ref 59) .none), #[]⟩) ::
  Prod.mk (nat_lit 61) (o61v9 P) ::
  Prod.mk (nat_lit 63) (o63v9 P) ::
  Prod.mk (nat_lit 64) (o64v9 P) ::
  Prod.mk (nat_lit 66) (o66v9 P) ::
  Prod.mk (nat_lit 67) (⟨.type "function", none, .func (fnOf "_int2digits" "_int2digits" a8 b8 s8 .none .none .none (.str "cpy313._pylong" 236) none (.ref 66) .none), #[]⟩) ::
  Prod.mk (nat_lit 68) (o68v10 P) ::
  Prod.mk (nat_lit 70) (o70v10 P) ::
  Prod.mk (nat_lit 71) (o71v10 P) ::
  Prod.mk (nat_lit 73) (o73v10 P) ::
  Prod.mk (nat_lit 74) (⟨.type "function", none, .func (fnOf "_digits2int" "_digits2int" a9 b9 s9 .none .none .none (.str "cpy313._pylong" 236) none (.ref 73) .none), #[]⟩) ::
  Prod.mk (nat_lit 75) (o75v11 P) ::
  Prod.mk (nat_lit 77) (o77v11 P) ::
  Prod.mk (nat_lit 78) (o78v11 P) ::
  Prod.mk (nat_lit 80) (o80v11 P) ::
  Prod.mk (nat_lit 81) (⟨.type "function", none, .func (fnOf "_divmod_pos" "_divmod_pos" a10 b10 s10 .none .none .none (.str "cpy313._pylong" 236) none (.ref 80) .none), #[]⟩) ::
  Prod.mk (nat_lit 82) (o82v12 P) ::
  Prod.mk (nat_lit 84) (o84v12 P) ::
  Prod.mk (nat_lit 85) (o85v12 P) ::
  Prod.mk (nat_lit 87) (o87v12 P) ::
  Prod.mk (nat_lit 88) (⟨.type "function", none, .func (fnOf "int_divmod" "int_divmod" a11 b11 s11 .none .none .none (.str "cpy313._pylong" 236) none (.ref 87) .none), #[]⟩) ::
  Prod.mk (nat_lit 96) (o96v14 P) ::
  Prod.mk (nat_lit 100) (o100v15 P) ::
  Prod.mk (nat_lit 102) (o102v15 P) ::
  Prod.mk (nat_lit 103) (o103v15 P) ::
  Prod.mk (nat_lit 105) (o105v15 P) ::
  Prod.mk (nat_lit 106) (⟨.type "function", none, .func (fnOf "in_table_b1" "in_table_b1" a14 b14 s14 .none .none .none (.str "cpy313.stringprep" 318) none (.ref 105) .none), #[]⟩) ::
  Prod.mk (nat_lit 107) (dobj bigEs 650) ::
  Prod.mk (nat_lit 146) (o146v17 P) ::
  Prod.mk (nat_lit 148) (o148v17 P) ::
  Prod.mk (nat_lit 149) (o149v17 P) ::
  Prod.mk (nat_lit 151) (o151v17 P) ::
  Prod.mk (nat_lit 152) (⟨.type "function", none, .func (fnOf "map_table_b3" "map_table_b3" a16 b16 s16 .none .none .none (.str "cpy313.stringprep" 318) none (.ref 151) .none), #[]⟩) ::
  Prod.mk (nat_lit 153) (o153v19 P) ::
  Prod.mk (nat_lit 155) (o155v19 P) ::
  Prod.mk (nat_lit 156) (o156v19 P) ::
  Prod.mk (nat_lit 158) (o158v19 P) ::
  Prod.mk (nat_lit 159) (⟨.type "function", none, .func (fnOf "_law_nothing" "_law_nothing" a18 b18 s18 .none .none .none (.str "law_ul0026_01" 2346) none (.ref 158) .none), #[]⟩) ::
  Prod.mk (nat_lit 160) (o160v20 P) ::
  Prod.mk (nat_lit 162) (o162v20 P) ::
  Prod.mk (nat_lit 163) (o163v20 P) ::
  Prod.mk (nat_lit 165) (o165v20 P) ::
  Prod.mk (nat_lit 166) (⟨.type "function", none, .func (fnOf "_law_letters" "_law_letters" a19 b19 s19 .none .none .none (.str "law_ul0026_01" 2346) none (.ref 165) .none), #[]⟩) ::
  Prod.mk (nat_lit 167) (o167v21 P) ::
  Prod.mk (nat_lit 169) (o169v21 P) ::
  Prod.mk (nat_lit 170) (o170v21 P) ::
  Prod.mk (nat_lit 172) (o172v21 P) ::
  Prod.mk (nat_lit 173) (⟨.type "function", none, .func (fnOf "_law_measure" "_law_measure" a20 b20 s20 .none .none .none (.str "law_ul0026_01" 2346) none (.ref 172) .none), #[]⟩) ::
  Prod.mk (nat_lit 174) (o174v22 P) ::
  Prod.mk (nat_lit 176) (o176v22 P) ::
  Prod.mk (nat_lit 177) (o177v22 P) ::
  Prod.mk (nat_lit 179) (o179v22 P) ::
  Prod.mk (nat_lit 180) (⟨.type "function", none, .func (fnOf "law" "law" a21 b21 s21 .none .none .none (.str "law_ul0026_01" 2346) none (.ref 179) .none), #[]⟩) :: [])
  (by rfl : defOf qv "parse257" = some (⟨"parse257", _, _, _, _⟩, [])) (by rfl : defOf qv "_div2n1n" = some (⟨"_div2n1n", _, _, _, _⟩, [])) (by rfl : defOf qv "_div3n2n" = some (⟨"_div3n2n", _, _, _, _⟩, [])) (by rfl : defOf qv "_int2digits" = some (⟨"_int2digits", _, _, _, _⟩, [])) (by rfl : defOf qv "_digits2int" = some (⟨"_digits2int", _, _, _, _⟩, [])) (by rfl : defOf qv "_divmod_pos" = some (⟨"_divmod_pos", _, _, _, _⟩, [])) (by rfl : defOf qv "int_divmod" = some (⟨"int_divmod", _, _, _, _⟩, [])) (by rfl : defOf qv "in_table_b1" = some (⟨"in_table_b1", _, _, _, _⟩, [])) (by rfl : defOf qv "map_table_b3" = some (⟨"map_table_b3", _, _, _, _⟩, [])) (by rfl : defOf qv "_law_nothing" = some (⟨"_law_nothing", _, _, _, _⟩, [])) (by rfl : defOf qv "_law_letters" = some (⟨"_law_letters", _, _, _, _⟩, [])) (by rfl : defOf qv "_law_measure" = some (⟨"_law_measure", _, _, _, _⟩, [])) (by rfl : defOf qv "law" = some (⟨"law", _, _, _, _⟩, []))
def KA : List Addr := nat_lit 2 :: nat_lit 3 :: nat_lit 6 :: nat_lit 15 :: nat_lit 22 :: nat_lit 23 :: nat_lit 24 :: nat_lit 25 :: nat_lit 28 :: nat_lit 35 :: nat_lit 36 :: nat_lit 37 :: nat_lit 40 :: nat_lit 42 :: nat_lit 43 :: nat_lit 45 :: nat_lit 46 :: nat_lit 47 :: nat_lit 49 :: nat_lit 50 :: nat_lit 52 :: nat_lit 53 :: nat_lit 54 :: nat_lit 56 :: nat_lit 57 :: nat_lit 59 :: nat_lit 60 :: nat_lit 61 :: nat_lit 63 :: nat_lit 64 :: nat_lit 66 :: nat_lit 67 :: nat_lit 68 :: nat_lit 70 :: nat_lit 71 :: nat_lit 73 :: nat_lit 74 :: nat_lit 75 :: nat_lit 77 :: nat_lit 78 :: nat_lit 80 :: nat_lit 81 :: nat_lit 82 :: nat_lit 84 :: nat_lit 85 :: nat_lit 87 :: nat_lit 88 :: nat_lit 96 :: nat_lit 100 :: nat_lit 102 :: nat_lit 103 :: nat_lit 105 :: nat_lit 106 :: nat_lit 107 :: nat_lit 146 :: nat_lit 148 :: nat_lit 149 :: nat_lit 151 :: nat_lit 152 :: nat_lit 153 :: nat_lit 155 :: nat_lit 156 :: nat_lit 158 :: nat_lit 159 :: nat_lit 160 :: nat_lit 162 :: nat_lit 163 :: nat_lit 165 :: nat_lit 166 :: nat_lit 167 :: nat_lit 169 :: nat_lit 170 :: nat_lit 172 :: nat_lit 173 :: nat_lit 174 :: nat_lit 176 :: nat_lit 177 :: nat_lit 179 :: nat_lit 180 :: []
abbrev F1 := @PySem.W.Fast.tw5160383126252970620
abbrev recsT := @PySem.W.Fast.tw3399658132070893891
abbrev ownsT := @PySem.W.Fast.tw5991557255702980513
abbrev looseT := @PySem.W.Fast.tw821141287760084731
theorem KA_eq : ∀ P, KA = (KK P).map (·.1) := fun P => by kernel_rfl
def HK : Hook := kHook KK KA KA_eq
def H1 (P : Params) : Heap := absHeap (t22 P) 181 {}
def SF (w : World) (os : OsState) : Shared := ⟨H1 w.params, ⟨[]⟩, {}, 2405, os⟩
end
end SHk
section SHw1
noncomputable section
theorem k1 : ∀ w : World, staticsOk (importedModules pw.main.body) (boot_heap w.params) (H1 w.params) = true := fun w => by kernel_rfl
theorem k2 : ∀ w : World, namesBound pw (H1 w.params) = true := fun w => by kernel_rfl
theorem k3 : ∀ w : World, ∀ os, gensDone (SF w os) = true := fun w os => by kernel_rfl
theorem k4 : ∀ w : World, laidKept (boot_heap w.params) (H1 w.params) = true := fun w => by kernel_rfl
end
end SHw1
section SHw2
noncomputable section
theorem s1 : ∀ w : World, ∀ os, F1 ((recsT qv).map (·.name)) (ownsT qv) [] { SF w os with gens := #[] } = expectedOf qv := fun w os => by kernel_rfl
end
end SHw2
section SHw3
noncomputable section
theorem s2 : ∀ w : World, ∀ os, (SF w os).heap.bltView = bltViewBooted := fun w os => by kernel_rfl
theorem s3a : ∀ w : World, ∀ os, PySem.W.Fast.tw10880121769531294198 (SF w os).heap (looseT qv looseN) ((recsT qv).map (·.name)) ((PySem.W.Fast.tw7409074990110511671 qv).map (·.1)) ((PySem.W.Fast.tw13664370479719496447 qv (looseT qv looseN)).map (·.name)) = true := fun w os => by kernel_rfl
theorem s3b : ∀ w : World, ∀ os, PySem.W.Fast.tw14722251495701143533 (SF w os).heap (importedModules pw.main.body) = true := fun w os => by kernel_rfl
theorem s3c : ∀ w : World, ∀ os, ((SF w os).heap.isNs mainGlobals && (SF w os).heap.isNs builtinsNs) = true := fun w os => by kernel_rfl
theorem s3e : ∀ w : World, ∀ os, (xlAt qv [] (SF w os) && recOk [] (SF w os)) = true := fun w os => by kernel_rfl
theorem s4 : ∀ w : World, ∀ os, PySem.W.Fast.tw479339242167458305 qv (SF w os) = true := fun w os => by kernel_rfl
end
end SHw3
section SHw4
noncomputable section
theorem s5 : ∀ w : World, ∀ os, PySem.W.Fast.tw16090120013241838585 qv (PySem.W.Fast.tw3247288618530077131 qv) (SF w os) = pinGoodD (PySem.W.Fast.tw3247288618530077131 qv) := fun w os => by kernel_rfl
theorem s6 : ∀ w : World, ∀ os, PySem.W.Fast.tw2386780881361962483 qv (looseT qv looseN) (SF w os) = plainGoodE qv (looseT qv looseN) := fun w os => by kernel_rfl
theorem s7 : ∀ w : World, ∀ os, PySem.W.Fast.tw11698064438423848299 qv looseN (SF w os) = plainGoodD qv looseN := fun w os => by kernel_rfl
theorem s8 : ∀ w : World, ∀ os, PySem.W.Fast.tw7317090234206586261 qv (SF w os) = wideGood qv := fun w os => by kernel_rfl
theorem s9 : ∀ w : World, ∀ os, PySem.W.Fast.tw7369524293546568484 qv looseN (SF w os) = clsGoodW qv looseN := fun w os => by kernel_rfl
theorem s10 : ∀ w : World, ∀ os, KA.map (SF w os).heap.get? = (KK w.params).map fun p => some p.2 := fun w os => by kernel_rfl
end
end SHw4
section SHw5
noncomputable section
def pairD (x : Int × Str) : PyData × PyData := (.int x.1, .str x.2)
theorem has_no (k : Int) : ∀ l : List (Int × Str), (∀ y ∈ l.map (·.1), k ≠ y) → hasIntKey k (l.map pairD) = false
  | [], _ => rfl
  | x :: r, h => by
    show ((x.1 == k) || hasIntKey k (r.map pairD)) = false
    rw [has_no k r fun y hy => h y (.tail _ hy), beq_eq_false_iff_ne.mpr (fun e => h x.1 (.head _) e.symm)]; rfl
theorem apart_of : ∀ l : List (Int × Str), (l.map (·.1)).Pairwise (· ≠ ·) → keysApartInt (l.map pairD) = true
  | [], _ => rfl
  | x :: r, h => by
    have h := List.pairwise_cons.mp h
    show (!hasIntKey x.1 (r.map pairD) && keysApartInt (r.map pairD)) = true
    rw [has_no x.1 r h.1, apart_of r h.2]; rfl
theorem ents_are : entriesAreInt bigEs (PS.map pairD) = true := by kernel_rfl
theorem tab_names : valNames qv = (["_DIV_LIMIT", "b1_set", "b3_exceptions"] : List Str) := by kernel_rfl
theorem tab_b3 : tabIntOf qv "b3_exceptions" = some (PS.map pairD) := by kernel_rfl
theorem tab_none : ((["_DIV_LIMIT", "b1_set", "b3_exceptions"] : List Str).all fun x => (tupIntsOf qv x).isNone && (tupStrsOf qv x).isNone && (x == "b3_exceptions" || (tabIntOf qv x).isNone)) = true := by kernel_rfl
theorem ns_b3 : ∀ w : World, ∀ os, (SF w os).heap.nsMap mainGlobals "b3_exceptions" = some (.ref 107) := fun w os => by kernel_rfl
theorem at_107 : ∀ w : World, ∀ os, (SF w os).heap.get? 107 = some (dobj bigEs 650) := fun w os => by kernel_rfl
theorem tabOk_of {h : Heap} {x : Str} {a n : Nat} {D : List (PyData × PyData)} {es : List DictEntry} (h1 : h.nsMap mainGlobals x = some (.ref a)) (h2 : h.get? a = some (dobj es n)) (h3 : entriesAreInt es D = true) (h4 : keysApartInt D = true) (h5 : (a != sysModules) = true) : h.tabIntOk x D = true := by
  unfold Heap.tabIntOk
  rw [h1]
  dsimp only
  rw [h2]
  show (true && true && entriesAreInt es D && keysApartInt D && (a != sysModules)) = true
  rw [h3, h4, h5]; rfl
theorem b3_ok (w : World) (os : OsState) : (SF w os).heap.tabIntOk "b3_exceptions" (PS.map pairD) = true :=
  tabOk_of (ns_b3 w os) (at_107 w os) ents_are (apart_of PS tabK_pw) (by decide)
theorem s3d (w : World) (os : OsState) : tablesOk qv (SF w os).heap = true := by
  unfold tablesOk
  rw [tab_names]
  have h := List.all_eq_true.mp tab_none
  refine List.all_eq_true.mpr fun x hx => ?_
  have hh := h x hx
  simp only [Bool.and_eq_true, Bool.or_eq_true, Option.isNone_iff_eq_none, beq_iff_eq] at hh
  obtain ⟨⟨h1, h2⟩, h3⟩ := hh
  rw [h1, h2]
  dsimp only
  rcases h3 with h3 | h3
  · rw [h3, tab_b3]
    dsimp only
    rw [b3_ok]
    rfl
  · rw [h3]; rfl
end
end SHw5
section SHr
noncomputable section
abbrev tGo := @PySem.W.Fast.tw15667345088766844465
abbrev tDen := @PySem.W.Fast.tw11892475500146522536
theorem go_pre : ∀ w : World, (fun os => tGo tTab pw w 11 (some (.ref 6)) 12 ⟨boot_heap w.params, Array.mk [], boot_drawn, boot_toks, os⟩ (topStub pw)) = fun os => some ((S0 w os).abs, ⟨tDen tTab cE, cE, p0, [topFrame q0]⟩) := fun w => by kernel_rfl
theorem go_block : ∀ w : World, (fun os => tSegS tTab pw w 11 (some (.ref 6)) 1 1 (S0 w os).abs (blockOf (behindTheImports pw) env0 cE p0 [topFrame q0])) = fun os => some (.next, (S0 w os).abs, cE, p0) := fun w => by kernel_rfl
theorem go_fin : ∀ w : World, (fun os => PySem.W.Fast.tw14082659384304107361 tTab pw w 11 (some (.ref 6)) 2 (S22 w os).abs ⟨doneF .next, cE, p22, [topFrame q0]⟩) = fun os => some (SF w os) := fun w => by kernel_rfl
theorem body_eq : behindTheImports pw = [stm 0] ++ ([stm 1] ++ ([stm 2] ++ ([stm 3] ++ ([stm 4] ++ ([stm 5] ++ ([stm 6] ++ ([stm 7] ++ ([stm 8] ++ ([stm 9] ++ ([stm 10] ++ ([stm 11] ++ ([stm 12] ++ ([stm 13] ++ ([stm 14] ++ (stm 15 :: ([stm 16] ++ ([stm 17] ++ ([stm 18] ++ ([stm 19] ++ ([stm 20] ++ ([stm 21] ++ []))))))))))))))))))))) := by kernel_rfl
theorem tab_same : @tTab = @treeTable := PySem.W.Fast.te14364793385576792824.symm
theorem go_same : @tGo = @topGo := PySem.W.Fast.te15667345088766844465.symm
theorem den_same : @tDen = @denote := PySem.W.Fast.te11892475500146522536.symm
theorem run_same : @PySem.W.Fast.tw14082659384304107361 = @topRun := PySem.W.Fast.te14082659384304107361.symm
theorem seg_of {n : Nat} {w : World} {S S' : World → OsState → SharedT} {t : Thread} {f : Flow} {c : Code} {q : Pos}
    (h : (fun os => tSeg tTab pw w 11 (some (.ref 6)) 1 n (S w os) t) = fun os => some (f, S' w os, c, q)) (os : OsState) :
    segRun treeTable pw w 11 (some (.ref 6)) 1 n (S w os).abs t = some (f, (S' w os).abs, c, q) := by
  have := congrFun h os
  rw [segT_same] at this
  exact segRun_of this
theorem goes_stmt {w : World} {k : Nat} {s s' : Shared} {st : Stmt} {rest : List Stmt} {p p' : Pos} {N : Nat} {r : Shared} (h : Goes w (exec st env0) k s p .next s' p')
    (hr : topRun treeTable pw w 11 (some (.ref 6)) N s' (restOf rest env0 cE p' [topFrame q0]) = some r) : topRun treeTable pw w 11 (some (.ref 6)) (k + N) s (restOf (st :: rest) env0 cE p [topFrame q0]) = some r := by
  unfold restOf
  rw [execs_cons_wrap]
  exact h _ _ _ _ _ hr
theorem run_all (w : World) (os : OsState) : topRun treeTable pw w 11 (some (.ref 6)) 60000 ⟨boot_heap w.params, Array.mk [], boot_drawn, boot_toks, os⟩ (topStub pw) = some (SF w os) := by
  have z : topRun treeTable pw w 11 (some (.ref 6)) 2 (S22 w os).abs ⟨doneF .next, cE, p22, [topFrame q0]⟩ = some (SF w os) := by
    have := congrFun (go_fin w) os
    rw [run_same, tab_same] at this
    exact this
  have z := piece_nil (env := env0) z
  have z := piece_app (seg_of (S := S21) (S' := S22) (pc21 w) os) z
  have z := piece_app (seg_of (S := S20) (S' := S21) (pc20 w) os) z
  have z := piece_app (seg_of (S := S19) (S' := S20) (pc19 w) os) z
  have z := piece_app (seg_of (S := S18) (S' := S19) (pc18 w) os) z
  have z := piece_app (seg_of (S := S17) (S' := S18) (pc17 w) os) z
  have z := piece_app (seg_of (S := S16) (S' := S17) (pc16 w) os) z
  have z := goes_stmt (pc15 w os) z
  have z := piece_app (seg_of (S := S14) (S' := S15) (pc14 w) os) z
  have z := piece_app (seg_of (S := S13) (S' := S14) (pc13 w) os) z
  have z := piece_app (seg_of (S := S12) (S' := S13) (pc12 w) os) z
  have z := piece_app (seg_of (S := S11) (S' := S12) (pc11 w) os) z
  have z := piece_app (seg_of (S := S10) (S' := S11) (pc10 w) os) z
  have z := piece_app (seg_of (S := S9) (S' := S10) (pc9 w) os) z
  have z := piece_app (seg_of (S := S8) (S' := S9) (pc8 w) os) z
  have z := piece_app (seg_of (S := S7) (S' := S8) (pc7 w) os) z
  have z := piece_app (seg_of (S := S6) (S' := S7) (pc6 w) os) z
  have z := piece_app (seg_of (S := S5) (S' := S6) (pc5 w) os) z
  have z := piece_app (seg_of (S := S4) (S' := S5) (pc4 w) os) z
  have z := piece_app (seg_of (S := S3) (S' := S4) (pc3 w) os) z
  have z := piece_app (seg_of (S := S2) (S' := S3) (pc2 w) os) z
  have z := piece_app (seg_of (S := S1) (S' := S2) (pc1 w) os) z
  have z := piece_app (seg_of (S := S0) (S' := S1) (pc0 w) os) z
  rw [← body_eq] at z
  have b : segRun treeTable pw w 11 (some (.ref 6)) 1 1 (S0 w os).abs (blockOf (behindTheImports pw) env0 cE p0 [topFrame q0]) = some (.next, (S0 w os).abs, cE, p0) := by
    have := congrFun (go_block w) os
    rw [seg_same] at this
    exact this
  have z := piece_block b z
  have g : topGo treeTable pw w 11 (some (.ref 6)) 12 ⟨boot_heap w.params, Array.mk [], boot_drawn, boot_toks, os⟩ (topStub pw) = some ((S0 w os).abs, ⟨denote treeTable cE, cE, p0, [topFrame q0]⟩) := by
    have := congrFun (go_pre w) os
    rw [go_same, den_same, tab_same] at this
    exact this
  have z := go_top g z
  have := topRun_mono (60000 - 53935) _ _ _ _ z
  exact this
theorem size_ok' : ∀ w : World, ((boot_heap w.params).isNs mainGlobals && (Array.mk ([] : List GenState)).size == 0, (boot_heap w.params).objs.size, (boot_heap w.params).nsMap mainGlobals "__annotations__") = (true, 11, some (.ref 6)) := fun w => by kernel_rfl
end
end SHr
section SHx
noncomputable section
theorem open_eq : opening pw = plainProg pw.main.scope.names := by kernel_rfl
theorem fence_eq : ∀ s : Shared, fenceModules? pw s = some s := fun s => by kernel_rfl
theorem recs_same : @recsT = @recsOf := PySem.W.Fast.te3399658132070893891.symm
theorem owns_same : @ownsT = @ownsOf := PySem.W.Fast.te5991557255702980513.symm
theorem loose_same : @looseT = @looseW := PySem.W.Fast.te821141287760084731.symm
theorem seen_same : @F1 = @seen := PySem.W.Fast.te5160383126252970620.symm
theorem left : LeftO pw qv looseN (fun s => xlAt qv [] s && recOk [] s) HK.obs HK.val 60000 :=
  LeftO.of_pieces (H₀ := boot_heap) (H₁ := H1) (gs₀ := Array.mk []) (gs₁ := ⟨[]⟩) (d₀ := boot_drawn) (d₁ := {}) (k₀ := boot_toks) (k₁ := 2405) (m₀ := 11) (ann := some (.ref 6)) (M := 60000)
    (boot_open open_eq (by decide) fence_eq) size_ok' run_all (by decide) (fun w => funext fun os => by
      have a : (staticsOk (importedModules pw.main.body) (boot_heap w.params) (H1 w.params) && namesBound pw (H1 w.params) && gensDone (SF w os) && laidKept (boot_heap w.params) (H1 w.params)) = true := by rw [k1, k2, k3, k4]; rfl
      have b1 := s1 w os
      rw [seen_same, recs_same, owns_same] at b1
      have b3a := s3a w os
      rw [loose_same, recs_same, ← PySem.W.Fast.te10880121769531294198, ← PySem.W.Fast.te7409074990110511671, ← PySem.W.Fast.te13664370479719496447] at b3a
      have b3b := s3b w os
      rw [← PySem.W.Fast.te14722251495701143533] at b3b
      have b3d := s3d w os
      have b4 := s4 w os
      rw [← PySem.W.Fast.te479339242167458305] at b4
      have b5 := s5 w os
      rw [← PySem.W.Fast.te16090120013241838585, ← PySem.W.Fast.te3247288618530077131] at b5
      have b6 := s6 w os
      rw [← PySem.W.Fast.te2386780881361962483, loose_same] at b6
      have b7 := s7 w os
      rw [← PySem.W.Fast.te11698064438423848299] at b7
      have b8 := s8 w os
      rw [← PySem.W.Fast.te7317090234206586261] at b8
      have b9 := s9 w os
      rw [← PySem.W.Fast.te7369524293546568484] at b9
      have b3 : ((SF w os).heap.keysOk (looseW qv looseN) ((recsOf qv).map (·.name)) ((litsOf qv).map (·.1)) ((clssOf qv (looseW qv looseN)).map (·.name)) && (SF w os).heap.accountedOkI (importedModules pw.main.body) && (SF w os).heap.isNs mainGlobals && (SF w os).heap.isNs builtinsNs && tablesOk qv (SF w os).heap && (xlAt qv [] (SF w os) && recOk [] (SF w os)) && (SF w os).gens.size == 0) = true := by
        have c := Bool.and_eq_true_iff.mp (s3c w os)
        rw [b3a, b3b, c.1, c.2, b3d, s3e]; rfl
      have b : openSeen qv looseN (importedModules pw.main.body) (fun s => xlAt qv [] s && recOk [] s) true (SF w os) = openGood qv looseN := by
        unfold openSeen openGood
        rw [b1, s2 w os, b4, b5, b6, b7, b8, b9, if_pos rfl]
        exact congrArg (fun b => (expectedOf qv, bltViewBooted, b, true, pinGoodD (drecsOf qv), plainGoodE qv (looseW qv looseN), plainGoodD qv looseN, wideGood qv, clsGoodW qv looseN)) b3
      have c : HK.obs (SF w os) = HK.val w := s10 w os
      show (_, _, _) = _
      rw [show (⟨H1 w.params, ⟨[]⟩, {}, 2405, os⟩ : Shared) = SF w os from by kernel_rfl, a, b, c])
end
end SHx
section SCb
def LO : List Str := ["b1_set", "b3_exceptions", "parse257", "_div2n1n", "_div3n2n", "_int2digits", "_digits2int", "_divmod_pos", "int_divmod", "in_table_b1", "map_table_b3", "_law_nothing", "_law_letters", "_law_measure", "law", "_DIV_LIMIT", "Error", "error_reply"]
theorem lo_eq : (looseW qv looseN ++ (recsOf qv).map (·.name) ++ (litsOf qv).map (·.1) ++ (clssOf qv (looseW qv looseN)).map (·.name)) = LO := by decide +kernel
/-- a contract of a def of the text, in the library's own shape -/
abbrev CK (w : World) (mean : ExcName → Option Value) (mg mb : Str → Option Value) (f : Addr) (pre : Prop) (vs : List Value) (R : Tok → Value) : Prop :=
  ∀ news, CbClaim PySem.Challenge.rw_ul0026_01.row.prog w (KK w.params) topProg LO mean mg mb f news [] pre vs R
def quotes (n : Nat) : Str := ⟨(List.replicate n 34).toArray⟩
def sign (c : Nat) : Str := ⟨#[c]⟩
def reply (n c : Nat) : Str := Str.ofString "257 \"" ++ quotes n ++ sign c
theorem reply_list (n c : Nat) : (reply n c).cps.toList = [50, 53, 55, 32, 34] ++ (List.replicate n 34 ++ [c]) := by
  show ((Str.ofString "257 \"").cps ++ (quotes n).cps ++ (sign c).cps).toList = _
  rw [show (Str.ofString "257 \"").cps = #[50, 53, 55, 32, 34] by decide +kernel]
  simp [quotes, sign]
theorem reply_len (n c : Nat) : (reply n c).length = n + 6 := by
  show (reply n c).cps.size = _
  rw [← Array.length_toList, reply_list]; simp
theorem quotes_len (n : Nat) : (quotes n).length = n := by show (List.replicate n 34).toArray.size = n; simp
theorem sign_len (c : Nat) : (sign c).length = 1 := rfl
theorem one_len (x : Nat) : Str.length ⟨#[x]⟩ = 1 := rfl
theorem szl {n : Nat} (h : n ≤ 1000000) : n ≤ sizeLine := Nat.le_trans h (by decide)

/-- a contract whose answer is told by a word -/
abbrev CR (w : World) (mean : ExcName → Option Value) (mg mb : Str → Option Value) (f : Addr) (vs : List Value) (R : Value → Prop) : Prop :=
  ∀ (news : List (Addr × Obj)) (dp un : Nat) (gd : Option (List Code)) (cn : Str) (cs : Scope) (a : Addr) (ccd : Value) (cl : List (Str × Addr)) (outer : List Env) (A₀ : Around) (base h₀ : Heap) (L : Addr) (m : Str → Option Value) (s : Shared) (Q E : Value → Shared → Prop),
    Below A₀ base outer h₀ → Fr h₀ L s.heap m → (KK w.params).In h₀ → News h₀ L s.heap news → Top topProg LO mean mg mb h₀ → cs.kind = .function → dp + 40 < recursionLimit → un + 400 < cLine →
    (∀ (v : Value) (h' : Heap) (tk' : Nat), R v → Fr h₀ L h' m → News h₀ L h' news → Q v { s with heap := h', toks := tk' }) →
    wpAny (model PySem.Challenge.rw_ul0026_01.row.prog w) (ktrTop dp un gd cn cs L a ccd cl outer) (call (.ref f) vs) Q E s
theorem CK.toCR {w : World} {mean : ExcName → Option Value} {mg mb : Str → Option Value} {f : Addr} {vs : List Value} {V : Tok → Value} {R : Value → Prop} (h : CK w mean mg mb f True vs V) (hV : ∀ t, R (V t)) : CR w mean mg mb f vs R :=
  fun news dp un gd cn cs a ccd cl outer A₀ base h₀ L m s Q E h1 h2 h3 h4 h5 h6 h7 h8 h9 => h news dp un gd cn cs a ccd cl outer A₀ base h₀ L m s Q E h1 h2 h3 h4 h5 h6 trivial (by omega) (by omega) fun t h' tk' F N => h9 _ _ _ (hV t) F N
def isLet (x : Nat) : Prop := x = 223 ∨ x = 115 ∨ x = 83 ∨ x = 383 ∨ x = 119826
end SCb
section ST0
theorem and_low (x s : Nat) : x &&& (x / 2 ^ s * 2 ^ s) = x / 2 ^ s * 2 ^ s := by
  apply Nat.eq_of_testBit_eq
  intro i
  rw [Nat.testBit_and]
  by_cases h : s ≤ i
  · rw [show x / 2 ^ s * 2 ^ s = 2 ^ s * (x / 2 ^ s) by rw [Nat.mul_comm], Nat.testBit_two_pow_mul, Nat.testBit_div_two_pow]
    simp [h]
  · rw [show x / 2 ^ s * 2 ^ s = 2 ^ s * (x / 2 ^ s) by rw [Nat.mul_comm], Nat.testBit_two_pow_mul]
    simp [h]
theorem xor_low (x s : Nat) : Builtin.bitXor (x : Int) ((x / 2 ^ s * 2 ^ s : Nat) : Int) = ((x % 2 ^ s : Nat) : Int) := by
  rw [PyProof.Rows.bitXor_and]
  have e : Builtin.bitAnd (x : Int) ((x / 2 ^ s * 2 ^ s : Nat) : Int) = ((x / 2 ^ s * 2 ^ s : Nat) : Int) := by
    unfold Builtin.bitAnd
    rw [decide_eq_true (Int.natCast_nonneg x), decide_eq_true (Int.natCast_nonneg _)]
    show ((((x : Int).toNat &&& ((x / 2 ^ s * 2 ^ s : Nat) : Int).toNat : Nat)) : Int) = _
    rw [Int.toNat_natCast, Int.toNat_natCast, and_low]
  rw [e]
  have h := Nat.div_add_mod x (2 ^ s)
  have h2 : x / 2 ^ s * 2 ^ s = 2 ^ s * (x / 2 ^ s) := Nat.mul_comm _ _
  omega
section
variable {prog : Program} {w : World} {A : Around} {E : Value → Shared → Prop} {s : Shared} {a b v : Int} {t u : Tok} {Q : Value → Shared → Prop}
theorem add_to (e : a + b = v) (h : Q (.int v s.toks) { s with toks := s.toks + 1 }) : wpAny (model prog w) A (binaryOp .Add (.int a t) (.int b u)) Q E s := by subst e; exact add_int h
theorem sub_to (e : a - b = v) (h : Q (.int v s.toks) { s with toks := s.toks + 1 }) : wpAny (model prog w) A (binaryOp .Sub (.int a t) (.int b u)) Q E s := by subst e; exact PyProof.Rows.sub_int h
theorem mul_to (e : a * b = v) (ha : Builtin.Int.intBits a ≤ 10000) (hb : Builtin.Int.intBits b ≤ 10000) (h : Q (.int v s.toks) { s with toks := s.toks + 1 }) : wpAny (model prog w) A (binaryOp .Mult (.int a t) (.int b u)) Q E s := by subst e; exact PyProof.Rows.mul_int h (IntMulOk.of_le ha hb (by decide))
theorem rsh_to (hn : 0 ≤ b) (e : a.fdiv (2 ^ b.toNat) = v) (h : Q (.int v s.toks) { s with toks := s.toks + 1 }) : wpAny (model prog w) A (binaryOp .RShift (.int a t) (.int b u)) Q E s := by subst e; exact PyProof.Rows.rshift_int hn h
theorem lsh_to (hn : 0 ≤ b) (hb : b ≤ 10000) (ha : Builtin.Int.intBits a ≤ 10000) (e : a * 2 ^ b.toNat = v) (h : Q (.int v s.toks) { s with toks := s.toks + 1 }) : wpAny (model prog w) A (binaryOp .LShift (.int a t) (.int b u)) Q E s := by subst e; exact PyProof.Rows.lshift_int hn (by omega) h
theorem xor_to (e : Builtin.bitXor a b = v) (h : Q (.int v s.toks) { s with toks := s.toks + 1 }) : wpAny (model prog w) A (binaryOp .BitXor (.int a t) (.int b u)) Q E s := by subst e; exact PyProof.Rows.xor_int h
theorem fdv_to (hb : b ≠ 0) (hp : b.natAbs.log2 < 9000) (e : a.fdiv b = v) (h : Q (.int v s.toks) { s with toks := s.toks + 1 }) : wpAny (model prog w) A (binaryOp .FloorDiv (.int a t) (.int b u)) Q E s := by subst e; exact floordiv_int hb h (Or.inl (PyProof.noPylong_of_log2 hp))
end
theorem bits_nat {x m : Nat} (h : x < 2 ^ m) : Builtin.Int.intBits (x : Int) ≤ m := PySem.intBits_le_iff.mpr (by simpa using h)
theorem shr_nat (x s : Nat) : (x : Int).fdiv (2 ^ ((s : Nat) : Int).toNat) = ((x / 2 ^ s : Nat) : Int) := by
  rw [Int.toNat_natCast, show ((2 : Int) ^ s) = ((2 ^ s : Nat) : Int) by simp]
  rw [Int.fdiv_eq_ediv_of_nonneg _ (Int.natCast_nonneg _)]; rfl
theorem shl_nat (x s : Nat) : (x : Int) * 2 ^ ((s : Nat) : Int).toNat = ((x * 2 ^ s : Nat) : Int) := by
  rw [Int.toNat_natCast]; simp

/-- a def's table of codes: empty, or with the one code of its inner def -/
def TabOk (P : Nat) (q : Str) (l c : Int) (t : List (Addr × Obj)) : Prop := t = [(P, tabObj #[])] ∨ ∃ (c' : Nat) (oc : Obj) (vs : Array Value) (tk : Tok), t = [(P, tabObj #[rawInt l, rawInt c, .ref c']), (c', oc)] ∧ 69 < c' ∧ oc.data = .fields vs ∧ vs[1]? = some (.str q tk)
theorem all_ne {X d : Nat} {l : List (Addr × Obj)} (h : ∀ p ∈ l, p.1 < X) (hle : X ≤ d) : ∀ p ∈ l, p.1 ≠ d := fun p hp => Nat.ne_of_lt (Nat.lt_of_lt_of_le (h p hp) hle)
theorem tail_lt {X : Nat} {a : Addr × Obj} {l : List (Addr × Obj)} (h : ∀ p ∈ a :: l, p.1 < X) : ∀ p ∈ l, p.1 < X := fun p hp => h p (.tail _ hp)
def innerOf (f : String) : Option (Arguments × List Stmt × Scope) := match defOf qv f with
  | some (r, _) => r.body.findSome? fun x => match x with
    | .FunctionDef _ a b _ _ _ sc _ _ _ => some (a, b, sc)
    | _ => none
  | none => none

theorem news_skip4 {h₀ h : Heap} {L : Addr} {p1 p2 p3 p4 p5 p6 p7 : Addr × Obj} {r : List (Addr × Obj)} (N : News h₀ L h (p1 :: p2 :: p3 :: p4 :: p5 :: p6 :: p7 :: r)) : News h₀ L h (p1 :: p2 :: p3 :: p5 :: p6 :: p7 :: r) := cb_drop N fun p hp => by
  simp only [List.mem_cons] at hp ⊢
  rcases hp with h | h | h | h | h | h | h <;> simp [h]
theorem rep_len (D : Nat) (l : List Int) : (List.replicate ((D : Nat) : Int).toNat [0]).flatten = l → l.length = D := by
  intro h; subst h; simp

theorem all_lt {X d : Nat} {l : List (Addr × Obj)} (h : ∀ p ∈ l, p.1 < X) (hle : X ≤ d) : ∀ p ∈ l, @LT.lt Nat _ p.1 d := fun p hp => Nat.lt_of_lt_of_le (h p hp) hle
theorem all_lt1 {X d a : Nat} {o : Obj} {l : List (Addr × Obj)} (h : ∀ p ∈ l, p.1 < X) (ha : a < d) (hle : X ≤ d) : ∀ p ∈ (a, o) :: l, @LT.lt Nat _ p.1 d := List.forall_mem_cons.mpr ⟨ha, all_lt h hle⟩
theorem all_lt2 {X d a b : Nat} {o o2 : Obj} {l : List (Addr × Obj)} (h : ∀ p ∈ l, p.1 < X) (ha : a < d) (hb : b < d) (hle : X ≤ d) : ∀ p ∈ (a, o) :: (b, o2) :: l, @LT.lt Nat _ p.1 d := List.forall_mem_cons.mpr ⟨ha, all_lt1 h hb hle⟩

theorem news_perm8 {h₀ h : Heap} {L : Addr} {p1 p2 p3 p4 p5 p6 p7 p8 : Addr × Obj} {r : List (Addr × Obj)} (N : News h₀ L h (p1 :: p3 :: p4 :: p5 :: p6 :: p7 :: p8 :: p2 :: r)) : News h₀ L h (p1 :: p2 :: p3 :: p5 :: p6 :: p7 :: p8 :: r) := cb_drop N fun p hp => by
  simp only [List.mem_cons] at hp ⊢
  rcases hp with h | h | h | h | h | h | h | h <;> simp [h]

theorem log_small {n : Nat} (h : n < 2 ^ 20) : ((n : Nat) : Int).natAbs.log2 < 9000 := by
  rw [Int.natAbs_natCast]
  rcases Nat.eq_zero_or_pos n with h0 | h0
  · subst h0; decide
  · exact Nat.lt_trans ((Nat.log2_lt (by omega)).mpr h) (by decide)

theorem news_swap67 {h₀ h : Heap} {L : Addr} {p1 p2 p3 p4 p5 p6 p7 : Addr × Obj} {r : List (Addr × Obj)} (N : News h₀ L h (p1 :: p2 :: p3 :: p4 :: p5 :: p6 :: p7 :: r)) : News h₀ L h (p1 :: p2 :: p3 :: p4 :: p5 :: p7 :: p6 :: r) := cb_drop N fun p hp => by
  simp only [List.mem_cons] at hp ⊢
  rcases hp with h | h | h | h | h | h | h | h <;> simp [h]
theorem news_perm69 {h₀ h : Heap} {L : Addr} {p1 p2 p3 p4 p5 p6 p7 : Addr × Obj} {r : List (Addr × Obj)} (N : News h₀ L h (p1 :: p3 :: p4 :: p5 :: p6 :: p2 :: p7 :: r)) : News h₀ L h (p1 :: p2 :: p3 :: p4 :: p5 :: p7 :: p6 :: r) := cb_drop N fun p hp => by
  simp only [List.mem_cons] at hp ⊢
  rcases hp with h | h | h | h | h | h | h | h <;> simp [h]

theorem big_L {P : Params} {h₀ h : Heap} {L : Nat} {m : Str → Option Value} (X : (KK P).In h₀) (F : Fr h₀ L h m) : 88 < L := by
  obtain ⟨o, e⟩ : ∃ o, (KK P).lookup 88 = some o := ⟨_, rfl⟩
  exact Nat.lt_of_lt_of_le (Heap.lt_size (X _ _ e)) F.above

theorem log_pow {n k : Nat} (h : n < 2 ^ k) (hk : k < 9000) : ((n : Nat) : Int).natAbs.log2 < 9000 := by
  rw [Int.natAbs_natCast]
  rcases Nat.eq_zero_or_pos n with h0 | h0
  · subst h0; decide
  · exact Nat.lt_trans ((Nat.log2_lt (by omega)).mpr h) hk

theorem fdiv_nat (x b : Nat) : (x : Int).fdiv (b : Int) = ((x / b : Nat) : Int) := by rw [Int.fdiv_eq_ediv_of_nonneg _ (Int.natCast_nonneg _)]; rfl
theorem fmod_nat (x b : Nat) : (x : Int).fmod (b : Int) = ((x % b : Nat) : Int) := by rw [Int.fmod_eq_emod_of_nonneg _ (Int.natCast_nonneg _)]; rfl
theorem news_lt {h₀ h : Heap} {L : Addr} {news : List (Addr × Obj)} (N : News h₀ L h news) : ∀ p ∈ news, @LT.lt Nat _ p.1 h.objs.size := fun p hp => Heap.lt_size (N p hp).1

theorem tab_ne {P : Nat} {q : Str} {l c : Int} {t : List (Addr × Obj)} (h : TabOk P q l c t) {X : Nat} (hX : X ≠ P) (hX2 : X ≤ 69) : ∀ p ∈ t, p.1 ≠ X := by
  rcases h with rfl | ⟨c', oc, vs, tk, rfl, h1, _⟩ <;> intro p hp
  · rw [List.mem_singleton.mp hp]; exact fun e => hX e.symm
  · rcases List.mem_cons.mp hp with rfl | hp
    · exact fun e => hX e.symm
    · rw [List.mem_singleton.mp hp]; exact fun e => absurd hX2 (by rw [← e]; exact Nat.not_le.mpr h1)
theorem app_ne {X : Nat} {l l2 : List (Addr × Obj)} (h : ∀ p ∈ l, p.1 ≠ X) (h2 : ∀ p ∈ l2, p.1 ≠ X) : ∀ p ∈ l ++ l2, p.1 ≠ X := fun p hp => (List.mem_append.mp hp).elim (h p) (h2 p)
abbrev q62 : Str := "_int2digits.<locals>.inner"
abbrev q69 : Str := "_digits2int.<locals>.inner"

theorem offI_of {I : Addr} {it : Obj} : ∀ {l : List (Addr × Obj)}, (∀ p ∈ l, p.1 ≠ I) → OffI I it l
  | [], _ => trivial
  | _ :: _, h => ⟨.inl (h _ (.head _)), offI_of fun p hp => h p (.tail _ hp)⟩
section
variable {prog : Program} {w : World} {A : Around} {E : Value → Shared → Prop} {s : Shared} {env : Env} {h₀ : Heap} {x : Str} {body : List Stmt} {Q : Flow → Shared → Prop}
/-- a loop over a list from its end: the state is told by a word -/
theorem krev_state {σ : Type} {ax I : Addr} {vs : List Value} {ns : List Int} {n : Nat} {m₀ : Str → Option Value} (Led : σ → List (Addr × Obj)) (ps : σ → List (Str × Value)) (Facts : σ → Prop) (stored : List Str) (P : List Int → σ → Prop) (c₀ : σ)
    (hh : A.handled = none) (F : Fr h₀ env.locals s.heap m₀) (N : News h₀ env.locals s.heap ((I, revObj ax ((vs.length : Int) - 1)) :: Led c₀)) (hof : ∀ p ∈ Led c₀, p.1 ≠ I) (hm : ∀ c, (ax, listOf vs.toArray n) ∈ Led c) (hi : IntsAre vs.reverse ns) (hf : Facts c₀) (hk : ∀ p ∈ ps c₀, m₀ p.1 = some p.2) (hp : P [] c₀)
    (turn : ∀ (c : σ) (pre post : List Int) (e : Int) t (u : Str → Option Value) (it : Obj) h tk, ns = pre ++ e :: post → Facts c → P pre c →
      Fr h₀ env.locals h (fun y => if y = x then some (.int e t) else kstB (fun z => if stored.contains z then u z else m₀ z) (ps c) y) → News h₀ env.locals h ((I, it) :: Led c) →
      wpAny (model prog w) A (execs body env) (UnrPost h₀ env.locals { s with heap := h, toks := tk } I it (fun m' n' => ∃ c', n' = Led c' ∧ Facts c' ∧ (∀ p ∈ ps c', m' p.1 = some p.2) ∧ (∀ z, z ≠ x → (∀ p ∈ ps c', z ≠ p.1) → stored.contains z = false → m' z = m₀ z) ∧ P (pre ++ [e]) c') Q) E { s with heap := h, toks := tk })
    (done : ∀ (c : σ) (u : Str → Option Value) h tk, Facts c → P ns c → Fr h₀ env.locals h (fun y => if y = x then u y else kstB (fun z => if stored.contains z then u z else m₀ z) (ps c) y) → News h₀ env.locals h (Led c) → Q .next { s with heap := h, toks := tk }) :
    wpAny (model prog w) A (pyIter (.ref I)) (fun it s₂ => LoopAtV prog w A h₀ env x body Q E it s₂) E s := by
  have key : ∀ (r : List Value) (post pre : List Int) (c : σ) (m₁ : Str → Option Value), IntsAre r post → ns = pre ++ post → Facts c → P pre c → (∀ p ∈ ps c, m₁ p.1 = some p.2) → (∀ z, z ≠ x → (∀ p ∈ ps c, z ≠ p.1) → stored.contains z = false → m₁ z = m₀ z) →
      RevRest prog w A E h₀ env x body Q s I (ax, listOf vs.toArray n) r m₁ (Led c) := by
    intro r
    induction r with
    | nil =>
      intro post pre c m₁ hr hns hf hp h1 h2
      cases hr
      rw [List.append_nil] at hns
      subst hns
      exact fun h tk F' N' => done c m₁ h tk hf hp (kst_frOut h1 h2 F') N'
    | cons v r ih =>
      intro post pre c m₁ hr hns hf hp h1 h2
      cases hr with
      | cons e t hr' =>
      intro it h tk _ F' N'
      refine wpAny_mono (turn c pre _ e t m₁ it h tk hns hf hp (kst_fr h1 h2 F') N') (fun f s₂ q => ?_) fun _ _ e => e
      have up : UnrEnd h₀ env.locals { s with heap := h, toks := tk } I it (fun m' n' => ∃ c', n' = Led c' ∧ Facts c' ∧ (∀ p ∈ ps c', m' p.1 = some p.2) ∧ (∀ z, z ≠ x → (∀ p ∈ ps c', z ≠ p.1) → stored.contains z = false → m' z = m₀ z) ∧ P (pre ++ [e]) c') s₂ →
          UnrEnd h₀ env.locals { s with heap := h, toks := tk } I it (fun m' n' => (ax, listOf vs.toArray n) ∈ n' ∧ RevRest prog w A E h₀ env x body Q s I (ax, listOf vs.toArray n) r m' n') s₂ := by
        rintro ⟨h', tk', m', n', e1, F2, N2, ho, c', rfl, f1, f2, f3, f4⟩
        exact ⟨h', tk', m', _, e1, F2, N2, ho, hm c', ih _ (pre ++ [e]) c' m' hr' (by rw [hns, List.append_assoc]; rfl) f1 f4 f2 f3⟩
      cases f with
      | ret v => exact q
      | brk => exact q
      | next => exact up q
      | cont => exact up q
  exact iter_revUnr hh F N (offI_of hof) (hm c₀) rfl rfl (key vs.reverse ns [] c₀ m₀ hi rfl hf hp hk fun _ _ _ _ => rfl)
end

theorem tab_mem {P : Nat} {q : Str} {l c : Int} {t : List (Addr × Obj)} (h : TabOk P q l c t) : ∃ o, (P, o) ∈ t := by
  rcases h with rfl | ⟨c', oc, vs, tk, rfl, _⟩
  · exact ⟨_, .head _⟩
  · exact ⟨_, .head _⟩
theorem news_dm {h₀ h : Heap} {L : Addr} {p1 p2 : Addr × Obj} {t1 t2 r : List (Addr × Obj)} (N : News h₀ L h (p1 :: p2 :: (t1 ++ (t2 ++ r)))) : News h₀ L h (t2 ++ p1 :: (p2 :: (t1 ++ r))) := cb_drop N fun p hp => by
  simp only [List.mem_cons, List.mem_append] at hp ⊢
  rcases hp with h | h | h | h | h <;> simp [h]
theorem news_dm2 {h₀ h : Heap} {L : Addr} {p1 p2 : Addr × Obj} {t1 t2 r : List (Addr × Obj)} (N : News h₀ L h (t2 ++ p1 :: (p2 :: (t1 ++ r)))) : News h₀ L h (t1 ++ (t2 ++ r)) := cb_drop N fun p hp => by
  simp only [List.mem_cons, List.mem_append] at hp ⊢
  rcases hp with h | h | h <;> simp [h]
end ST0
local macro_rules | `(tactic| walk_at "cell_enterC") => `(tactic| (refine' code_defC ?k1 ?k2 ?k3 ?k4 ?k5 ?kA ?kF ?kK ?k6 ?k7 ?k8 ?k9 ?kB ?kD ?_ ?c2 ?c3 ?c4; (case kA => exact rfl); (case kF => exact rfl); (case kK => assumption); (case k1 => k_asm); (case k2 => k_asm); (case k3 => k_asm); (case k4 => k_asm); (case k5 => k_asm); (case k6 => k_is); (case k7 => k_is); (case k8 => ktr_room); (case k9 => exact BindsTo.of_eq rfl); (case kB => exact rfl); (case kD => decide +kernel); (case c2 => exact rfl); (case c3 => exact rfl); (case c4 => exact rfl); k_whole; intro g' L' h' tk' cells' FG' F' N' Y' B' X' T' l1; (try have lr := tail_lt l1); (try have lr2 := tail_lt lr); (try k_lt l1); k_cells Y'; (try simp only [List.cons_append, List.nil_append] at N'); (try dsimp only); (try k_lift B'); (try k_fold)))
local macro_rules | `(tactic| walk_at "kn_enterC") => `(tactic| (refine' code_nest ?k1 ?k2 ?k3 ?k4 ?k5 ?kA ?kF ?kK ?k6 ?k7 ?k8 ?k9 ?kB ?_ ?c2 ?c3 ?c4 ?c5; (case kA => exact rfl); (case kF => exact rfl); (case kK => first | assumption | exact rfl); (case k1 => k_asm); (case k2 => k_asm); (case k3 => k_asm); (case k4 => k_asm); (case k5 => k_asm); (case k6 => k_mem); (case k7 => exact codeRec_news (by k_asm) (by k_mem) (by assumption) (by assumption)); (case k8 => ktr_room); (case k9 => exact BindsTo.of_eq rfl); (case c5 => decide); (case kB => exact locs rfl); (case c2 => exact rfl); (case c3 => exact rfl); (case c4 => exact rfl); k_whole; intro g' L' h' FG' F' N' B' X' T'; (try dsimp only); (try k_lift B'); (try k_fold)))
local macro_rules | `(tactic| walk_at "st1") => `(tactic| first | (k_unfold; (try dsimp only)) | (k_end; kc_close) | walk1 | (dsimp only; walk1) | (leave1; (try dsimp only)) | fail "no step")
section ST2
local macro_rules | `(tactic| walk_at "binaryOp Add str str") => `(tactic| ((refine SBL.add (hsz := ?hsz) ?_); (case hsz => (simp only [Str.length_append, quotes_len, sign_len, len_item, one_len]; exact szl (by omega))); intro _ _ _))
local macro_rules | `(tactic| k_all) => `(tactic| first | assumption | (refine all_ne (by assumption) ?_; omega))


def digs (x n k : Nat) : List Int := (List.range k).map fun i => ((x / 2 ^ (n * i) % 2 ^ n : Nat) : Int)
theorem digs_len (x n k : Nat) : (digs x n k).length = k := by simp [digs]
theorem mod_dig (x a b c : Nat) (h : b + c ≤ a) : x % 2 ^ a / 2 ^ b % 2 ^ c = x / 2 ^ b % 2 ^ c := by
  apply Nat.eq_of_testBit_eq
  intro i
  simp only [Nat.testBit_mod_two_pow, Nat.testBit_div_two_pow]
  by_cases hi : i < c
  · have : i + b < a := by omega
    simp [hi, this]
  · simp [hi]
theorem digs_add (x n k1 k2 : Nat) : digs x n (k1 + k2) = digs (x % 2 ^ (n * k1)) n k1 ++ digs (x / 2 ^ (n * k1)) n k2 := by
  unfold digs
  rw [List.range_add, List.map_append, List.map_map]
  congr 1
  · refine List.map_congr_left fun i hi => ?_
    have hi' := List.mem_range.mp hi
    rw [mod_dig]
    rw [← Nat.mul_succ]
    exact Nat.mul_le_mul_left n hi'
  · refine List.map_congr_left fun i _ => ?_
    show ((x / 2 ^ (n * (k1 + i)) % 2 ^ n : Nat) : Int) = _
    rw [Nat.div_div_eq_div_mul, ← Nat.pow_add, ← Nat.mul_add]
theorem digs_join {lo mid hi x n k1 k2 : Nat} {ns : List Int} (h1 : mid = lo + k1) (h2 : hi = mid + k2) (h3 : hi ≤ ns.length) :
    (ns.take lo ++ digs (x % 2 ^ (n * k1)) n k1 ++ ns.drop mid).take mid ++ digs (x / 2 ^ (n * k1)) n k2 ++ (ns.take lo ++ digs (x % 2 ^ (n * k1)) n k1 ++ ns.drop mid).drop hi = ns.take lo ++ digs x n (k1 + k2) ++ ns.drop hi := by
  have hl : (ns.take lo ++ digs (x % 2 ^ (n * k1)) n k1).length = mid := by
    rw [List.length_append, List.length_take, digs_len]; omega
  rw [List.take_append_of_le_length (Nat.le_of_eq hl.symm), List.take_of_length_le (Nat.le_of_eq hl), List.drop_append, List.drop_eq_nil_of_le (by omega), hl, List.nil_append, List.drop_drop,
    show mid + (hi - mid) = hi by omega, digs_add, List.append_assoc (ns.take lo), List.append_assoc (ns.take lo)]
theorem digs_mid {lo mid x n k1 : Nat} {ns : List Int} (h1 : mid = lo + k1) (h3 : mid ≤ ns.length) : (ns.take lo ++ digs x n k1 ++ ns.drop mid).length = ns.length := by
  rw [List.length_append, List.length_append, List.length_take, digs_len, List.length_drop]; omega
theorem bits_small {x : Int} (h : x.natAbs < 1000000) : Builtin.Int.intBits x ≤ 10000 := Nat.le_trans ((PySem.intBits_le_iff (m := 20)).mpr (Nat.lt_trans h (by decide))) (by decide)
theorem bits_pow {x m : Nat} (h : x < 2 ^ m) (hm : m ≤ 10000) : Builtin.Int.intBits (x : Int) ≤ 10000 := Nat.le_trans (bits_nat h) hm
theorem half_le {n k j : Nat} (h : n * k ≤ 1000) (hj : j ≤ k) : n * j ≤ 1000 := Nat.le_trans (Nat.mul_le_mul_left n hj) h
theorem digs_one {lo hi x n : Nat} {ns : List Int} (hlh : hi = lo + 1) (h : lo < ns.length) (hx : x < 2 ^ n) : ns.take lo ++ digs x n 1 ++ ns.drop hi = ns.set lo (x : Int) := by
  subst hlh
  rw [List.set_eq_take_append_cons_drop, if_pos h]
  have e : digs x n 1 = [(x : Int)] := by
    show [((x / 2 ^ (n * 0) % 2 ^ n : Nat) : Int)] = _
    rw [Nat.mul_zero, Nat.pow_zero, Nat.div_one, Nat.mod_eq_of_lt hx]
  rw [e, List.append_assoc]; rfl
theorem inner_i2d (w : World) (mean : ExcName → Option Value) (mg mb : Str → Option Value) :
  (fun {aa : Arguments} {bb : List Stmt} {ss : Scope} (_ : innerOf "_int2digits" = some (aa, bb, ss)) =>
    ∀ (k lo hi x n : Nat) (vs : List Value) (ns : List Int) (cap : Nat) (t1 t2 t3 tn tq : Tok) (F C aD c1 c2 c3 : Nat) (oc o1 o2 o3 : Obj) (ocs : Array Value) (nm qu : Str) (dc pm ct : Value) (rest : List (Addr × Obj)),
    hi = lo + k → 0 < k → hi ≤ ns.length → ns.length ≤ 20 → x < 2 ^ (n * k) → n * k ≤ 1000 → k ≤ 20 → IntsAre vs ns → o1.data = .cell (some (.int n tn)) → o2.data = .cell (some (.ref aD)) → o3.data = .cell (some (.ref F)) → oc.data = .fields ocs → ocs[1]? = some (.str qu tq) →
    c1 < aD → c2 < aD → c3 < aD → C ≠ aD → F ≠ aD → (∀ p ∈ rest, @LT.lt Nat _ p.1 aD) →
    ∀ (dp un : Nat) (gd : Option (List Code)) (cn : Str) (cs : Scope) (a : Addr) (ccd : Value) (cl : List (Str × Addr)) (outer : List Env) (A₀ : Around) (base h₀ : Heap) (L : Addr) (m : Str → Option Value) (s : Shared) (Q E : Value → Shared → Prop),
    Below A₀ base outer h₀ → Fr h₀ L s.heap m → (KK w.params).In h₀ →
    News h₀ L s.heap ((F, fnMade nm qu aa bb ss [("n", c1), ("inner", c3), ("a_digits", c2)] dc pm C ct) :: (C, oc) :: (aD, listOf vs.toArray cap) :: (c3, o3) :: (c2, o2) :: (c1, o1) :: rest) → Top topProg LO mean mg mb h₀ → CodeHd base 66 62 → cs.kind = .function → dp + 2 * k < recursionLimit → un + 30 * k < cLine →
    (∀ vs' h' tk', IntsAre vs' (ns.take lo ++ digs x n k ++ ns.drop hi) → Fr h₀ L h' m → News h₀ L h' ((F, fnMade nm qu aa bb ss [("n", c1), ("inner", c3), ("a_digits", c2)] dc pm C ct) :: (C, oc) :: (aD, listOf vs'.toArray cap) :: (c3, o3) :: (c2, o2) :: (c1, o1) :: rest) → Q .none { s with heap := h', toks := tk' }) →
    wpAny (model PySem.Challenge.rw_ul0026_01.row.prog w) (ktrTop dp un gd cn cs L a ccd cl outer) (call (.ref F) [.int x t1, .int lo t2, .int hi t3]) Q E s) (by rfl) := by
  w_on
  dsimp only
  intro k
  induction k using Nat.strongRecOn with
  | _ k IH =>
  k_fill
  intro lo hi x n vs ns cap t1 t2 t3 tn tq F C aD c1 c2 c3 oc o1 o2 o3 ocs nm qu dc pm ct rest hlh hk0 hhi hns hx hnk hk2 hvs d1 d2 d3 e1 e2 q1 q2 q3 q4 q5 q6 dp un gd cn cs a ccd cl outer A₀ base h₀ L m s Q E hB hF hK hN hT hC hcs hdp hun hret
  refine wpAny_call ?_
  k_dflt walk_at "kn_enterC"
  iterate 11 walk_at "st1"
  by_cases h1 : k = 1
  · subst h1
    rw [if_pos (by (simp [hlh]))]
    iterate 10 walk_at "st1"
    rename_i hi' _ _ _ _ _ _
    refine hret _ _ _ ?_ (by k_asm) (by k_asm)
    rw [Int.toNat_natCast] at hi'
    rw [Int.toNat_natCast]
    have e : ns.take lo ++ digs x n 1 ++ ns.drop hi = ns.set lo (x : Int) := digs_one hlh (by omega) (by simpa using hx)
    rw [e]; exact hi'
  · rw [if_neg (by (simp [hlh]; omega))]
    iterate 10 walk_at "st1"
    with_reducible refine rsh_to (v := ((lo + k / 2 : Nat) : Int)) (by decide) ?_ ?_
    · show ((lo : Int) + (hi : Int)).fdiv 2 = _
      rw [Int.fdiv_eq_ediv_of_nonneg _ (by decide)]; omega
    iterate 9 walk_at "st1"
    with_reducible refine mul_to (v := ((n * (k / 2) : Nat) : Int)) ?_ ?_ ?_ ?_
    · rw [show ((lo + k / 2 : Nat) : Int) - (lo : Int) = ((k / 2 : Nat) : Int) by omega, Nat.mul_comm]; simp
    · exact bits_small (by omega)
    · have := half_le hnk (j := 1) hk0
      exact bits_small (by omega)
    iterate 6 walk_at "st1"
    with_reducible refine rsh_to (v := ((x / 2 ^ (n * (k / 2)) : Nat) : Int)) (Int.natCast_nonneg _) (shr_nat _ _) ?_
    iterate 8 walk_at "st1"
    with_reducible refine lsh_to (v := ((x / 2 ^ (n * (k / 2)) * 2 ^ (n * (k / 2)) : Nat) : Int)) (Int.natCast_nonneg _) ?_ ?_ (shl_nat _ _) ?_
    · have := half_le hnk (j := k / 2) (by omega)
      omega
    · exact bits_pow (Nat.lt_of_le_of_lt (Nat.div_le_self _ _) hx) (by omega)
    with_reducible refine xor_to (v := ((x % 2 ^ (n * (k / 2)) : Nat) : Int)) (xor_low _ _) ?_
    iterate 15 walk_at "st1"
    refine IH (k / 2) (by omega) lo (lo + k / 2) (x % 2 ^ (n * (k / 2))) n vs ns cap _ _ _ tn tq F C aD c1 c2 c3 oc o1 o2 o3 ocs nm qu dc pm ct rest rfl (by omega) (by omega) hns (Nat.mod_lt _ (Nat.two_pow_pos _)) ?_ (by omega) hvs d1 d2 d3 e1 e2 q1 q2 q3 q4 q5 q6 _ _ _ _ _ _ _ _ _ _ _ _ _ _ _ _ _ (by k_asm) (by k_asm) (by k_asm) (by k_asm) (by k_asm) hC rfl ?_ ?_ ?_
    · exact half_le hnk (by omega)
    · ktr_room
    · ktr_units
    intro vs1 h1 tk1 i1 F1 N1
    iterate 14 walk_at "st1"
    refine IH (k - k / 2) (by omega) (lo + k / 2) hi (x / 2 ^ (n * (k / 2))) n vs1 _ cap _ _ _ tn tq F C aD c1 c2 c3 oc o1 o2 o3 ocs nm qu dc pm ct rest (by omega) (by omega) ?_ ?_ ?_ ?_ (by omega) i1 d1 d2 d3 e1 e2 q1 q2 q3 q4 q5 q6 _ _ _ _ _ _ _ _ _ _ _ _ _ _ _ _ _ (by k_asm) (by k_asm) (by k_asm) (by k_asm) (by k_asm) hC rfl ?_ ?_ ?_
    · rw [digs_mid rfl (by omega)]; exact hhi
    · rw [digs_mid rfl (by omega)]; exact hns
    · rw [Nat.div_lt_iff_lt_mul (Nat.two_pow_pos _), ← Nat.pow_add, ← Nat.mul_add, show k - k / 2 + k / 2 = k by omega]; exact hx
    · exact half_le hnk (by omega)
    · ktr_room
    · ktr_units
    intro vs2 h2 tk2 i2 F2 N2
    iterate 3 walk_at "st1"
    refine hret _ _ _ ?_ (by k_asm) (by k_asm)
    have e := digs_join (x := x) (n := n) (ns := ns) (k1 := k / 2) (k2 := k - k / 2) (lo := lo) (mid := lo + k / 2) (hi := hi) rfl (by omega) hhi
    rw [show k / 2 + (k - k / 2) = k by omega] at e
    rw [← e]; exact i2
end ST2
section ST3
local macro_rules | `(tactic| walk_at "binaryOp Add str str") => `(tactic| ((refine SBL.add (hsz := ?hsz) ?_); (case hsz => (simp only [Str.length_append, quotes_len, sign_len, len_item, one_len]; exact szl (by omega))); intro _ _ _))
local macro_rules | `(tactic| k_all) => `(tactic| first | assumption | (refine all_ne (by assumption) ?_; omega))

def valL (n : Nat) : List Nat → Nat
  | [] => 0
  | d :: r => d + 2 ^ n * valL n r
theorem valL_append (n : Nat) : ∀ l1 l2 : List Nat, valL n (l1 ++ l2) = valL n l1 + 2 ^ (n * l1.length) * valL n l2
  | [], l2 => by simp [valL]
  | d :: r, l2 => by
    show d + 2 ^ n * valL n (r ++ l2) = d + 2 ^ n * valL n r + 2 ^ (n * (r.length + 1)) * valL n l2
    rw [valL_append n r l2, Nat.mul_add, Nat.mul_succ, Nat.pow_add, Nat.add_assoc, Nat.mul_comm (2 ^ (n * r.length)) (2 ^ n), Nat.mul_assoc]
theorem valL_lt (n : Nat) : ∀ l : List Nat, (∀ d ∈ l, d < 2 ^ n) → valL n l < 2 ^ (n * l.length)
  | [], _ => by simp [valL]
  | d :: r, h => by
    show d + 2 ^ n * valL n r < 2 ^ (n * (r.length + 1))
    have h1 := h d (.head _)
    have h2 := valL_lt n r fun x hx => h x (.tail _ hx)
    rw [Nat.mul_succ, Nat.add_comm (n * r.length) n, Nat.pow_add]
    have h3 : 2 ^ n * (valL n r + 1) ≤ 2 ^ n * 2 ^ (n * r.length) := Nat.mul_le_mul_left _ h2
    rw [Nat.mul_succ] at h3
    omega
theorem val_join {ds : List Nat} {lo mid hi n k k1 k2 : Nat} (h1 : mid = lo + k1) (h2 : hi = mid + k2) (hk : k = k1 + k2) (h3 : hi ≤ ds.length) :
    valL n ((ds.drop mid).take k2) * 2 ^ (n * k1) + valL n ((ds.drop lo).take k1) = valL n ((ds.drop lo).take k) := by
  subst hk h1
  rw [List.take_add, valL_append, List.drop_drop]
  have hl : ((ds.drop lo).take k1).length = k1 := by rw [List.length_take, List.length_drop]; omega
  rw [hl, Nat.add_comm, Nat.mul_comm (valL _ _)]
theorem val_one {ds : List Nat} {lo n : Nat} (h : lo < ds.length) : ((ds.map fun d : Nat => (d : Int)).getD lo 0) = ((valL n ((ds.drop lo).take 1) : Nat) : Int) := by
  rw [List.drop_eq_getElem_cons h]
  show _ = ((ds[lo] + 2 ^ n * 0 : Nat) : Int)
  simp [List.getD, h]
theorem inner_d2i (w : World) (mean : ExcName → Option Value) (mg mb : Str → Option Value) :
  (fun {aa : Arguments} {bb : List Stmt} {ss : Scope} (_ : innerOf "_digits2int" = some (aa, bb, ss)) =>
    ∀ (k lo hi n : Nat) (vs : List Value) (ds : List Nat) (cap : Nat) (t2 t3 tn tq : Tok) (F C qD c1 c2 c3 : Nat) (oc o1 o2 o3 : Obj) (ocs : Array Value) (nm qu : Str) (dc pm ct : Value) (rest : List (Addr × Obj)),
    hi = lo + k → 0 < k → hi ≤ ds.length → ds.length ≤ 20 → n * k ≤ 1000 → k ≤ 20 → (∀ d ∈ ds, d < 2 ^ n) → IntsAre vs (ds.map fun d : Nat => (d : Int)) → o2.data = .cell (some (.int n tn)) → o1.data = .cell (some (.ref qD)) → o3.data = .cell (some (.ref F)) → oc.data = .fields ocs → ocs[1]? = some (.str qu tq) →
    ∀ (dp un : Nat) (gd : Option (List Code)) (cn : Str) (cs : Scope) (a : Addr) (ccd : Value) (cl : List (Str × Addr)) (outer : List Env) (A₀ : Around) (base h₀ : Heap) (L : Addr) (m : Str → Option Value) (s : Shared) (Q E : Value → Shared → Prop),
    Below A₀ base outer h₀ → Fr h₀ L s.heap m → (KK w.params).In h₀ →
    News h₀ L s.heap ((F, fnMade nm qu aa bb ss [("n", c2), ("inner", c3), ("digits", c1)] dc pm C ct) :: (C, oc) :: (c3, o3) :: (c2, o2) :: (c1, o1) :: (qD, listOf vs.toArray cap) :: rest) → Top topProg LO mean mg mb h₀ → CodeHd base 73 69 → cs.kind = .function → dp + 2 * k < recursionLimit → un + 30 * k < cLine →
    (∀ t h' tk', Fr h₀ L h' m → News h₀ L h' ((F, fnMade nm qu aa bb ss [("n", c2), ("inner", c3), ("digits", c1)] dc pm C ct) :: (C, oc) :: (c3, o3) :: (c2, o2) :: (c1, o1) :: (qD, listOf vs.toArray cap) :: rest) → Q (.int (valL n ((ds.drop lo).take k) : Nat) t) { s with heap := h', toks := tk' }) →
    wpAny (model PySem.Challenge.rw_ul0026_01.row.prog w) (ktrTop dp un gd cn cs L a ccd cl outer) (call (.ref F) [.int lo t2, .int hi t3]) Q E s) (by rfl) := by
  w_on
  dsimp only
  intro k
  induction k using Nat.strongRecOn with
  | _ k IH =>
  k_fill
  intro lo hi n vs ds cap t2 t3 tn tq F C qD c1 c2 c3 oc o1 o2 o3 ocs nm qu dc pm ct rest hlh hk0 hhi hns hnk hk2 hds hvs d1 d2 d3 e1 e2 dp un gd cn cs a ccd cl outer A₀ base h₀ L m s Q E hB hF hK hN hT hC hcs hdp hun hret
  have hlen : (ds.map fun d : Nat => (d : Int)).length = ds.length := List.length_map ..
  refine wpAny_call ?_
  k_dflt walk_at "kn_enterC"
  iterate 11 walk_at "st1"
  by_cases h1 : k = 1
  · subst h1
    rw [if_pos (by (simp [hlh]))]
    iterate 8 walk_at "st1"
    rw [Int.toNat_natCast, val_one (n := n) (by omega)]
    exact hret _ _ _ (by k_asm) (by k_asm)
  · rw [if_neg (by (simp [hlh]; omega))]
    iterate 10 walk_at "st1"
    with_reducible refine rsh_to (v := ((lo + k / 2 : Nat) : Int)) (by decide) ?_ ?_
    · show ((lo : Int) + (hi : Int)).fdiv 2 = _
      rw [Int.fdiv_eq_ediv_of_nonneg _ (by decide)]; omega
    iterate 9 walk_at "st1"
    with_reducible refine mul_to (v := ((n * (k / 2) : Nat) : Int)) ?_ ?_ ?_ ?_
    · rw [show ((lo + k / 2 : Nat) : Int) - (lo : Int) = ((k / 2 : Nat) : Int) by omega, Nat.mul_comm]; simp
    · exact bits_small (by omega)
    · have := half_le hnk (j := 1) hk0
      exact bits_small (by omega)
    iterate 15 walk_at "st1"
    refine IH (k - k / 2) (by omega) (lo + k / 2) hi n vs ds cap _ _ tn tq F C qD c1 c2 c3 oc o1 o2 o3 ocs nm qu dc pm ct rest (by omega) (by omega) hhi hns (half_le hnk (by omega)) (by omega) hds hvs d1 d2 d3 e1 e2 _ _ _ _ _ _ _ _ _ _ _ _ _ _ _ _ _ (by k_asm) (by k_asm) (by k_asm) (by k_asm) (by k_asm) hC rfl ?_ ?_ ?_
    · ktr_room
    · ktr_units
    intro tv1 h1 tk1 F1 N1
    iterate 1 walk_at "st1"
    with_reducible refine lsh_to (v := ((valL n ((ds.drop (lo + k / 2)).take (k - k / 2)) * 2 ^ (n * (k / 2)) : Nat) : Int)) (Int.natCast_nonneg _) ?_ ?_ (shl_nat _ _) ?_
    · have := half_le hnk (j := k / 2) (by omega)
      omega
    · refine bits_pow (valL_lt n _ fun d hd => hds d (List.mem_of_mem_drop (List.mem_of_mem_take hd))) ?_
      rw [List.length_take]
      have := half_le hnk (j := min (k - k / 2) (ds.drop (lo + k / 2)).length) (by omega)
      omega
    iterate 10 walk_at "st1"
    refine IH (k / 2) (by omega) lo (lo + k / 2) n vs ds cap _ _ tn tq F C qD c1 c2 c3 oc o1 o2 o3 ocs nm qu dc pm ct rest rfl (by omega) (by omega) hns (half_le hnk (by omega)) (by omega) hds hvs d1 d2 d3 e1 e2 _ _ _ _ _ _ _ _ _ _ _ _ _ _ _ _ _ (by k_asm) (by k_asm) (by k_asm) (by k_asm) (by k_asm) hC rfl ?_ ?_ ?_
    · ktr_room
    · ktr_units
    intro tv2 h2 tk2 F2 N2
    with_reducible refine add_to (v := ((valL n ((ds.drop lo).take k) : Nat) : Int)) ?_ ?_
    · rw [← val_join (k := k) (n := n) (mid := lo + k / 2) (k1 := k / 2) (k2 := k - k / 2) (hi := hi) rfl (by omega) (by omega) hhi]; exact (Int.natCast_add _ _).symm
    iterate 1 walk_at "st1"
    exact hret _ _ _ (by k_asm) (by k_asm)
end ST3
section ST1
local macro_rules | `(tactic| walk_at "binaryOp Add str str") => `(tactic| ((refine SBL.add (hsz := ?hsz) ?_); (case hsz => (simp only [Str.length_append, quotes_len, sign_len, len_item, one_len]; exact szl (by omega))); intro _ _ _))
local macro_rules | `(tactic| k_all) => `(tactic| first | assumption | (refine all_ne (by assumption) ?_; omega))


theorem i2d_ok (w : World) (mean : ExcName → Option Value) (mg mb : Str → Option Value) (x n D : Nat) (hx : x < 2 ^ (n * D)) (hn : 0 < n) (hn4 : n ≤ 1000) (hnD : n * D ≤ 1000) (hD : D ≤ 20) (hDv : ((Builtin.Int.intBits (x : Int) : Int) + n - 1).fdiv n = D) (hx0 : x ≠ 0 → 0 < D) (hx1 : x = 0 → D = 0) (t t' : Tok)
    (t1 rest : List (Addr × Obj)) (hTB : TabOk 62 "_int2digits.<locals>.inner" 54 4 t1) (hrest : ∀ p ∈ rest, p.1 ≠ 62) :
    ∀ (dp un : Nat) (gd : Option (List Code)) (cn : Str) (cs : Scope) (a : Addr) (ccd : Value) (cl : List (Str × Addr)) (outer : List Env) (A₀ : Around) (base h₀ : Heap) (L : Addr) (m : Str → Option Value) (s : Shared) (Q E : Value → Shared → Prop),
    Below A₀ base outer h₀ → Fr h₀ L s.heap m → (KK w.params).In h₀ → News h₀ L s.heap (t1 ++ rest) → Top topProg LO mean mg mb h₀ → CodeHd base 66 62 → cs.kind = .function → dp + 60 < recursionLimit → un + 800 < cLine →
    (∀ (aD : Nat) t1' vs h' tk', TabOk 62 "_int2digits.<locals>.inner" 54 4 t1' → IntsAre vs (digs x n D) → (∀ p ∈ rest, @LT.lt Nat _ p.1 aD) → Fr h₀ L h' m → News h₀ L h' ((aD, listOf vs.toArray 0) :: (t1' ++ rest)) → Q (.ref aD) { s with heap := h', toks := tk' }) →
    wpAny (model PySem.Challenge.rw_ul0026_01.row.prog w) (ktrTop dp un gd cn cs L a ccd cl outer) (call (.ref 67) [.int x t, .int n t']) Q E s := by
  have hb : (Builtin.Int.intBits (x : Int) : Int) ≤ 1000 ∧ 0 ≤ (Builtin.Int.intBits (x : Int) : Int) := ⟨by have := bits_nat hx; omega, Int.natCast_nonneg _⟩
  w_on
  rcases hTB with rfl | ⟨c0, oc0, ocs0, tk0, rfl, hc0, hd1, hd2⟩
  · simp only [List.cons_append, List.nil_append]
    k_fill
    intro dp un gd cn cs a ccd cl outer A₀ base h₀ L m s Q E hB hF hK hN hT hC hcs hdp hun hret
    refine wpAny_call ?_
    k_dflt walk_at "cell_enterC"
    have hbL := big_L (by assumption) (by assumption : Fr _ _ _ _)
    iterate 21 walk_at "st1"
    with_reducible refine fdv_to (v := (D : Int)) (by omega) (log_small (by omega)) hDv ?_
    iterate 1 walk_at "st1"
    rename_i D' h' F' N' i1 n1 s1 e1 e2 e3 l1
    have hn1 : D = n1 := by rw [← e1]; simp
    subst hn1
    iterate 9 walk_at "st1"
    rename_i f' c' oc' vs' t2' ct' dc' h2' tk2' d1' d2' l3 l4 h3' o3' F3' N3' d3'
    by_cases h0 : x = 0
    · rw [if_neg (by (simp [h0]))]
      iterate 5 walk_at "st1"
      have hD0 := hx1 h0
      subst hD0
      refine hret D' [(62, tabObj (#[] ++ #[rawInt 54, rawInt 4, .ref c'])), (c', oc')] _ _ _ (Or.inr ⟨c', oc', vs', _, rfl, by omega, d1', d2'⟩) (.nil) (all_lt (by assumption) (by omega)) (by k_asm) (cb_drop (by k_asm) (by kst_inAny))
    · rw [if_pos (by (simp [h0]))]
      iterate 20 walk_at "st1"
      refine' inner_i2d w mean mg mb D 0 D x n _ _ _ _ _ _ _ _ _ _ _ _ _ _ _ _ _ _ _ _ _ _ _ _ ((62, _) :: rest) ?g1 ?g2 ?g3 ?g4 ?g5 ?g6 ?g7 ?gv ?d1 ?d2 ?d3 ?e1 ?e2 ?q1 ?q2 ?q3 ?q4 ?q5 ?q6 _ _ _ _ _ _ _ _ _ _ _ _ _ _ _ _ _ ?kB ?kF ?kK ?kN ?kT hC ?kc ?ku ?kd ?kr
      case kF => k_asm
      case kN => exact news_skip4 (by k_asm)
      case kB => k_asm
      case kK => k_asm
      case kT => k_asm
      case gv => assumption
      case d1 => assumption
      case d2 => assumption
      case d3 => assumption
      case e1 => assumption
      case e2 => assumption
      case g1 => omega
      case g2 => exact hx0 h0
      case g5 => exact hx
      case g6 => exact hnD
      case g7 => exact hD
      case kc => rfl
      case ku => ktr_room
      case kd => ktr_units
      case g3 => rw [e1]; exact Nat.le_refl _
      case g4 => rw [e1]; exact hD
      case q1 => omega
      case q2 => omega
      case q3 => omega
      case q4 => omega
      case q5 => omega
      case q6 => exact all_lt1 (by assumption) (by omega) (by omega)
      case kr =>
      intro vs2 h2 tk2 i2 F2 N2
      have e : List.take 0 (List.replicate ((D : Nat) : Int).toNat [(0 : Int)]).flatten ++ digs x n D ++ List.drop D (List.replicate ((D : Nat) : Int).toNat [(0 : Int)]).flatten = digs x n D := by
        rw [List.drop_eq_nil_of_le (Nat.le_of_eq e1)]; simp
      rw [e] at i2
      iterate 5 walk_at "st1"
      refine hret D' [(62, tabObj (#[] ++ #[rawInt 54, rawInt 4, .ref c'])), (c', oc')] _ _ _ (Or.inr ⟨c', oc', vs', _, rfl, by omega, d1', d2'⟩) i2 (all_lt (by assumption) (by omega)) (by k_asm) (cb_drop (by k_asm) (by kst_inAny))
  · simp only [List.cons_append, List.nil_append]
    k_fill
    intro dp un gd cn cs a ccd cl outer A₀ base h₀ L m s Q E hB hF hK hN hT hC hcs hdp hun hret
    refine wpAny_call ?_
    k_dflt walk_at "cell_enterC"
    have hbL := big_L (by assumption) (by assumption : Fr _ _ _ _)
    iterate 21 walk_at "st1"
    with_reducible refine fdv_to (v := (D : Int)) (by omega) (log_small (by omega)) hDv ?_
    iterate 1 walk_at "st1"
    rename_i D' h' F' N' i1 n1 s1 e1 e2 e3 l1
    have hn1 : D = n1 := by rw [← e1]; simp
    subst hn1
    iterate 9 walk_at "st1"
    rename_i f' ct' dc' h2' tk2' l3 h3' o3' F3' N3' d3'
    by_cases h0 : x = 0
    · rw [if_neg (by (simp [h0]))]
      iterate 5 walk_at "st1"
      have hD0 := hx1 h0
      subst hD0
      refine hret D' [(62, tabObj #[rawInt 54, rawInt 4, .ref c0]), (c0, oc0)] _ _ _ (Or.inr ⟨c0, oc0, ocs0, _, rfl, hc0, hd1, hd2⟩) (.nil) (all_lt (by assumption) (by omega)) (by k_asm) (cb_drop (by k_asm) (by kst_inAny))
    · rw [if_pos (by (simp [h0]))]
      iterate 20 walk_at "st1"
      refine' inner_i2d w mean mg mb D 0 D x n _ _ _ _ _ _ _ _ _ _ _ _ _ _ _ _ _ _ _ _ _ _ _ _ ((62, _) :: rest) ?g1 ?g2 ?g3 ?g4 ?g5 ?g6 ?g7 ?gv ?d1 ?d2 ?d3 ?e1 ?e2 ?q1 ?q2 ?q3 ?q4 ?q5 ?q6 _ _ _ _ _ _ _ _ _ _ _ _ _ _ _ _ _ ?kB ?kF ?kK ?kN ?kT hC ?kc ?ku ?kd ?kr
      case kF => k_asm
      case kN => exact news_perm8 (by k_asm)
      case kB => k_asm
      case kK => k_asm
      case kT => k_asm
      case gv => assumption
      case d1 => assumption
      case d2 => assumption
      case d3 => assumption
      case e1 => assumption
      case e2 => assumption
      case g1 => omega
      case g2 => exact hx0 h0
      case g5 => exact hx
      case g6 => exact hnD
      case g7 => exact hD
      case kc => rfl
      case ku => ktr_room
      case kd => ktr_units
      case g3 => rw [e1]; exact Nat.le_refl _
      case g4 => rw [e1]; exact hD
      case q1 => omega
      case q2 => omega
      case q3 => omega
      case q4 => omega
      case q5 => omega
      case q6 => exact all_lt1 (by assumption) (by omega) (by omega)
      case kr =>
      intro vs2 h2 tk2 i2 F2 N2
      have e : List.take 0 (List.replicate ((D : Nat) : Int).toNat [(0 : Int)]).flatten ++ digs x n D ++ List.drop D (List.replicate ((D : Nat) : Int).toNat [(0 : Int)]).flatten = digs x n D := by
        rw [List.drop_eq_nil_of_le (Nat.le_of_eq e1)]; simp
      rw [e] at i2
      iterate 5 walk_at "st1"
      refine hret D' [(62, tabObj #[rawInt 54, rawInt 4, .ref c0]), (c0, oc0)] _ _ _ (Or.inr ⟨c0, oc0, ocs0, _, rfl, hc0, hd1, hd2⟩) i2 (all_lt (by assumption) (by omega)) (by k_asm) (cb_drop (by k_asm) (by kst_inAny))
end ST1
section ST4
local macro_rules | `(tactic| walk_at "binaryOp Add str str") => `(tactic| ((refine SBL.add (hsz := ?hsz) ?_); (case hsz => (simp only [Str.length_append, quotes_len, sign_len, len_item, one_len]; exact szl (by omega))); intro _ _ _))
local macro_rules | `(tactic| k_all) => `(tactic| first | assumption | (refine all_ne (by assumption) ?_; omega))

theorem d2i_ok (w : World) (mean : ExcName → Option Value) (mg mb : Str → Option Value) (n : Nat) (vs : List Value) (ds : List Nat) (cap : Nat) (qD : Nat) (hn : 0 < n) (hn4 : n ≤ 1000) (hnD : n * ds.length ≤ 1000) (hD : ds.length ≤ 20) (hds : ∀ d ∈ ds, d < 2 ^ n) (hvs : IntsAre vs (ds.map fun d : Nat => (d : Int))) (t' : Tok)
    (t1 rest : List (Addr × Obj)) (hTB : TabOk 69 "_digits2int.<locals>.inner" 69 4 t1) (hq : qD ≠ 69) (hrest : ∀ p ∈ rest, p.1 ≠ 69) :
    ∀ (dp un : Nat) (gd : Option (List Code)) (cn : Str) (cs : Scope) (a : Addr) (ccd : Value) (cl : List (Str × Addr)) (outer : List Env) (A₀ : Around) (base h₀ : Heap) (L : Addr) (m : Str → Option Value) (s : Shared) (Q E : Value → Shared → Prop),
    Below A₀ base outer h₀ → Fr h₀ L s.heap m → (KK w.params).In h₀ → News h₀ L s.heap (t1 ++ (qD, listOf vs.toArray cap) :: rest) → Top topProg LO mean mg mb h₀ → CodeHd base 73 69 → cs.kind = .function → dp + 60 < recursionLimit → un + 800 < cLine →
    (∀ t1' t h' tk', TabOk 69 "_digits2int.<locals>.inner" 69 4 t1' → Fr h₀ L h' m → News h₀ L h' (t1' ++ (qD, listOf vs.toArray cap) :: rest) → Q (.int (valL n ds : Nat) t) { s with heap := h', toks := tk' }) →
    wpAny (model PySem.Challenge.rw_ul0026_01.row.prog w) (ktrTop dp un gd cn cs L a ccd cl outer) (call (.ref 74) [.ref qD, .int n t']) Q E s := by
  w_on
  rcases hTB with rfl | ⟨c0, oc0, ocs0, tk0, rfl, hc0, hd1, hd2⟩
  · simp only [List.cons_append, List.nil_append]
    k_fill
    intro dp un gd cn cs a ccd cl outer A₀ base h₀ L m s Q E hB hF hK hN hT hC hcs hdp hun hret
    refine wpAny_call ?_
    k_dflt walk_at "cell_enterC"
    have hbL := big_L (by assumption) (by assumption : Fr _ _ _ _)
    iterate 9 walk_at "st1"
    rename_i f' c' oc' vs' t2' ct' dc' h2' tk2' d1' d2' l3 l4 h3' o3' F3' N3' d3'
    by_cases h0 : ds.length = 0
    · rw [if_neg (by (simp [h0]))]
      iterate 2 walk_at "st1"
      have hv0 : ((valL n ds : Nat) : Int) = 0 := by rw [List.length_eq_zero_iff.mp h0]; rfl
      have hr := hret [(69, tabObj (#[] ++ #[rawInt 69, rawInt 4, .ref c'])), (c', oc')]
      rw [hv0] at hr
      exact hr _ _ _ (Or.inr ⟨c', oc', vs', _, rfl, by omega, d1', d2'⟩) (by k_asm) (cb_drop (by k_asm) (by kst_inAny))
    · rw [if_pos (by (simp; omega))]
      iterate 16 walk_at "st1"
      refine' inner_d2i w mean mg mb ds.length 0 _ n vs ds cap _ _ _ _ _ _ _ _ _ _ _ _ _ _ _ _ _ _ _ _ ((69, _) :: rest) ?g1 ?g2 ?g3 hD hnD hD hds hvs ?d1 ?d2 ?d3 ?e1 ?e2 _ _ _ _ _ _ _ _ _ _ _ _ _ _ _ _ _ ?kB ?kF ?kK ?kN ?kT hC ?kc ?ku ?kd ?kr
      case kF => k_asm
      case kN => exact news_swap67 (by k_asm)
      case kB => k_asm
      case kK => k_asm
      case kT => k_asm
      case d1 => assumption
      case d2 => assumption
      case d3 => assumption
      case e1 => assumption
      case e2 => assumption
      case g1 => rw [List.length_map]; omega
      case g2 => omega
      case g3 => exact Nat.le_of_eq (List.length_map ..)
      case kc => rfl
      case ku => ktr_room
      case kd => ktr_units
      case kr =>
      intro tv h tk F2 N2
      rw [List.drop_zero, List.take_length]
      iterate 1 walk_at "st1"
      exact hret [(69, tabObj (#[] ++ #[rawInt 69, rawInt 4, .ref c'])), (c', oc')] _ _ _ (Or.inr ⟨c', oc', vs', _, rfl, by omega, d1', d2'⟩) (by k_asm) (cb_drop (by k_asm) (by kst_inAny))
  · simp only [List.cons_append, List.nil_append]
    k_fill
    intro dp un gd cn cs a ccd cl outer A₀ base h₀ L m s Q E hB hF hK hN hT hC hcs hdp hun hret
    refine wpAny_call ?_
    k_dflt walk_at "cell_enterC"
    have hbL := big_L (by assumption) (by assumption : Fr _ _ _ _)
    iterate 9 walk_at "st1"
    rename_i f' ct' dc' h2' tk2' l3 h3' o3' F3' N3' d3'
    by_cases h0 : ds.length = 0
    · rw [if_neg (by (simp [h0]))]
      iterate 2 walk_at "st1"
      have hv0 : ((valL n ds : Nat) : Int) = 0 := by rw [List.length_eq_zero_iff.mp h0]; rfl
      have hr := hret [(69, tabObj #[rawInt 69, rawInt 4, .ref c0]), (c0, oc0)]
      rw [hv0] at hr
      exact hr _ _ _ (Or.inr ⟨c0, oc0, ocs0, _, rfl, hc0, hd1, hd2⟩) (by k_asm) (cb_drop (by k_asm) (by kst_inAny))
    · rw [if_pos (by (simp; omega))]
      iterate 16 walk_at "st1"
      refine' inner_d2i w mean mg mb ds.length 0 _ n vs ds cap _ _ _ _ _ _ _ _ _ _ _ _ _ _ _ _ _ _ _ _ ((69, _) :: rest) ?g1 ?g2 ?g3 hD hnD hD hds hvs ?d1 ?d2 ?d3 ?e1 ?e2 _ _ _ _ _ _ _ _ _ _ _ _ _ _ _ _ _ ?kB ?kF ?kK ?kN ?kT hC ?kc ?ku ?kd ?kr
      case kF => k_asm
      case kN => exact news_perm69 (by k_asm)
      case kB => k_asm
      case kK => k_asm
      case kT => k_asm
      case d1 => assumption
      case d2 => assumption
      case d3 => assumption
      case e1 => assumption
      case e2 => assumption
      case g1 => rw [List.length_map]; omega
      case g2 => omega
      case g3 => exact Nat.le_of_eq (List.length_map ..)
      case kc => rfl
      case ku => ktr_room
      case kd => ktr_units
      case kr =>
      intro tv h tk F2 N2
      rw [List.drop_zero, List.take_length]
      iterate 1 walk_at "st1"
      exact hret [(69, tabObj #[rawInt 69, rawInt 4, .ref c0]), (c0, oc0)] _ _ _ (Or.inr ⟨c0, oc0, ocs0, _, rfl, hc0, hd1, hd2⟩) (by k_asm) (cb_drop (by k_asm) (by kst_inAny))
end ST4
section ST5
local macro_rules | `(tactic| walk_at "binaryOp Add str str") => `(tactic| ((refine SBL.add (hsz := ?hsz) ?_); (case hsz => (simp only [Str.length_append, quotes_len, sign_len, len_item, one_len]; exact szl (by omega))); intro _ _ _))
local macro_rules | `(tactic| k_all) => `(tactic| first | assumption | (refine all_ne (by assumption) ?_; omega))

theorem div21_ok (w : World) (mean : ExcName → Option Value) (mg mb : Str → Option Value) (x b n : Nat) (hx : x < 2 ^ 4000) (hb : 0 < b) (hb2 : b < 2 ^ 400) (t1 t2 t3 : Tok) (news : List (Addr × Obj)) :
    ∀ (dp un : Nat) (gd : Option (List Code)) (cn : Str) (cs : Scope) (a : Addr) (ccd : Value) (cl : List (Str × Addr)) (outer : List Env) (A₀ : Around) (base h₀ : Heap) (L : Addr) (m : Str → Option Value) (s : Shared) (Q E : Value → Shared → Prop),
    Below A₀ base outer h₀ → Fr h₀ L s.heap m → (KK w.params).In h₀ → News h₀ L s.heap news → Top topProg LO mean mg mb h₀ → cs.kind = .function → dp + 20 < recursionLimit → un + 400 < cLine →
    (∀ (T : Nat) (u1 u2 : Tok) h' tk', (∀ p ∈ news, @LT.lt Nat _ p.1 T) → Fr h₀ L h' m → News h₀ L h' ((T, { cls := .type "tuple", data := .seq #[.int ((x / b : Nat) : Int) u1, .int ((x % b : Nat) : Int) u2] }) :: news) → Q (.ref T) { s with heap := h', toks := tk' }) →
    wpAny (model PySem.Challenge.rw_ul0026_01.row.prog w) (ktrTop dp un gd cn cs L a ccd cl outer) (call (.ref 53) [.int x t1, .int b t2, .int n t3]) Q E s := by
  have hbx : (Builtin.Int.intBits (x : Int) : Int) ≤ 4000 := by have := bits_nat hx; omega
  w_on
  k_fill
  intro dp un gd cn cs a ccd cl outer A₀ base h₀ L m s Q E hB hF hK hN hT hcs hdp hun hret
  refine wpAny_call ?_
  k_dflt cell_enter
  iterate 15 walk_at "st1"
  rw [if_pos (by (simp; omega))]
  iterate 11 walk_at "st1"
  have hlt := news_lt (by assumption : News _ _ _ news)
  with_reducible refine PyProof.Rows.divmod_N (by k_asm) (by k_asm) (by omega) ?_ (Or.inl (PyProof.noPylong_of_log2 (log_pow hb2 (by decide))))
  intro h1 F1 N1
  rw [fdiv_nat, fmod_nat] at N1
  iterate 1 walk_at "st1"
  exact hret _ _ _ _ _ hlt (by k_asm) (by k_asm)
end ST5
section ST6
local macro_rules | `(tactic| walk_at "binaryOp Add str str") => `(tactic| ((refine SBL.add (hsz := ?hsz) ?_); (case hsz => (simp only [Str.length_append, quotes_len, sign_len, len_item, one_len]; exact szl (by omega))); intro _ _ _))
local macro_rules | `(tactic| k_all) => `(tactic| first | assumption | (refine all_ne (by assumption) ?_; omega))

theorem ints_rev : ∀ {vs : List Value} {ns : List Int}, IntsAre vs ns → IntsAre vs.reverse ns.reverse
  | _, _, .nil => .nil
  | _, _, .cons i t h => by rw [List.reverse_cons, List.reverse_cons]; exact IntsAre.append (ints_rev h) (.cons i t .nil)
theorem dig_at {x n D : Nat} {pre post : List Int} {e : Int} (h : (digs x n D).reverse = pre ++ e :: post) : pre.length < D ∧ e = ((x / 2 ^ (n * (D - (pre.length + 1))) % 2 ^ n : Nat) : Int) := by
  have hl := congrArg List.length h
  rw [List.length_reverse, digs_len, List.length_append, List.length_cons] at hl
  have h1 : pre.length < D := by omega
  refine ⟨h1, ?_⟩
  have h2 : ((digs x n D).reverse)[pre.length]? = some e := by rw [h]; simp
  rw [List.getElem?_reverse (by rw [digs_len]; exact h1), digs_len] at h2
  have h3 : (digs x n D)[D - 1 - pre.length]? = some (((x / 2 ^ (n * (D - 1 - pre.length)) % 2 ^ n : Nat) : Int)) := by
    unfold digs
    rw [List.getElem?_map, List.getElem?_range (by omega)]; rfl
  rw [h3] at h2
  rw [← Option.some.inj h2, show D - 1 - pre.length = D - (pre.length + 1) by omega]
theorem top_step {x n D k : Nat} (h : k < D) : x / 2 ^ (n * (D - (k + 1))) = x / 2 ^ (n * (D - k)) * 2 ^ n + x / 2 ^ (n * (D - (k + 1))) % 2 ^ n := by
  have e : x / 2 ^ (n * (D - k)) = x / 2 ^ (n * (D - (k + 1))) / 2 ^ n := by
    rw [Nat.div_div_eq_div_mul, ← Nat.pow_add, ← Nat.mul_succ, show (D - (k + 1)).succ = D - k by omega]
  rw [e, Nat.mul_comm (x / 2 ^ (n * (D - (k + 1))) / 2 ^ n)]
  exact (Nat.div_add_mod _ _).symm
theorem div_step {V b M e : Nat} (hb : 0 < b) : (V * M + e) / b = (V / b) * M + (V % b * M + e) / b ∧ (V * M + e) % b = (V % b * M + e) % b := by
  have h := Nat.div_add_mod V b
  have e1 : V * M + e = b * (V / b * M) + (V % b * M + e) := by
    conv => lhs; rw [← h]
    rw [Nat.add_mul, Nat.mul_assoc]; omega
  rw [e1]
  exact ⟨Nat.mul_add_div hb _ _, Nat.mul_add_mod _ _ _⟩
theorem quot_lt {R b M e : Nat} (hR : R < b) (he : e < M) : (R * M + e) / b < M := by
  rw [Nat.div_lt_iff_lt_mul (by omega)]
  have h1 : (R + 1) * M ≤ b * M := Nat.mul_le_mul_right M hR
  rw [Nat.add_mul] at h1
  rw [Nat.mul_comm M b]; omega
theorem dmp_ok (w : World) (mean : ExcName → Option Value) (mg mb : Str → Option Value) (x b n D : Nat) (hb : 0 < b) (hn : n = Builtin.Int.intBits (b : Int)) (hbn : b < 2 ^ n) (hn0 : 0 < n) (hx : x < 2 ^ (n * D)) (hn4 : n ≤ 300) (hnD : n * D ≤ 1000) (hD : D ≤ 20) (hDv : ((Builtin.Int.intBits (x : Int) : Int) + n - 1).fdiv n = D) (hx0 : x ≠ 0 → 0 < D) (hx1 : x = 0 → D = 0) (t t' : Tok)
    (t1 t2 rest : List (Addr × Obj)) (hT1 : TabOk 62 q62 54 4 t1) (hT2 : TabOk 69 q69 69 4 t2) (hr1 : ∀ p ∈ rest, p.1 ≠ 62) (hr2 : ∀ p ∈ rest, p.1 ≠ 69) :
    ∀ (dp un : Nat) (gd : Option (List Code)) (cn : Str) (cs : Scope) (a : Addr) (ccd : Value) (cl : List (Str × Addr)) (outer : List Env) (A₀ : Around) (base h₀ : Heap) (L : Addr) (m : Str → Option Value) (s : Shared) (Q E : Value → Shared → Prop),
    Below A₀ base outer h₀ → Fr h₀ L s.heap m → (KK w.params).In h₀ → News h₀ L s.heap (t1 ++ (t2 ++ rest)) → Top topProg LO mean mg mb h₀ → CodeHd base 66 62 → CodeHd base 73 69 → cs.kind = .function → dp + 80 < recursionLimit → un + 1000 < cLine →
    (∀ (T : Nat) (u1 u2 : Tok) t1' t2' h' tk', TabOk 62 q62 54 4 t1' → TabOk 69 q69 69 4 t2' → (∀ p ∈ rest, @LT.lt Nat _ p.1 T) → Fr h₀ L h' m → News h₀ L h' ((T, { cls := .type "tuple", data := .seq #[.int ((x / b : Nat) : Int) u1, .int ((x % b : Nat) : Int) u2] }) :: (t1' ++ (t2' ++ rest))) → Q (.ref T) { s with heap := h', toks := tk' }) →
    wpAny (model PySem.Challenge.rw_ul0026_01.row.prog w) (ktrTop dp un gd cn cs L a ccd cl outer) (call (.ref 81) [.int x t, .int b t']) Q E s := by
  subst hn
  w_on
  k_fill
  intro dp un gd cn cs a ccd cl outer A₀ base h₀ L m s Q E hB hF hK hN hT hC1 hC2 hcs hdp hun hret
  refine wpAny_call ?_
  obtain ⟨led0, hled0⟩ : ∃ l, l = t1 ++ (t2 ++ rest) := ⟨_, rfl⟩
  rw [← hled0] at hN
  k_dflt cell_enter
  iterate 20 walk_at "st1"
  refine i2d_ok w mean mg mb x _ D hx hn0 (by omega) hnD hD hDv hx0 hx1 _ _ t1 (t2 ++ rest) hT1 (app_ne (tab_ne hT2 (by decide) (by decide)) hr1) _ _ _ _ _ _ _ _ _ _ _ _ _ _ _ _ _ (by k_asm) (by k_asm) (by k_asm) (by rw [← hled0]; k_asm) (by k_asm) hC1 rfl ?_ ?_ ?_
  · ktr_room
  · ktr_units
  intro aD t1' vs h1 tk1 hT1' i1 hlt1 F1 N1
  obtain ⟨led1, hled1⟩ : ∃ l, l = t1' ++ (t2 ++ rest) := ⟨_, rfl⟩
  rw [← hled1] at N1
  iterate 13 walk_at "st1"
  rename_i lq hq1 lq1 hq2 Fq Nq
  (rename Fr _ _ _ _ => lF'); (with_unfolding_all refine' For_invVF lF' ?k1 ?k2 ?_; (case k1 => exact rfl); (case k2 => exact rfl); k_whole)
  iterate 7 walk_at "st1"
  rename_i D' h' F' N' l1
  refine' krev_state (σ := Nat × List Nat × List Value × Nat × Tok) (vs := vs) (n := 0) (ns := (digs x (Builtin.Int.intBits (b : Int)) D).reverse) (fun c => (_, listOf c.2.2.1.toArray c.2.2.2.1) :: (aD, listOf vs.toArray 0) :: led1) (fun c => [("r", .int ((c.1 % b : Nat) : Int) c.2.2.2.2)]) (fun c => IntsAre c.2.2.1 (c.2.1.map fun q : Nat => (q : Int))) ["q_digit"]
    (fun pre c => c.1 = x / 2 ^ (Builtin.Int.intBits (b : Int) * (D - pre.length)) ∧ c.1 / b = valL (Builtin.Int.intBits (b : Int)) c.2.1.reverse ∧ (∀ q ∈ c.2.1, q < 2 ^ (Builtin.Int.intBits (b : Int))) ∧ c.2.1.length = pre.length) (0, [], [], 0, _) rfl F' N' ?rO ?rM (ints_rev i1) .nil ?rK ?rP ?rT ?rD
  case rK => kst_all
  case rO => exact List.forall_mem_cons.mpr ⟨Nat.ne_of_lt l1.1, List.forall_mem_cons.mpr ⟨Nat.ne_of_lt l1.2.1, tbn_neAll l1.2.2⟩⟩
  case rM => intro c; exact .tail _ (.head _)
  case rP => exact ⟨(Nat.div_eq_of_lt (by simpa using hx)).symm, Nat.zero_div _, (fun q h => nomatch h), rfl⟩
  case rD =>
    rintro ⟨V, qs, qv, cap, tr⟩ u h2 tk2 hf hp F2 N2
    obtain ⟨p1, p2, p3, p4⟩ := hp
    dsimp only [kstB] at F2
    dsimp only at hf p1 p2 p3 p4 F2 N2
    rw [List.length_reverse, digs_len] at p1 p4
    rw [Nat.sub_self, Nat.mul_zero, Nat.pow_zero, Nat.div_one] at p1
    subst p1
    dsimp only
    iterate 6 walk_at "st1"
    have hqs : qv.toArray.toList.length ≤ sizeLine := by
      rw [List.toList_toArray, hf.length, List.length_map]; exact szl (by omega)
    k_dflt (refine' kl_reverse ?F ?N ?e ?U ?z ?_; (case F => k_asm); (case N => k_asm); (case U => k_upd); (case e => exact rfl); (case z => exact hqs); k_whole)
    intro h3 F3 N3
    rw [List.toList_toArray] at N3
    iterate 11 walk_at "st1"
    have h69a : 69 < aD := by obtain ⟨o, ho⟩ := tab_mem hT2; exact hlt1 _ (List.mem_append_left _ ho)
    have h69 : 69 < lq := Nat.lt_trans h69a lq1.1

    rw [hled1] at N3
    refine d2i_ok w mean mg mb _ _ qs.reverse _ lq hn0 (by omega) ?_ ?_ ?_ ?_ _ t2 ((aD, _) :: (t1' ++ rest)) hT2 (by omega) ?_ _ _ _ _ _ _ _ _ _ _ _ _ _ _ _ _ _ (by k_asm) (by k_asm) (by k_asm) (news_dm N3) (by k_asm) hC2 rfl ?_ ?_ ?_
    · rw [List.length_reverse, p4]; exact hnD
    · rw [List.length_reverse, p4]; exact hD
    · intro d hd; exact p3 d (List.mem_reverse.mp hd)
    · rw [List.map_reverse]; exact ints_rev hf
    · exact List.forall_mem_cons.mpr ⟨Nat.ne_of_gt h69a, app_ne (tab_ne hT1' (by decide) (by decide)) hr2⟩
    · ktr_room
    · ktr_units
    intro t2' tv h5 tk5 hT2' F5 N5
    have N6 := news_dm2 N5
    obtain ⟨led2, hled2⟩ : ∃ l, l = t1' ++ (t2' ++ rest) := ⟨_, rfl⟩
    rw [← hled2] at N6
    clear N5
    rw [← p2]
    iterate 12 walk_at "st1"
    rename_i Dz hz Fz Nz lz kFz kNz Tz kXz
    rw [hled2] at kNz
    exact hret Dz _ _ t1' t2' _ _ hT1' hT2' (fun p hp => lz p (by rw [hled2]; exact List.mem_append_right _ (List.mem_append_right _ hp))) kFz kNz
  case rT =>
    rintro ⟨V, qs, qv, cap, tr⟩ pre post e te u it h2 tk2 hns hf hp F2 N2
    obtain ⟨hpl, rfl⟩ := dig_at hns
    obtain ⟨p1, p2, p3, p4⟩ := hp
    dsimp only [kstB] at F2
    dsimp only at hf p1 p2 p3 p4 F2 N2
    have hr0 : V % b < b := Nat.mod_lt _ hb
    have he0 := Nat.mod_lt (x / 2 ^ (Builtin.Int.intBits (b : Int) * (D - (pre.length + 1)))) (Nat.two_pow_pos (Builtin.Int.intBits (b : Int)))
    have hstep := top_step (x := x) (n := Builtin.Int.intBits (b : Int)) hpl
    generalize he : x / 2 ^ (Builtin.Int.intBits (b : Int) * (D - (pre.length + 1))) % 2 ^ (Builtin.Int.intBits (b : Int)) = e at *
    iterate 10 walk_at "st1"
    with_reducible refine lsh_to (v := ((V % b * 2 ^ (Builtin.Int.intBits (b : Int)) : Nat) : Int)) (Int.natCast_nonneg _) (by omega) ?_ (shl_nat _ _) ?_
    · exact bits_pow (Nat.lt_trans hr0 hbn) (by omega)
    iterate 1 walk_at "st1"
    with_reducible refine add_to (v := ((V % b * 2 ^ (Builtin.Int.intBits (b : Int)) + e : Nat) : Int)) (Int.natCast_add _ _).symm ?_
    iterate 6 walk_at "st1"
    refine div21_ok w mean mg mb _ b _ ?_ hb ?_ _ _ _ _ _ _ _ _ _ _ _ _ _ _ _ _ _ _ _ _ _ (by k_asm) (by k_asm) (by k_asm) (by k_asm) (by k_asm) rfl ?_ ?_ ?_
    · have h1 : (V % b + 1) * 2 ^ Builtin.Int.intBits (b : Int) ≤ 2 ^ Builtin.Int.intBits (b : Int) * 2 ^ Builtin.Int.intBits (b : Int) := Nat.mul_le_mul_right _ (Nat.lt_trans hr0 hbn)
      rw [Nat.add_mul, ← Nat.pow_add] at h1
      refine Nat.lt_of_lt_of_le (Nat.lt_of_lt_of_le ?_ h1) (Nat.pow_le_pow_right (by decide) (by omega))
      omega
    · exact Nat.lt_of_lt_of_le hbn (Nat.pow_le_pow_right (by decide) (by omega))
    · ktr_room
    · ktr_units
    intro T u1 u2 h3 tk3 hlt3 F3 N3
    k_lt hlt3
    iterate 18 walk_at "st1"
    have hqs : qv.toArray.size ≤ sizeLine := by
      rw [List.size_toArray, hf.length, List.length_map]; exact szl (by omega)
    k_dflt (refine' append_K ?k1 ?k2 ?k3 ?_ ?z; (case k1 => k_asm); (case k2 => k_asm); (case k3 => k_upd); (case z => exact hqs); k_whole)
    intro h4 F4 N4
    iterate 2 walk_at "st1"
    obtain ⟨s1, s2⟩ := div_step (V := V) (M := 2 ^ Builtin.Int.intBits (b : Int)) (e := e) hb
    have hq := quot_lt hr0 he0
    rw [← p1] at hstep
    rw [← s2] at F4
    rw [List.push_toArray] at N4
    refine UnrEnd.intro F4 (cb_drop N4 (fun p hp => .tail _ hp)) _ (fun p hp => hp) ?_ ⟨(V * 2 ^ Builtin.Int.intBits (b : Int) + e, qs ++ [(V % b * 2 ^ Builtin.Int.intBits (b : Int) + e) / b], _, _, u2), rfl, ?_, ?_, ?_, ?_, ?_, ?_, ?_⟩
    · exact List.forall_mem_cons.mpr ⟨Nat.ne_of_lt l1.1, List.forall_mem_cons.mpr ⟨Nat.ne_of_lt l1.2.1, tbn_neAll l1.2.2⟩⟩
    · show IntsAre _ ((qs ++ [_]).map _)
      rw [List.map_append]
      exact IntsAre.append hf (.cons _ _ .nil)
    · kst_all
    · kst_same
    · show V * 2 ^ Builtin.Int.intBits (b : Int) + e = x / 2 ^ (Builtin.Int.intBits (b : Int) * (D - (pre ++ [(e : Int)]).length))
      rw [List.length_append, List.length_singleton]; exact hstep.symm
    · show (V * 2 ^ Builtin.Int.intBits (b : Int) + e) / b = valL _ (qs ++ [_]).reverse
      rw [List.reverse_append, s1, p2]
      show _ = _ + 2 ^ Builtin.Int.intBits (b : Int) * valL _ qs.reverse
      rw [Nat.mul_comm, Nat.add_comm]
    · intro q hqm
      rcases List.mem_append.mp hqm with h | h
      · exact p3 q h
      · rw [List.mem_singleton.mp h]; exact hq
    · show (qs ++ [_]).length = (pre ++ [_]).length
      rw [List.length_append, List.length_append, p4]; rfl
end ST6
section ST7
local macro_rules | `(tactic| walk_at "binaryOp Add str str") => `(tactic| ((refine SBL.add (hsz := ?hsz) ?_); (case hsz => (simp only [Str.length_append, quotes_len, sign_len, len_item, one_len]; exact szl (by omega))); intro _ _ _))
local macro_rules | `(tactic| k_all) => `(tactic| first | assumption | (refine all_ne (by assumption) ?_; omega))

theorem news_drop2 {h₀ h : Heap} {L : Addr} {p1 p2 : Addr × Obj} {r : List (Addr × Obj)} (N : News h₀ L h (p1 :: p2 :: r)) : News h₀ L h (p1 :: r) := cb_drop N fun p hp => by
  rcases List.mem_cons.mp hp with h | h
  · rw [h]; exact .head _
  · exact .tail _ (.tail _ h)
structure OKD (x b D : Nat) : Prop where
  hb : 0 < b
  hbn : b < 2 ^ Builtin.Int.intBits (b : Int)
  hn0 : 0 < Builtin.Int.intBits (b : Int)
  hx : x < 2 ^ (Builtin.Int.intBits (b : Int) * D)
  hn4 : Builtin.Int.intBits (b : Int) ≤ 300
  hnD : Builtin.Int.intBits (b : Int) * D ≤ 1000
  hD : D ≤ 20
  hDv : ((Builtin.Int.intBits (x : Int) : Int) + (Builtin.Int.intBits (b : Int) : Int) - 1).fdiv (Builtin.Int.intBits (b : Int) : Int) = D
  hx0 : x ≠ 0 → 0 < D
  hx1 : x = 0 → D = 0
theorem okd_ar {X n : Nat} (hn0 : 0 < n) (hX : X ≤ 13 + n) : X ≤ n * ((X + n - 1) / n) ∧ n * ((X + n - 1) / n) ≤ 12 + 2 * n ∧ (X + n - 1) / n ≤ 14 ∧ (0 < X → 0 < (X + n - 1) / n) ∧ (X = 0 → (X + n - 1) / n = 0) := by
  have h := Nat.div_add_mod (X + n - 1) n
  have h2 := Nat.mod_lt (X + n - 1) hn0
  generalize hd : (X + n - 1) / n = D at *
  refine ⟨by omega, by omega, ?_, ?_, ?_⟩
  · rw [← hd]
    refine Nat.le_of_lt_succ ((Nat.div_lt_iff_lt_mul hn0).mpr ?_)
    omega
  · intro h0
    rw [← hd]
    exact Nat.div_pos (by omega) hn0
  · intro h0
    rw [← hd]
    exact Nat.div_eq_of_lt (by omega)
theorem okd {x b : Nat} (hb : 0 < b) (hb2 : b < 2 ^ 300) (hx : x < 8192 * b) : ∃ D, OKD x b D := by
  have hn : b < 2 ^ Builtin.Int.intBits (b : Int) := by simpa using (PySem.intBits_le_iff (m := Builtin.Int.intBits (b : Int)) (x := (b : Int))).mp (Nat.le_refl _)
  have hn300 : Builtin.Int.intBits (b : Int) ≤ 300 := bits_nat hb2
  have hn0 : 0 < Builtin.Int.intBits (b : Int) := by
    rcases Nat.eq_zero_or_pos (Builtin.Int.intBits (b : Int)) with h | h
    · rw [h] at hn; omega
    · exact h
  have hxb : x < 2 ^ Builtin.Int.intBits (x : Int) := by simpa using (PySem.intBits_le_iff (m := Builtin.Int.intBits (x : Int)) (x := (x : Int))).mp (Nat.le_refl _)
  have hx13 : Builtin.Int.intBits (x : Int) ≤ 13 + Builtin.Int.intBits (b : Int) := bits_nat (by
    rw [Nat.pow_add]
    exact Nat.lt_of_lt_of_le hx (Nat.mul_le_mul_left 8192 (Nat.le_of_lt hn)))
  obtain ⟨a1, a2, a3, a4, a5⟩ := okd_ar hn0 hx13
  refine ⟨(Builtin.Int.intBits (x : Int) + Builtin.Int.intBits (b : Int) - 1) / Builtin.Int.intBits (b : Int), hb, hn, hn0, Nat.lt_of_lt_of_le hxb (Nat.pow_le_pow_right (by decide) a1), hn300, by omega, by omega, ?_, ?_, ?_⟩
  · rw [show ((Builtin.Int.intBits (x : Int) : Int) + (Builtin.Int.intBits (b : Int) : Int) - 1) = ((Builtin.Int.intBits (x : Int) + Builtin.Int.intBits (b : Int) - 1 : Nat) : Int) by omega]
    exact fdiv_nat _ _
  · intro h0
    refine a4 (Nat.pos_of_ne_zero fun h => h0 ?_)
    rw [h] at hxb; omega
  · intro h0
    refine a5 ?_
    have : Builtin.Int.intBits (x : Int) ≤ 0 := bits_nat (by rw [h0]; decide)
    omega
theorem idm_pos (w : World) (mean : ExcName → Option Value) (mg mb : Str → Option Value) (x b D : Nat) (H : OKD x b D) (t t' : Tok)
    (t1 t2 rest : List (Addr × Obj)) (hT1 : TabOk 62 q62 54 4 t1) (hT2 : TabOk 69 q69 69 4 t2) (hr1 : ∀ p ∈ rest, p.1 ≠ 62) (hr2 : ∀ p ∈ rest, p.1 ≠ 69) :
    ∀ (dp un : Nat) (gd : Option (List Code)) (cn : Str) (cs : Scope) (a : Addr) (ccd : Value) (cl : List (Str × Addr)) (outer : List Env) (A₀ : Around) (base h₀ : Heap) (L : Addr) (m : Str → Option Value) (s : Shared) (Q E : Value → Shared → Prop),
    Below A₀ base outer h₀ → Fr h₀ L s.heap m → (KK w.params).In h₀ → News h₀ L s.heap (t1 ++ (t2 ++ rest)) → Top topProg LO mean mg mb h₀ → CodeHd base 66 62 → CodeHd base 73 69 → cs.kind = .function → dp + 90 < recursionLimit → un + 1100 < cLine →
    (∀ (T : Nat) (u1 u2 : Tok) t1' t2' h' tk', TabOk 62 q62 54 4 t1' → TabOk 69 q69 69 4 t2' → (∀ p ∈ rest, @LT.lt Nat _ p.1 T) → Fr h₀ L h' m → News h₀ L h' ((T, { cls := .type "tuple", data := .seq #[.int ((x / b : Nat) : Int) u1, .int ((x % b : Nat) : Int) u2] }) :: (t1' ++ (t2' ++ rest))) → Q (.ref T) { s with heap := h', toks := tk' }) →
    wpAny (model PySem.Challenge.rw_ul0026_01.row.prog w) (ktrTop dp un gd cn cs L a ccd cl outer) (call (.ref 88) [.int x t, .int b t']) Q E s := by
  w_on
  k_fill
  intro dp un gd cn cs a ccd cl outer A₀ base h₀ L m s Q E hB hF hK hN hT hC1 hC2 hcs hdp hun hret
  refine wpAny_call ?_
  obtain ⟨led0, hled0⟩ : ∃ l, l = t1 ++ (t2 ++ rest) := ⟨_, rfl⟩
  rw [← hled0] at hN
  k_dflt cell_enter
  have hb := H.hb
  iterate 7 walk_at "st1"
  rw [if_neg (by (simp; omega))]
  iterate 8 walk_at "st1"
  rw [if_neg (by (simp))]
  iterate 8 walk_at "st1"
  rw [if_neg (by (simp))]
  iterate 12 walk_at "st1"
  refine dmp_ok w mean mg mb x b _ D H.hb rfl H.hbn H.hn0 H.hx H.hn4 H.hnD H.hD H.hDv H.hx0 H.hx1 _ _ t1 t2 rest hT1 hT2 hr1 hr2 _ _ _ _ _ _ _ _ _ _ _ _ _ _ _ _ _ (by k_asm) (by k_asm) (by k_asm) (by rw [← hled0]; k_asm) (by k_asm) hC1 hC2 rfl ?_ ?_ ?_
  · ktr_room
  · ktr_units
  intro T u1 u2 t1' t2' h1 tk1 hT1' hT2' hlt F1 N1
  obtain ⟨led1, hled1⟩ : ∃ l, l = t1' ++ (t2' ++ rest) := ⟨_, rfl⟩
  rw [← hled1] at N1
  iterate 2 walk_at "st1"
  rename_i kFz kNz Tz kXz
  rw [hled1] at kNz
  exact hret T _ _ t1' t2' _ _ hT1' hT2' hlt kFz kNz
theorem idm_aneg (w : World) (mean : ExcName → Option Value) (mg mb : Str → Option Value) (x b D : Nat) (H : OKD x b D) (t t' : Tok)
    (t1 t2 rest : List (Addr × Obj)) (hT1 : TabOk 62 q62 54 4 t1) (hT2 : TabOk 69 q69 69 4 t2) (hr1 : ∀ p ∈ rest, p.1 ≠ 62) (hr2 : ∀ p ∈ rest, p.1 ≠ 69) :
    ∀ (dp un : Nat) (gd : Option (List Code)) (cn : Str) (cs : Scope) (a : Addr) (ccd : Value) (cl : List (Str × Addr)) (outer : List Env) (A₀ : Around) (base h₀ : Heap) (L : Addr) (m : Str → Option Value) (s : Shared) (Q E : Value → Shared → Prop),
    Below A₀ base outer h₀ → Fr h₀ L s.heap m → (KK w.params).In h₀ → News h₀ L s.heap (t1 ++ (t2 ++ rest)) → Top topProg LO mean mg mb h₀ → CodeHd base 66 62 → CodeHd base 73 69 → cs.kind = .function → dp + 95 < recursionLimit → un + 1200 < cLine →
    (∀ (T : Nat) (u1 u2 : Tok) t1' t2' h' tk', TabOk 62 q62 54 4 t1' → TabOk 69 q69 69 4 t2' → (∀ p ∈ rest, @LT.lt Nat _ p.1 T) → Fr h₀ L h' m → News h₀ L h' ((T, { cls := .type "tuple", data := .seq #[.int (-((x / b : Nat) : Int) - 1) u1, .int ((b : Int) + (-((x % b : Nat) : Int) - 1)) u2] }) :: (t1' ++ (t2' ++ rest))) → Q (.ref T) { s with heap := h', toks := tk' }) →
    wpAny (model PySem.Challenge.rw_ul0026_01.row.prog w) (ktrTop dp un gd cn cs L a ccd cl outer) (call (.ref 88) [.int (-(x : Int) - 1) t, .int b t']) Q E s := by
  w_on
  k_fill
  intro dp un gd cn cs a ccd cl outer A₀ base h₀ L m s Q E hB hF hK hN hT hC1 hC2 hcs hdp hun hret
  refine wpAny_call ?_
  obtain ⟨led0, hled0⟩ : ∃ l, l = t1 ++ (t2 ++ rest) := ⟨_, rfl⟩
  rw [← hled0] at hN
  k_dflt cell_enter
  have hb := H.hb
  iterate 7 walk_at "st1"
  rw [if_neg (by (simp; omega))]
  iterate 8 walk_at "st1"
  rw [if_neg (by (simp))]
  iterate 8 walk_at "st1"
  rw [if_pos (by (simp; omega))]
  iterate 14 walk_at "st1"
  rw [show Builtin.bitNot (-(x : Int) - 1) = (x : Int) by unfold Builtin.bitNot; omega]
  refine idm_pos w mean mg mb x b D H _ _ t1 t2 rest hT1 hT2 hr1 hr2 _ _ _ _ _ _ _ _ _ _ _ _ _ _ _ _ _ (by k_asm) (by k_asm) (by k_asm) (by rw [← hled0]; k_asm) (by k_asm) hC1 hC2 rfl ?_ ?_ ?_
  · ktr_room
  · ktr_units
  intro T u1 u2 t1' t2' h1 tk1 hT1' hT2' hlt F1 N1
  obtain ⟨led1, hled1⟩ : ∃ l, l = t1' ++ (t2' ++ rest) := ⟨_, rfl⟩
  rw [← hled1] at N1
  iterate 26 walk_at "st1"
  rename_i D' h' F' N' l1 kFz kNz Tz kXz
  rw [hled1] at kNz
  exact hret D' _ _ t1' t2' _ _ hT1' hT2' (all_lt hlt (Nat.le_of_lt l1.1)) kFz (news_drop2 kNz)
theorem idm_bneg (w : World) (mean : ExcName → Option Value) (mg mb : Str → Option Value) (x b D : Nat) (H : OKD x b D) (t t' : Tok)
    (t1 t2 rest : List (Addr × Obj)) (hT1 : TabOk 62 q62 54 4 t1) (hT2 : TabOk 69 q69 69 4 t2) (hr1 : ∀ p ∈ rest, p.1 ≠ 62) (hr2 : ∀ p ∈ rest, p.1 ≠ 69) :
    ∀ (dp un : Nat) (gd : Option (List Code)) (cn : Str) (cs : Scope) (a : Addr) (ccd : Value) (cl : List (Str × Addr)) (outer : List Env) (A₀ : Around) (base h₀ : Heap) (L : Addr) (m : Str → Option Value) (s : Shared) (Q E : Value → Shared → Prop),
    Below A₀ base outer h₀ → Fr h₀ L s.heap m → (KK w.params).In h₀ → News h₀ L s.heap (t1 ++ (t2 ++ rest)) → Top topProg LO mean mg mb h₀ → CodeHd base 66 62 → CodeHd base 73 69 → cs.kind = .function → dp + 100 < recursionLimit → un + 1300 < cLine →
    (∀ (T : Nat) (u1 u2 : Tok) t1' t2' h' tk', TabOk 62 q62 54 4 t1' → TabOk 69 q69 69 4 t2' → (∀ p ∈ rest, @LT.lt Nat _ p.1 T) → Fr h₀ L h' m → News h₀ L h' ((T, { cls := .type "tuple", data := .seq #[.int ((x / b : Nat) : Int) u1, .int (-((x % b : Nat) : Int)) u2] }) :: (t1' ++ (t2' ++ rest))) → Q (.ref T) { s with heap := h', toks := tk' }) →
    wpAny (model PySem.Challenge.rw_ul0026_01.row.prog w) (ktrTop dp un gd cn cs L a ccd cl outer) (call (.ref 88) [.int (-(x : Int)) t, .int (-(b : Int)) t']) Q E s := by
  w_on
  k_fill
  intro dp un gd cn cs a ccd cl outer A₀ base h₀ L m s Q E hB hF hK hN hT hC1 hC2 hcs hdp hun hret
  refine wpAny_call ?_
  obtain ⟨led0, hled0⟩ : ∃ l, l = t1 ++ (t2 ++ rest) := ⟨_, rfl⟩
  rw [← hled0] at hN
  k_dflt cell_enter
  have hb := H.hb
  iterate 7 walk_at "st1"
  rw [if_neg (by (simp; omega))]
  iterate 8 walk_at "st1"
  rw [if_pos (by (simp; omega))]
  iterate 16 walk_at "st1"
  rw [Int.neg_neg, Int.neg_neg]
  refine idm_pos w mean mg mb x b D H _ _ t1 t2 rest hT1 hT2 hr1 hr2 _ _ _ _ _ _ _ _ _ _ _ _ _ _ _ _ _ (by k_asm) (by k_asm) (by k_asm) (by rw [← hled0]; k_asm) (by k_asm) hC1 hC2 rfl ?_ ?_ ?_
  · ktr_room
  · ktr_units
  intro T u1 u2 t1' t2' h1 tk1 hT1' hT2' hlt F1 N1
  obtain ⟨led1, hled1⟩ : ∃ l, l = t1' ++ (t2' ++ rest) := ⟨_, rfl⟩
  rw [← hled1] at N1
  iterate 21 walk_at "st1"
  rename_i D' h' F' N' l1 kFz kNz Tz kXz
  rw [hled1] at kNz
  exact hret D' _ _ t1' t2' _ _ hT1' hT2' (all_lt hlt (Nat.le_of_lt l1.1)) kFz (news_drop2 kNz)
theorem idm_abneg (w : World) (mean : ExcName → Option Value) (mg mb : Str → Option Value) (x b D : Nat) (H : OKD x b D) (t t' : Tok)
    (t1 t2 rest : List (Addr × Obj)) (hT1 : TabOk 62 q62 54 4 t1) (hT2 : TabOk 69 q69 69 4 t2) (hr1 : ∀ p ∈ rest, p.1 ≠ 62) (hr2 : ∀ p ∈ rest, p.1 ≠ 69) :
    ∀ (dp un : Nat) (gd : Option (List Code)) (cn : Str) (cs : Scope) (a : Addr) (ccd : Value) (cl : List (Str × Addr)) (outer : List Env) (A₀ : Around) (base h₀ : Heap) (L : Addr) (m : Str → Option Value) (s : Shared) (Q E : Value → Shared → Prop),
    Below A₀ base outer h₀ → Fr h₀ L s.heap m → (KK w.params).In h₀ → News h₀ L s.heap (t1 ++ (t2 ++ rest)) → Top topProg LO mean mg mb h₀ → CodeHd base 66 62 → CodeHd base 73 69 → cs.kind = .function → dp + 100 < recursionLimit → un + 1300 < cLine →
    (∀ (T : Nat) (u1 u2 : Tok) t1' t2' h' tk', TabOk 62 q62 54 4 t1' → TabOk 69 q69 69 4 t2' → (∀ p ∈ rest, @LT.lt Nat _ p.1 T) → Fr h₀ L h' m → News h₀ L h' ((T, { cls := .type "tuple", data := .seq #[.int (-((x / b : Nat) : Int) - 1) u1, .int (-((b : Int) + (-((x % b : Nat) : Int) - 1))) u2] }) :: (t1' ++ (t2' ++ rest))) → Q (.ref T) { s with heap := h', toks := tk' }) →
    wpAny (model PySem.Challenge.rw_ul0026_01.row.prog w) (ktrTop dp un gd cn cs L a ccd cl outer) (call (.ref 88) [.int (-(-(x : Int) - 1)) t, .int (-(b : Int)) t']) Q E s := by
  w_on
  k_fill
  intro dp un gd cn cs a ccd cl outer A₀ base h₀ L m s Q E hB hF hK hN hT hC1 hC2 hcs hdp hun hret
  refine wpAny_call ?_
  obtain ⟨led0, hled0⟩ : ∃ l, l = t1 ++ (t2 ++ rest) := ⟨_, rfl⟩
  rw [← hled0] at hN
  k_dflt cell_enter
  have hb := H.hb
  iterate 7 walk_at "st1"
  rw [if_neg (by (simp; omega))]
  iterate 8 walk_at "st1"
  rw [if_pos (by (simp; omega))]
  iterate 16 walk_at "st1"
  rw [Int.neg_neg, Int.neg_neg]
  refine idm_aneg w mean mg mb x b D H _ _ t1 t2 rest hT1 hT2 hr1 hr2 _ _ _ _ _ _ _ _ _ _ _ _ _ _ _ _ _ (by k_asm) (by k_asm) (by k_asm) (by rw [← hled0]; k_asm) (by k_asm) hC1 hC2 rfl ?_ ?_ ?_
  · ktr_room
  · ktr_units
  intro T u1 u2 t1' t2' h1 tk1 hT1' hT2' hlt F1 N1
  obtain ⟨led1, hled1⟩ : ∃ l, l = t1' ++ (t2' ++ rest) := ⟨_, rfl⟩
  rw [← hled1] at N1
  iterate 21 walk_at "st1"
  rename_i D' h' F' N' l1 kFz kNz Tz kXz
  rw [hled1] at kNz
  exact hret D' _ _ t1' t2' _ _ hT1' hT2' (all_lt hlt (Nat.le_of_lt l1.1)) kFz (news_drop2 kNz)
theorem divA {x b : Nat} (hb : 0 < b) : (-(x : Int) - 1).fdiv b = -((x / b : Nat) : Int) - 1 ∧ (-(x : Int) - 1).fmod b = (b : Int) + (-((x % b : Nat) : Int) - 1) := by
  have h := Nat.div_add_mod x b
  have h2 := Nat.mod_lt x hb
  generalize hq : x / b = q at *
  generalize hr : x % b = r at *
  have e : (-(x : Int) - 1) = ((b : Int) + (-(r : Int) - 1)) + (b : Int) * (-(q : Int) - 1) := by
    rw [← h, Int.mul_sub, Int.mul_neg, Int.natCast_add, Int.natCast_mul]; omega
  have hb0 : (b : Int) ≠ 0 := by omega
  rw [e, Int.add_mul_fdiv_left _ _ hb0, Int.add_mul_fmod_self_left]
  rw [Int.fdiv_eq_ediv_of_nonneg _ (by omega), Int.fmod_eq_emod_of_nonneg _ (by omega), Int.ediv_eq_zero_of_lt (by omega) (by omega), Int.emod_eq_of_lt (by omega) (by omega)]
  omega
theorem idm_all (w : World) (mean : ExcName → Option Value) (mg mb : Str → Option Value) (a₀ : Int) (b : Nat) (sd : Int) (hsd : sd = 1 ∨ sd = -1) (hb : 0 < b) (hb2 : b < 2 ^ 300) (ha : a₀ < 8192 * b) (ha2 : -(8192 * b) ≤ a₀) (va vb : Int) (hva : va = sd * a₀) (hvb : vb = sd * b) (t t' : Tok)
    (t1 t2 rest : List (Addr × Obj)) (hT1 : TabOk 62 q62 54 4 t1) (hT2 : TabOk 69 q69 69 4 t2) (hr1 : ∀ p ∈ rest, p.1 ≠ 62) (hr2 : ∀ p ∈ rest, p.1 ≠ 69) :
    ∀ (dp un : Nat) (gd : Option (List Code)) (cn : Str) (cs : Scope) (a : Addr) (ccd : Value) (cl : List (Str × Addr)) (outer : List Env) (A₀ : Around) (base h₀ : Heap) (L : Addr) (m : Str → Option Value) (s : Shared) (Q E : Value → Shared → Prop),
    Below A₀ base outer h₀ → Fr h₀ L s.heap m → (KK w.params).In h₀ → News h₀ L s.heap (t1 ++ (t2 ++ rest)) → Top topProg LO mean mg mb h₀ → CodeHd base 66 62 → CodeHd base 73 69 → cs.kind = .function → dp + 100 < recursionLimit → un + 1300 < cLine →
    (∀ (T : Nat) (u1 u2 : Tok) t1' t2' h' tk', TabOk 62 q62 54 4 t1' → TabOk 69 q69 69 4 t2' → (∀ p ∈ rest, @LT.lt Nat _ p.1 T) → Fr h₀ L h' m → News h₀ L h' ((T, { cls := .type "tuple", data := .seq #[.int (a₀.fdiv b) u1, .int (sd * a₀.fmod b) u2] }) :: (t1' ++ (t2' ++ rest))) → Q (.ref T) { s with heap := h', toks := tk' }) →
    wpAny (model PySem.Challenge.rw_ul0026_01.row.prog w) (ktrTop dp un gd cn cs L a ccd cl outer) (call (.ref 88) [.int va t, .int vb t']) Q E s := by
  intro dp un gd cn cs a ccd cl outer A₀ base h₀ L m s Q E hB hF hK hN hT hC1 hC2 hcs hdp hun hret
  rcases Int.lt_or_le a₀ 0 with hneg | hpos
  · obtain ⟨x, hx⟩ : ∃ x : Nat, a₀ = -(x : Int) - 1 := ⟨(-a₀ - 1).toNat, by omega⟩
    obtain ⟨D, H⟩ := okd hb hb2 (x := x) (by omega)
    obtain ⟨d1, d2⟩ := divA (x := x) hb
    rw [← hx] at d1 d2
    rw [d1, d2] at hret
    rcases hsd with rfl | rfl
    · rw [hva, hvb, Int.one_mul, Int.one_mul, hx]
      simp only [Int.one_mul] at hret
      exact idm_aneg w mean mg mb x b D H _ _ t1 t2 rest hT1 hT2 hr1 hr2 _ _ _ _ _ _ _ _ _ _ _ _ _ _ _ _ _ hB hF hK hN hT hC1 hC2 hcs (by omega) (by omega) hret
    · rw [hva, hvb, Int.neg_mul, Int.neg_mul, Int.one_mul, Int.one_mul, hx]
      simp only [Int.neg_mul, Int.one_mul] at hret
      exact idm_abneg w mean mg mb x b D H _ _ t1 t2 rest hT1 hT2 hr1 hr2 _ _ _ _ _ _ _ _ _ _ _ _ _ _ _ _ _ hB hF hK hN hT hC1 hC2 hcs (by omega) (by omega) hret
  · obtain ⟨x, hx⟩ : ∃ x : Nat, a₀ = (x : Int) := ⟨a₀.toNat, by omega⟩
    obtain ⟨D, H⟩ := okd hb hb2 (x := x) (by omega)
    rw [hx, fdiv_nat, fmod_nat] at hret
    rcases hsd with rfl | rfl
    · rw [hva, hvb, Int.one_mul, Int.one_mul, hx]
      simp only [Int.one_mul] at hret
      exact idm_pos w mean mg mb x b D H _ _ t1 t2 rest hT1 hT2 hr1 hr2 _ _ _ _ _ _ _ _ _ _ _ _ _ _ _ _ _ hB hF hK hN hT hC1 hC2 hcs (by omega) (by omega) hret
    · rw [hva, hvb, Int.neg_mul, Int.neg_mul, Int.one_mul, Int.one_mul, hx]
      simp only [Int.neg_mul, Int.one_mul] at hret
      exact idm_bneg w mean mg mb x b D H _ _ t1 t2 rest hT1 hT2 hr1 hr2 _ _ _ _ _ _ _ _ _ _ _ _ _ _ _ _ _ hB hF hK hN hT hC1 hC2 hcs (by omega) (by omega) hret
end ST7
section SCp
local macro_rules | `(tactic| walk_at "binaryOp Add str str") => `(tactic| ((refine SBL.add (hsz := ?hsz) ?_); (case hsz => (simp only [Str.length_append, quotes_len, sign_len, len_item, one_len]; exact szl (by omega))); intro _ _ _))
def PInv (size c : Nat) (i : Int) (d : Str) : Prop := (∃ j : Nat, i = 5 + 2 * (j : Int) ∧ d = quotes j ∧ 2 * j ≤ size) ∨ (∃ j : Nat, 2 * j = size ∧ i = 6 + 2 * (j : Int) ∧ d = quotes j ++ sign c)
theorem PInv.start (size c : Nat) : PInv size c 5 (Str.ofString "") := .inl ⟨0, rfl, by decide +kernel, Nat.zero_le _⟩
theorem quotes_succ (j : Nat) : quotes j ++ Str.ofString "\"" = quotes (j + 1) := by
  rw [show Str.ofString "\"" = Str.mk #[34] by decide +kernel]
  show Str.mk _ = Str.mk _
  unfold quotes
  rw [List.replicate_succ', List.append_toArray]
theorem PInv.more {size c j : Nat} (h : 2 * j + 2 ≤ size) {i : Int} (hi : i = 5 + 2 * (j : Int) + 2) {d : Str} (hd : d = quotes j ++ Str.ofString "\"") : PInv size c i d :=
  .inl ⟨j + 1, by rw [hi]; omega, by rw [hd, quotes_succ], by omega⟩
theorem PInv.last {size c j : Nat} (h : 2 * j = size) {i : Int} (hi : i = 5 + 2 * (j : Int) + 1) {d : Str} (hd : d = quotes j ++ sign c) : PInv size c i d := .inr ⟨j, h, by rw [hi]; omega, hd⟩
theorem sign_ne {c : Nat} (h : c ≠ 34) : (sign c == Str.ofString "\"") = false := by
  rw [show Str.ofString "\"" = Str.mk #[34] by decide +kernel, beq_eq_false_iff_ne]
  intro e
  injection e with e
  injection e with e
  injection e with e
  exact h e
theorem parse_ok (w : World) (mean : ExcName → Option Value) (mg mb : Str → Option Value) (r : Str) (t : Tok) (size c : Nat) (hc : c ≠ 34) (hsz : size ≤ 1000) (hz : r.length ≤ 1048576)
  (h1 : Txt.slice r none (some 3) = Str.ofString "257") (h2 : Txt.slice r (some 3) (some 5) = Str.ofString " \"") (hl : r.length = size + 6) (hq : ∀ i : Int, 5 ≤ i → i < size + 5 → Txt.item r i = Str.ofString "\"") (hm : Txt.item r ((size : Int) + 5) = sign c)
  (out : Str) (hout : out = if size % 2 = 0 then quotes (size / 2) ++ sign c else quotes (size / 2)) : CK w mean mg mb 46 True [.str r t] (fun t => .str out t) := by
  w_on
  intro news
  dsimp only [CbClaim, CbLists, CbRet]
  k_fill
  intro dp un gd cn cs a ccd cl outer A₀ base h₀ L m s Q E hB hF hK hN hT hcs hpre hdp hun hret
  refine wpAny_call ?_
  k_dflt cell_enter
  iterate 15 walk_at "st1"
  rw [if_neg (by (rw [h1]; decide))]
  iterate 17 walk_at "st1"
  rw [if_neg (by (rw [h2]; decide))]
  iterate 21 walk_at "st1"
  k_with "state" => exact PInv.start _ _
  k_while (fun (_ : List Int) i d => PInv size c i d) (fun (_ : List Int) i d => (r.length - i.toNat)) "i" "dirname"
  rcases kInv with ⟨j, hi, hd, hj⟩ | ⟨j, hj, hi, hd⟩
  · subst hi hd
    iterate 6 walk_at "st1"
    rw [if_pos (by (rw [decide_eq_true_eq]; omega))]
    iterate 21 walk_at "st1"
    by_cases hlt : 2 * j < size
    · have e1 : Txt.item r (5 + 2 * (j : Int)) = Str.ofString "\"" := hq _ (by omega) (by omega)
      rw [if_pos (by (rw [e1]; decide))]
      iterate 9 walk_at "st1"
      rw [if_neg (by (rw [decide_eq_true_eq]; omega))]
      iterate 9 walk_at "st1"
      by_cases hlt2 : 2 * j + 1 < size
      · have e2 : Txt.item r (5 + 2 * (j : Int) + 1) = Str.ofString "\"" := hq _ (by omega) (by omega)
        rw [if_neg (by (rw [e2]; decide))]
        iterate 1 walk_at "st1"
        rw [if_neg (by decide)]
        k_with "state" => exact PInv.more (j := j) (by omega) (by (try dsimp only); omega) (by (try dsimp only); rw [e1])
        k_with "measure" => omega
        iterate 20 walk_at "st1"
      · have e2 : Txt.item r (5 + 2 * (j : Int) + 1) = sign c := by rw [← hm]; congr 1; omega
        rw [if_pos (by (rw [e2, bne, sign_ne hc]; decide))]
        skip
        rw [if_pos (by rfl)]
        iterate 8 walk_at "st1"
        refine cb_retS (Q := Q) hret ?_ (by k_asm) (by k_asm)
        rw [hout, if_neg (by omega), show size / 2 = j by omega]
    · have e1 : Txt.item r (5 + 2 * (j : Int)) = sign c := by rw [← hm]; congr 1; omega
      rw [if_neg (by (rw [e1, sign_ne hc]; decide))]
      k_with "state" => exact PInv.last (by omega) rfl (by rw [e1])
      k_with "measure" => omega
      iterate 12 walk_at "st1"
  · subst hi hd
    iterate 6 walk_at "st1"
    rw [if_neg (by (rw [decide_eq_true_eq]; omega))]
    iterate 4 walk_at "st1"
    refine cb_retS (Q := Q) hret ?_ (by k_asm) (by k_asm)
    rw [hout, if_pos (by omega), show size / 2 = j by omega]
end SCp
section SCn
local macro_rules | `(tactic| walk_at "binaryOp Add str str") => `(tactic| ((refine SBL.add (hsz := ?hsz) ?_); (case hsz => (simp only [Str.length_append, quotes_len, sign_len, len_item, one_len]; exact szl (by omega))); intro _ _ _))
def codeAt (p : Nat) : Nat := [173, 847, 6150, 6155, 6156, 6157, 8203, 8204, 8205, 8288, 65279].getD p 0
def noth (p : Nat) : Nat := if p % 27 < 11 then codeAt (p % 27) else 65013 + p % 27
theorem code_int : ∀ n, n < 11 → ([173, 847, 6150, 6155, 6156, 6157, 8203, 8204, 8205, 8288, 65279] : List Int).getD n 0 = (codeAt n : Int) ∧ codeAt n < 70000 := by decide
theorem nothing_ok (w : World) (mean : ExcName → Option Value) (mg mb : Str → Option Value) (p : Int) (t : Tok) (h0 : 0 ≤ p) (h1 : p < 1000) : CK w mean mg mb 159 True [.int p t] (fun t => .str (sign (noth p.toNat)) t) := by
  w_on
  intro news
  dsimp only [CbClaim, CbLists, CbRet]
  k_fill
  intro dp un gd cn cs a ccd cl outer A₀ base h₀ L m s Q E hB hF hK hN hT hcs hpre hdp hun hret
  refine wpAny_call ?_
  k_dflt cell_enter
  have hf : p.fmod 27 = ((p.toNat % 27 : Nat) : Int) := by rw [Int.fmod_eq_emod_of_nonneg _ (by decide)]; omega
  have hb : p.toNat % 27 < 27 := Nat.mod_lt _ (by decide)
  iterate 42 walk_at "st1"
  by_cases hlt : p.fmod 27 < 11
  · have h11 : p.toNat % 27 < 11 := by rw [hf] at hlt; omega
    obtain ⟨hv, hw⟩ := code_int _ h11
    have hg : ([173, 847, 6150, 6155, 6156, 6157, 8203, 8204, 8205, 8288, 65279] : List Int).getD (p.fmod 27).toNat 0 = (codeAt (p.toNat % 27) : Int) := by rw [hf]; exact hv
    rw [if_pos (by (rw [decide_eq_true_eq]; exact hlt))]
    iterate 12 walk_at "st1"
    rw [hg]
    iterate 2 walk_at "st1"
    refine cb_retS (Q := Q) hret ?_ (by k_asm) (cb_drop (by k_asm) (by kcj_all))
    unfold noth sign
    rw [if_pos h11]
    rfl
  · rw [if_neg (by (rw [decide_eq_true_eq]; exact hlt))]
    iterate 15 walk_at "st1"
    refine cb_retS (Q := Q) hret ?_ (by k_asm) (cb_drop (by k_asm) (by kcj_all))
    have h11 : ¬ p.toNat % 27 < 11 := by rw [hf] at hlt; omega
    unfold noth sign
    rw [if_neg h11, show (65013 + p.fmod 27).toNat = 65013 + p.toNat % 27 by omega]
end SCn
section SCl
local macro_rules | `(tactic| walk_at "binaryOp Add str str") => `(tactic| ((refine SBL.add (hsz := ?hsz) ?_); (case hsz => (simp only [Str.length_append, quotes_len, sign_len, len_item, one_len]; exact szl (by omega))); intro _ _ _))
def wt : List Nat → Nat
  | [] => 0
  | x :: r => (if x = 223 then 2 else 1) + wt r
theorem wt_app : ∀ a b, wt (a ++ b) = wt a + wt b
  | [], b => by simp [wt]
  | x :: r, b => by show _ + wt (r ++ b) = _; rw [wt_app r b, wt]; omega
def LInv (c₀ : Nat) (c p : Int) (d : Str) : Prop := 0 ≤ c ∧ c ≤ c₀ ∧ ∃ ws : List Nat, d = ⟨ws.toArray⟩ ∧ ws.length ≤ c₀ ∧ (∀ x ∈ ws, isLet x) ∧ (wt ws : Int) + c = c₀
theorem wt_len : ∀ ws, ws.length ≤ wt ws
  | [] => Nat.le_refl _
  | x :: r => by have := wt_len r; show r.length + 1 ≤ _ + wt r; split <;> omega
theorem LInv.start (c₀ : Nat) (p : Int) : LInv c₀ c₀ p (Str.ofString "") := ⟨by omega, by omega, [], by decide +kernel, by simp, by simp, by simp [wt]⟩
theorem LInv.step {c₀ : Nat} {c p p' : Int} {d d' : Str} (h : LInv c₀ c p d) {x : Nat} (hx : isLet x) {k : Int} (hk : k = if x = 223 then 2 else 1) (hc : k ≤ c) (hd : d' = d ++ sign x) {c' : Int} (hc' : c' = c - k) : LInv c₀ c' p' d' := by
  obtain ⟨h0, h1, ws, rfl, hl, hw, hs⟩ := h
  subst hc' hd
  have hwt : wt [x] = if x = 223 then 2 else 1 := by simp [wt]
  have h5 := wt_app ws [x]
  have h6 := wt_len (ws ++ [x])
  refine ⟨by omega, by split at hk <;> omega, ws ++ [x], ?_, ?_, ?_, ?_⟩
  · unfold sign
    show Str.mk _ = Str.mk _
    congr 1
    exact List.append_toArray ..
  · split at hk <;> simp_all <;> omega
  · intro y hy
    rcases List.mem_append.mp hy with hy | hy
    · exact hw y hy
    · rw [List.mem_singleton.mp hy]; exact hx
  · split at hk <;> simp_all <;> omega
theorem LInv.len {c₀ : Nat} {c p : Int} {d : Str} (h : LInv c₀ c p d) : d.length ≤ c₀ := by
  obtain ⟨h0, h1, ws, rfl, hl, _⟩ := h
  exact hl
theorem let_int : ∀ n, n < 4 → ([115, 83, 383, 119826] : List Int).getD n 0 = (([115, 83, 383, 119826].getD n 0 : Nat) : Int) ∧ [115, 83, 383, 119826].getD n 0 < 1114112 ∧ [115, 83, 383, 119826].getD n 0 ≠ 223 ∧ ([115, 83, 383, 119826].getD n 0 = 115 ∨ [115, 83, 383, 119826].getD n 0 = 83 ∨ [115, 83, 383, 119826].getD n 0 = 383 ∨ [115, 83, 383, 119826].getD n 0 = 119826) := by decide
theorem letters_ok (w : World) (mean : ExcName → Option Value) (mg mb : Str → Option Value) (c₀ : Nat) (hc : c₀ ≤ 10000) (p : Int) (t t' : Tok) : CR w mean mg mb 166 [.int c₀ t, .int p t'] (fun v => ∃ tk ws, v = .str ⟨ws.toArray⟩ tk ∧ (∀ x ∈ ws, isLet x) ∧ wt ws = c₀) := by
  w_on
  intro news
  k_fill
  intro dp un gd cn cs a ccd cl outer A₀ base h₀ L m s Q E hB hF hK hN hT hcs hdp hun hret
  refine wpAny_call ?_
  k_dflt cell_enter
  iterate 6 walk_at "st1"
  k_with "state" => exact LInv.start _ _
  k_while (fun (_ : List Int) c p d => LInv c₀ c p d) (fun (_ : List Int) c p d => c.toNat) "count" "pick" "text"
  rename_i c ct q qt d dt
  have hl := LInv.len kInv
  iterate 6 walk_at "st1"
  by_cases h0 : 0 < c
  · rw [if_pos (by (rw [decide_eq_true_eq]; exact h0))]
    have hq : 0 ≤ (q + 7).fmod 12 ∧ (q + 7).fmod 12 < 12 := by rw [Int.fmod_eq_emod_of_nonneg _ (by decide)]; omega
    have hn : ((q + 7).fmod 12).fmod 4 = ((((q + 7).fmod 12).fmod 4).toNat : Int) ∧ (((q + 7).fmod 12).fmod 4).toNat < 4 := by rw [Int.fmod_eq_emod_of_nonneg _ (by decide : (0:Int) ≤ 4)]; omega
    obtain ⟨hv, hv1, hv2, hv3⟩ := let_int _ hn.2
    have hvx : (([115, 83, 383, 119826] : List Int).getD (((q + 7).fmod 12).fmod 4).toNat 0).toNat = [115, 83, 383, 119826].getD (((q + 7).fmod 12).fmod 4).toNat 0 := by rw [hv]; rfl
    replace hv3 := Or.inr hv3 (a := [115, 83, 383, 119826].getD (((q + 7).fmod 12).fmod 4).toNat 0 = 223)
    iterate 21 walk_at "st1"
    by_cases h3 : ((q + 7).fmod 12).fmod 3 = 0
    · rw [if_pos (by (rw [beq_iff_eq]; exact h3))]
      iterate 6 walk_at "st1"
      by_cases h1 : 1 < c
      · rw [if_pos (by (rw [decide_eq_true_eq]; exact h1))]
        iterate 1 walk_at "st1"
        rw [if_pos (by rfl)]
        k_with "state" => exact LInv.step kInv (x := 223) (.inl rfl) rfl (by omega) rfl rfl
        k_with "measure" => omega
        iterate 26 walk_at "st1"
      · rw [if_neg (by (rw [decide_eq_true_eq]; exact h1))]
        skip
        rw [if_neg (by decide)]
        k_with "state" => exact LInv.step kInv hv3 (k := 1) (by rw [if_neg hv2]) (by omega) (by (try dsimp only); rw [hvx]; rfl) rfl
        k_with "measure" => omega
        iterate 41 walk_at "st1"
    · rw [if_neg (by (rw [beq_iff_eq]; exact h3))]
      skip
      rw [if_neg (by decide)]
      k_with "state" => exact LInv.step kInv hv3 (k := 1) (by rw [if_neg hv2]) (by omega) (by (try dsimp only); rw [hvx]; rfl) rfl
      k_with "measure" => omega
      iterate 41 walk_at "st1"
  · rw [if_neg (by (rw [decide_eq_true_eq]; exact h0))]
    iterate 5 walk_at "st1"
    obtain ⟨i0, i1, ws, hd, hl, hw, hs⟩ := kInv
    exact hret _ _ _ ⟨_, ws, by rw [hd], hw, by omega⟩ (by k_asm) (by k_asm)
end SCl
section SCm
local macro_rules | `(tactic| walk_at "binaryOp Add str str") => `(tactic| ((refine SBL.add (hsz := ?hsz) ?_); (case hsz => (simp only [Str.length_append, quotes_len, sign_len, len_item, one_len]; exact szl (by omega))); intro _ _ _))
def GInv (a b : Nat) (x y : Int) : Prop := ∃ p q : Nat, x = p ∧ y = q ∧ Nat.gcd p q = Nat.gcd a b ∧ p ≤ max a b ∧ q ≤ max a b
theorem GInv.start (a b : Nat) : GInv a b a b := ⟨a, b, rfl, rfl, rfl, Nat.le_max_left .., Nat.le_max_right ..⟩
theorem GInv.step {a b : Nat} {x y x' y' : Int} (h : GInv a b x y) (hy : 0 < y) (hx' : x' = y) (hy' : y' = x.fmod y) : GInv a b x' y' := by
  obtain ⟨p, q, rfl, rfl, hg, h1, h2⟩ := h
  have hq : 0 < q := by omega
  have := Nat.mod_lt p hq
  refine ⟨q, p % q, hx', ?_, ?_, h2, by omega⟩
  · rw [hy', Int.fmod_eq_emod_of_nonneg _ (by omega)]; rfl
  · rw [← hg, Nat.gcd_comm p q, Nat.gcd_rec q p, Nat.gcd_comm]
theorem measure_ok (w : World) (mean : ExcName → Option Value) (mg mb : Str → Option Value) (x y : Nat) (hx : x ≤ 1000) (hy : y ≤ 1000) (t t' : Tok) : CR w mean mg mb 173 [.int x t, .int y t'] (fun v => ∃ tk, v = .int (Nat.gcd x y) tk) := by
  w_on
  intro news
  k_fill
  intro dp un gd cn cs a ccd cl outer A₀ base h₀ L m s Q E hB hF hK hN hT hcs hdp hun hret
  refine wpAny_call ?_
  k_dflt cell_enter
  iterate 2 walk_at "st1"
  k_with "state" => exact GInv.start _ _
  k_while (fun (_ : List Int) a b => GInv x y a b) (fun (_ : List Int) a b => b.toNat) "one" "other"
  rename_i u ut v vt
  have hb : 0 ≤ v ∧ v ≤ 1000 ∧ 0 ≤ u ∧ u ≤ 1000 := by obtain ⟨p, q, rfl, rfl, _, h1, h2⟩ := kInv; omega
  iterate 6 walk_at "st1"
  by_cases h0 : 0 < v
  · rw [if_pos (by (rw [decide_eq_true_eq]; exact h0))]
    have hfm : 0 ≤ u.fmod v ∧ u.fmod v < v := ⟨by rw [Int.fmod_eq_emod_of_nonneg _ (by omega)]; exact Int.emod_nonneg _ (by omega), by rw [Int.fmod_eq_emod_of_nonneg _ (by omega)]; exact Int.emod_lt_of_pos _ h0⟩
    k_with "state" => exact GInv.step kInv h0 rfl rfl
    k_with "measure" => omega
    iterate 23 walk_at "st1"
  · rw [if_neg (by (rw [decide_eq_true_eq]; exact h0))]
    iterate 5 walk_at "st1"
    obtain ⟨p, q, rfl, rfl, hg, _⟩ := kInv
    exact hret _ _ _ ⟨_, by rw [← hg, show q = 0 by omega, Nat.gcd_zero_right]⟩ (by k_asm) (by k_asm)
end SCm
section SCt
local macro_rules | `(tactic| walk_at "binaryOp Add str str") => `(tactic| ((refine SBL.add (hsz := ?hsz) ?_); (case hsz => (simp only [Str.length_append, quotes_len, sign_len, len_item, one_len]; exact szl (by omega))); intro _ _ _))
def b1L : List (Int × Nat) := [(65024, 336), (65025, 337), (65026, 338), (65027, 339), (65028, 340), (65029, 341), (6150, 322), (65030, 342), (65031, 343), (65032, 344), (65033, 345), (6155, 323), (6156, 324), (6157, 325), (8203, 326), (8204, 327), (8205, 328), (65034, 346), (65035, 347), (65036, 348), (65037, 349), (65038, 350), (65039, 351), (173, 320), (847, 321), (8288, 329), (65279, 330)]
theorem b1_obj (P : Params) : (o96v14 P).data = .set (b1L.map fun x => (x.1, Value.int x.1 x.2)).toArray 29 ⟨127, #[0, 1, 2, 3, 4, 5, 6, 7, 8, 9, 10, 11, 12, 13, 14, 15, 16, 17, 18, 19, 20, 21, 22, 45, 79, 96, 127], #[], 0, !P.followText "set-order", 2, true⟩ := rfl
theorem b1_hash : ∀ x ∈ b1L, hashInt x.1 = x.1 := by decide
theorem look96 (P : Params) : (KK P).lookup 96 = some (o96v14 P) := by kernel_rfl
theorem look107 (P : Params) : (KK P).lookup 107 = some (dobj bigEs 650) := by kernel_rfl
theorem b1_set {prog : Program} {w : World} {h : Heap} (X : (KK w.params).In h) : h.SetOf (intKind prog w) 96 (fun k => decide (k ∈ b1L.map (·.1))) 27 := by
  refine ⟨_, _, _, _, X _ _ (look96 w.params), ⟨rfl, rfl, rfl⟩, b1_obj _, ?_, ?_, by decide, by rfl, rfl⟩
  · intro e he
    obtain ⟨x, hx, rfl⟩ := List.mem_map.mp he
    exact ⟨⟨x.1, isInt_self x.1 x.2, (b1_hash x hx).symm⟩, rfl⟩
  · intro k
    rw [decide_eq_true_eq]
    constructor
    · intro hk
      obtain ⟨x, hx, rfl⟩ := List.mem_map.mp hk
      exact ⟨_, List.mem_map.mpr ⟨x, hx, rfl⟩, isInt_self x.1 x.2⟩
    · rintro ⟨e, he, hk⟩
      obtain ⟨x, hx, rfl⟩ := List.mem_map.mp he
      have hk : Value.isInt k (.int x.1 x.2) = true := hk
      have this : k = x.1 := by
        unfold Value.isInt at hk
        first | exact (beq_iff_eq.mp hk).symm | exact beq_iff_eq.mp hk | exact of_decide_eq_true hk | exact (of_decide_eq_true hk).symm
      exact List.mem_map.mpr ⟨x, hx, this.symm⟩
theorem in_b1 {prog : Program} {w : World} {A : Around} {E : Value → Shared → Prop} {s : Shared} {k : Int} {t : Tok} {Q : Value → Shared → Prop} (X : (KK w.params).In s.heap) (h : Q (.bool (decide (k ∈ b1L.map (·.1)))) { s with toks := s.toks + 1 }) :
    wpAny (model prog w) A (compareOp .In (.int k t) (.ref 96)) Q E s := wpAny_inSet_of (knd := intKind prog w) (isInt_self k t) rfl (b1_set X) h
local macro_rules | `(tactic| walk_at "compareOp In int ref") => `(tactic| (refine in_b1 (Frag.In.keeps (by assumption) (Fr.keep (by assumption))) ?_))
theorem inb1_ok (w : World) (mean : ExcName → Option Value) (mg mb : Str → Option Value) (c : Nat) (hc : c < 1114112) (t : Tok) : CR w mean mg mb 106 [.str (sign c) t] (fun v => v = .bool (decide ((c : Int) ∈ b1L.map (·.1)))) := by
  w_on
  intro news
  k_fill
  intro dp un gd cn cs a ccd cl outer A₀ base h₀ L m s Q E hB hF hK hN hT hcs hdp hun hret
  refine wpAny_call ?_
  k_dflt cell_enter
  iterate 14 walk_at "st1"
  exact hret _ _ _ rfl (by k_asm) (by k_asm)
def mapC (c : Nat) : Str := if c = 34 then sign 34 else if c = 223 then ⟨#[115, 115]⟩ else ⟨#[115]⟩
theorem big_hash : ∀ e ∈ bigEs, hashInt e.hash = e.hash := by
  have h : (bigEs.all fun e => hashInt e.hash == e.hash) = true := by kernel_rfl
  exact fun e he => beq_iff_eq.mp (List.all_eq_true.mp h e he)
theorem big_int : IntEs bigEs := by
  unfold bigEs
  intro e he
  rcases List.mem_append.mp he with he | he
  · exact entsP_int _ _ e he
  · exact entsL_int _ _ e he
theorem b3_map {prog : Program} {w : World} {h : Heap} (X : (KK w.params).In h) : h.MapOf (intKind prog w) 107 (fun k => findBy Value.isInt bigEs.toArray k) := by
  refine ⟨_, _, _, X _ _ (look107 w.params), ⟨rfl, rfl, rfl⟩, rfl, fun e he => ?_, fun k => rfl⟩
  have he' : e ∈ bigEs := by simpa using he
  obtain ⟨t, ht⟩ := big_int e he'
  exact ⟨e.hash, by rw [ht]; exact isInt_self e.hash t, (big_hash e he').symm⟩
theorem get_b3 {prog : Program} {w : World} {A : Around} {E : Value → Shared → Prop} {s : Shared} {k : Int} {t : Tok} {v : Value} {Q : Value → Shared → Prop} (X : (KK w.params).In s.heap) (hv : (findBy Value.isInt bigEs.toArray k).getD .none = v) (h : Q v { s with toks := s.toks + 1 }) :
    wpAny (model prog w) A (call (.builtin "dict.get") [.ref 107, .int k t]) Q E s :=
  call_meetsIn PySem.F.slot_dict_get ⟨_, X _ _ (look107 w.params), rfl⟩ PySem.F.entry_dict_get (PySem.F.args_dict_get_2 _ _) (meets_dict_get (intKind prog w) 107 (isInt_self k t) rfl) ⟨_, b3_map X, hv ▸ h⟩
theorem meth_b3 {prog : Program} {w : World} {A : Around} {E : Value → Shared → Prop} {s : Shared} {pl : Sem Bool} {Q : Value × List Value → Shared → Prop} (X : (KK w.params).In s.heap) (h : Q (.builtin "dict.get", [.ref 107]) s) :
    wpAny (model prog w) A (getMethod (.ref 107) "get" pl) Q E s :=
  getMethod_builtin ⟨_, X _ _ (look107 w.params), rfl⟩ PySem.F.plainAttrs_dict PySem.F.slot_dict_get PySem.F.type_dict_get (b3_map (prog := prog) X).noDict h
local macro_rules | `(tactic| walk_at "getMethod ref") => `(tactic| (refine meth_b3 (Frag.In.keeps (by assumption) (Fr.keep (by assumption))) ?_))
local macro_rules | `(tactic| walk_at "call builtin:dict.get") => `(tactic| (refine get_b3 (Frag.In.keeps (by assumption) (Fr.keep (by assumption))) (by assumption) ?_))
theorem map_found (w : World) (mean : ExcName → Option Value) (mg mb : Str → Option Value) (c : Nat) (hc : c < 1114112) (t : Tok) (x : Str) (u : Tok) (hf : (findBy Value.isInt bigEs.toArray (c : Int)).getD .none = .str x u) : CR w mean mg mb 152 [.str (sign c) t] (fun v => ∃ tk, v = .str x tk) := by
  w_on
  intro news
  k_fill
  intro dp un gd cn cs a ccd cl outer A₀ base h₀ L m s Q E hB hF hK hN hT hcs hdp hun hret
  refine wpAny_call ?_
  k_dflt cell_enter
  iterate 25 walk_at "st1"
  rw [if_pos (by rfl)]
  iterate 5 walk_at "st1"
  exact hret _ _ _ ⟨_, rfl⟩ (by k_asm) (by k_asm)
local macro_rules | `(tactic| walk_at "call builtin:str.lower") => `(tactic| (refine SCL.lower (by rw [sign_len]; decide) ?_; intro _))
theorem map_none (w : World) (mean : ExcName → Option Value) (mg mb : Str → Option Value) (c : Nat) (hc : c < 1114112) (t : Tok) (x : Str) (hf : (findBy Value.isInt bigEs.toArray (c : Int)).getD .none = .none) (hx : Txt.lower (sign c) = x) : CR w mean mg mb 152 [.str (sign c) t] (fun v => ∃ tk, v = .str x tk) := by
  w_on
  intro news
  k_fill
  intro dp un gd cn cs a ccd cl outer A₀ base h₀ L m s Q E hB hF hK hN hT hcs hdp hun hret
  refine wpAny_call ?_
  k_dflt cell_enter
  iterate 25 walk_at "st1"
  rw [if_neg (by decide)]
  iterate 10 walk_at "st1"
  exact hret _ _ _ ⟨_, by rw [hx]⟩ (by k_asm) (by k_asm)
theorem find_list (k : Int) : findBy Value.isInt bigEs.toArray k = (bigEs.find? fun e => Value.isInt k e.key).map (·.val) := by simp only [findBy, List.find?_toArray]
/-- what map_table_b3 makes of the signs that the law reaches -/
theorem map_ok (w : World) (mean : ExcName → Option Value) (mg mb : Str → Option Value) (c : Nat) (t : Tok) (h : c = 34 ∨ isLet c) : CR w mean mg mb 152 [.str (sign c) t] (fun v => ∃ tk, v = .str (if c = 34 then sign 34 else if c = 223 then ⟨#[115, 115]⟩ else sign 115) tk) := by
  rcases h with rfl | rfl | rfl | rfl | rfl | rfl
  · exact map_none w mean mg mb _ (by decide) t _ (by rw [find_list]; kernel_rfl) (by decide +kernel)
  · exact map_found w mean mg mb _ (by decide) t _ 391 (by rw [find_list]; kernel_rfl)
  · exact map_none w mean mg mb _ (by decide) t _ (by rw [find_list]; kernel_rfl) (by decide +kernel)
  · exact map_none w mean mg mb _ (by decide) t _ (by rw [find_list]; kernel_rfl) (by decide +kernel)
  · exact map_found w mean mg mb _ (by decide) t _ 400 (by rw [find_list]; kernel_rfl)
  · exact map_found w mean mg mb _ (by decide) t _ 1048 (by rw [find_list]; kernel_rfl)
end SCt
section SLp
def txt (l : List Nat) : Str := ⟨l.toArray⟩
theorem txt_app (a b : List Nat) : txt a ++ txt b = txt (a ++ b) := by
  show Str.mk (a.toArray ++ b.toArray) = Str.mk _
  rw [List.append_toArray]
theorem txt_len (a : List Nat) : (txt a).length = a.length := by show a.toArray.size = _; simp
theorem txt_list (a : List Nat) : (txt a).cps.toList = a := by simp [txt]
theorem quotes_txt (n : Nat) : quotes n = txt (List.replicate n 34) := rfl
theorem sign_txt (c : Nat) : sign c = txt [c] := rfl
theorem txt_inj {a b : List Nat} (h : txt a = txt b) : a = b := by
  rw [← txt_list a, h, txt_list]
theorem mul_quotes (z : Nat) : Txt.mul (Str.ofString "\"") (z : Int) = quotes z := by
  rw [show Str.ofString "\"" = Str.mk #[34] by decide +kernel]
  refine Str.ext' (Array.toList_inj.mp ?_)
  rw [mul_one_list, Int.toNat_natCast]
  simp [quotes]
theorem mul_s (z : Nat) : Txt.mul (Str.ofString "s") (z : Int) = txt (List.replicate z 115) := by
  rw [show Str.ofString "s" = Str.mk #[115] by decide +kernel]
  refine Str.ext' (Array.toList_inj.mp ?_)
  rw [mul_one_list, Int.toNat_natCast]
  simp [txt]
theorem slice_pos (x : Str) {i j : Int} (h : 0 ≤ i ∧ i ≤ j ∧ j ≤ x.cps.toList.length) : Txt.slice x (some i) (some j) = txt ((x.cps.toList.drop i.toNat).take (j - i).toNat) := StrLaws.sliceText_plain h
theorem slice_to (x : Str) {j : Int} (h : 0 ≤ j ∧ j ≤ x.cps.toList.length) : Txt.slice x none (some j) = txt ((x.cps.toList.drop 0).take (j - 0).toNat) := StrLaws.sliceText_to h
theorem slice_to_neg (x : Str) {j : Int} (h0 : j < 0) (h1 : -(x.length : Int) ≤ j) : Txt.slice x none (some j) = txt ((x.cps.toList.drop 0).take (j + x.length - 0).toNat) := StrLaws.sliceText_to_neg h0 h1
theorem slice_from_neg (x : Str) {i : Int} (h0 : i < 0) (h1 : -(x.length : Int) ≤ i) : Txt.slice x (some i) none = txt ((x.cps.toList.drop (i + x.length).toNat).take ((x.cps.toList.length : Int) - (i + x.length)).toNat) := StrLaws.sliceText_from_neg h0 h1
theorem item_txt (l : List Nat) (i : Nat) (h : i < l.length) : Txt.item (txt l) (i : Int) = sign (l.getD i 0) := by
  rw [item_meets ⟨by omega, by rw [txt_len]; omega⟩, Int.toNat_natCast]
  simp [txt, sign, List.getD_eq_getElem?_getD, Array.getD_eq_getD_getElem?]
def repl (n c : Nat) : List Nat := [50, 53, 55, 32, 34] ++ (List.replicate n 34 ++ [c])
theorem reply_txt (n c : Nat) : reply n c = txt (repl n c) := Str.ext' (Array.toList_inj.mp (by rw [reply_list, txt_list]; rfl))
theorem repl_len (n c : Nat) : (repl n c).length = n + 6 := by simp [repl]
theorem repl_257 (n c : Nat) : Txt.slice (reply n c) none (some 3) = Str.ofString "257" := by
  rw [reply_txt, slice_to _ (by rw [txt_list, repl_len]; omega), txt_list, show Str.ofString "257" = txt [50, 53, 55] by decide +kernel]
  rfl
theorem repl_sp (n c : Nat) : Txt.slice (reply n c) (some 3) (some 5) = Str.ofString " \"" := by
  rw [reply_txt, slice_pos _ (by rw [txt_list, repl_len]; omega), txt_list, show Str.ofString " \"" = txt [32, 34] by decide +kernel]
  rfl
theorem sign_34 : sign 34 = Str.ofString "\"" := by decide +kernel
theorem repl_q (n c : Nat) (i : Int) (h0 : 5 ≤ i) (h1 : i < n + 5) : Txt.item (reply n c) i = Str.ofString "\"" := by
  obtain ⟨k, rfl⟩ : ∃ k : Nat, i = ((5 + k : Nat) : Int) := ⟨(i - 5).toNat, by omega⟩
  rw [reply_txt, item_txt _ _ (by rw [repl_len]; omega), ← sign_34]
  congr 1
  have : k < n := by omega
  simp [repl, List.getD_eq_getElem?_getD, Nat.add_comm 5 k]
  rw [List.getElem?_append_left (by simpa using this), List.getElem?_replicate, if_pos this]
  rfl
theorem repl_c (n c : Nat) : Txt.item (reply n c) ((n : Int) + 5) = sign c := by
  rw [reply_txt, show ((n : Int) + 5) = ((n + 5 : Nat) : Int) by omega, item_txt _ _ (by rw [repl_len]; omega)]
  congr 1
  simp [repl, List.getD_eq_getElem?_getD]
theorem qs_txt (n c : Nat) : quotes n ++ sign c = txt (List.replicate n 34 ++ [c]) := by rw [quotes_txt, sign_txt, txt_app]
theorem str_beq_self (x : Str) : (x == x) = true := by
  rw [beq_iff_eq]
theorem last_eq (n c : Nat) : Txt.slice (quotes n ++ sign c) (some (-1)) none = sign c := by
  rw [qs_txt, slice_from_neg _ (by decide) (by rw [txt_len]; simp; omega), txt_list, sign_txt]
  rw [txt_len, List.length_append, List.length_replicate, List.length_singleton]
  rw [show ((-1 : Int) + ((n + 1 : Nat) : Int)).toNat = n by omega, show (((n + 1 : Nat) : Int) - (-1 + ((n + 1 : Nat) : Int))).toNat = 1 by omega]
  congr 1
  rw [List.drop_append_of_le_length (by simp), List.drop_of_length_le (by simp)]
  rfl
theorem last_ne (n c : Nat) (hc : c ≠ 34) : (Txt.slice (quotes n) (some (-1)) none == sign c) = false := by
  rw [beq_eq_false_iff_ne]
  rcases n with _ | n
  · rw [show Txt.slice (quotes 0) (some (-1)) none = txt [] by decide +kernel, sign_txt]
    intro h
    exact absurd (txt_inj h) (by simp)
  · rw [quotes_txt, List.replicate_succ', ← txt_app, ← quotes_txt, ← sign_txt, last_eq, sign_txt, sign_txt]
    intro h
    have := txt_inj h
    simp at this
    exact hc this.symm
theorem cut_last (n c : Nat) : Txt.slice (quotes n ++ sign c) none (some (-1)) = quotes n := by
  rw [qs_txt, slice_to_neg _ (by decide) (by rw [txt_len]; simp; omega), txt_list, txt_len, quotes_txt]
  rw [List.length_append, List.length_replicate, List.length_singleton, show ((-1 : Int) + ((n + 1 : Nat) : Int) - 0).toNat = n by omega]
  congr 1
  rw [List.drop_zero, List.take_append_of_le_length (by simp), List.take_of_length_le (by simp)]
/-- the state of a run of marks behind t readings -/
def TInv (z t : Nat) (name : Str) (lost : Int) : Prop := name = quotes (z / 2 ^ t) ∧ lost = ((z % 2 ^ t : Nat) : Int)
theorem TInv.start (z : Nat) (name : Str) (h : name = quotes z) : TInv z 0 name 0 := ⟨by rw [h, Nat.pow_zero, Nat.div_one], by rw [Nat.pow_zero, Nat.mod_one]; rfl⟩
theorem half (z t : Nat) : z / 2 ^ (t + 1) = z / 2 ^ t / 2 := by rw [Nat.pow_succ, Nat.div_div_eq_div_mul]
theorem low (z t : Nat) : z % 2 ^ (t + 1) = z % 2 ^ t + 2 ^ t * (z / 2 ^ t % 2) := by rw [Nat.pow_succ, Nat.mod_mul]
theorem TInv.even {z t l : Nat} {lost : Int} {name : Str} (hl : l = t + 1) (h : lost = ((z % 2 ^ t : Nat) : Int)) (he : z / 2 ^ t % 2 = 0) (hn : name = quotes (z / 2 ^ t / 2)) : TInv z l name lost := by
  subst hl
  exact ⟨by rw [half]; exact hn, by rw [low, he]; simpa using h⟩
theorem TInv.odd {z t l : Nat} {lost : Int} {name : Str} (hl : l = t + 1) (h : lost = ((z % 2 ^ t : Nat) : Int) + ((2 ^ t : Nat) : Int)) (he : ¬ z / 2 ^ t % 2 = 0) (hn : name = quotes (z / 2 ^ t / 2)) : TInv z l name lost := by
  subst hl
  exact ⟨by rw [half]; exact hn, by rw [low, show z / 2 ^ t % 2 = 1 by omega, Nat.mul_one, Int.natCast_add]; exact h⟩
theorem len_257 : (Str.ofString "257 \"").length = 5 := by decide +kernel
section
variable {prog : Program} {w : World} {A : Around} {E : Value → Shared → Prop} {s : Shared} {x y v : Str} {t u : Tok} {Q : Value → Shared → Prop}
theorem adds_to (e : x ++ y = v) (hz : v.length ≤ 1000000) (h : ∀ t' k, Q (.str v t') { s with toks := k }) : wpAny (model prog w) A (binaryOp .Add (.str x t) (.str y u)) Q E s := by
  subst e
  exact SBL.add (fun t k _ => h t k) (szl (by rw [← Str.length_append]; exact hz))
end
section
variable {prog : Program} {w : World} {A : Around} {E : Value → Shared → Prop} {s : Shared} {a b v : Int} {t u : Tok} {Q : Value → Shared → Prop}
theorem fmd_to (hb : b ≠ 0) (e : a.fmod b = v) (h : Q (.int v s.toks) { s with toks := s.toks + 1 }) : wpAny (model prog w) A (binaryOp .Mod (.int a t) (.int b u)) Q E s := by subst e; exact PyProof.Rows.mod_int hb h
end
end SLp
section SLa
theorem mod_nat (a k : Int) (h : 0 < k) : ∃ r : Nat, a.fmod k = r ∧ (r : Int) < k := by
  have h1 := Int.fmod_nonneg_of_pos a h
  have h2 := Int.fmod_lt_of_pos a h
  exact ⟨(a.fmod k).toNat, by omega, by omega⟩
theorem one_mod_nat (a k : Int) (h : 0 < k) : ∃ r : Nat, 1 + a.fmod k = r ∧ 1 ≤ r ∧ (r : Int) ≤ k := by
  obtain ⟨r, h1, h2⟩ := mod_nat a k h
  exact ⟨1 + r, by omega, by omega, by omega⟩
theorem p60 : (10 : Int) ^ Int.toNat 60 = ((10 ^ 60 : Nat) : Int) := by decide +kernel
theorem unit_nat (a : Int) : ∃ u : Nat, 1 + a.fmod (10 ^ Int.toNat 60) = (u : Int) ∧ 1 ≤ u ∧ u ≤ 10 ^ 60 := by
  obtain ⟨r, h1, h2, h3⟩ := one_mod_nat a (10 ^ Int.toNat 60) (by rw [p60]; exact Int.natCast_pos.mpr (Nat.pow_pos (by decide)))
  rw [p60] at h3
  exact ⟨r, h1, h2, Int.ofNat_le.mp h3⟩
theorem moved_b (a : Int) : ∃ v : Int, a.fmod 201 - 100 = v ∧ -100 ≤ v ∧ v ≤ 100 := by
  obtain ⟨r, h1, h2⟩ := mod_nat a 201 (by decide)
  exact ⟨_, rfl, by omega, by omega⟩
theorem side_b (a : Int) : ∃ v : Int, 1 - a.fmod 2 * 2 = v ∧ (v = 1 ∨ v = -1) := by
  obtain ⟨r, h1, h2⟩ := mod_nat a 2 (by decide)
  exact ⟨_, rfl, by omega⟩
theorem two_b {M τ : Nat} (h : M = 2 ^ τ) (h1 : 1 ≤ τ) (h2 : (τ : Int) ≤ 3) : 2 ≤ M ∧ M ≤ 8 := by
  have : τ = 1 ∨ τ = 2 ∨ τ = 3 := by omega
  rcases this with rfl | rfl | rfl <;> subst h <;> decide
theorem law_frame {h₀ h : Heap} {L : Addr} {π ρ u χ ν M τ : Nat} {δ μ : Int} {tl : Str → Option Value} {ta tb tc td te tf tg th ti tj : Tok}
    (F : Fr h₀ L h (fun y => if y = Str.ofString "text" then some (.str (Str.ofString "") ta) else if y = Str.ofString "pick" then some (.int π tb) else if y = Str.ofString "side" then some (.int δ tc) else if y = Str.ofString "moved" then some (.int μ td) else if y = Str.ofString "rest" then some (.int ρ te) else if y = Str.ofString "unit" then some (.int u tf) else if y = Str.ofString "x" then some (.int χ tg) else if y = Str.ofString "n" then some (.int ν th) else if y = Str.ofString "m" then some (.int M ti) else if y = Str.ofString "turns" then some (.int τ tj) else tl y)) : ∃ (tl : Str → Option Value) (ta tb tc td te tf tg th ti tj : Tok), Fr h₀ L h (fun y => if y = Str.ofString "text" then some (.str (Str.ofString "") ta) else if y = Str.ofString "pick" then some (.int π tb) else if y = Str.ofString "side" then some (.int δ tc) else if y = Str.ofString "moved" then some (.int μ td) else if y = Str.ofString "rest" then some (.int ρ te) else if y = Str.ofString "unit" then some (.int u tf) else if y = Str.ofString "x" then some (.int χ tg) else if y = Str.ofString "n" then some (.int ν th) else if y = Str.ofString "m" then some (.int M ti) else if y = Str.ofString "turns" then some (.int τ tj) else tl y) := ⟨_, _, _, _, _, _, _, _, _, _, _, F⟩
theorem two_nat (τ : Nat) : ∃ M : Nat, ((2 : Int) ^ (τ : Int).toNat) = (M : Int) ∧ M = 2 ^ τ := ⟨2 ^ τ, by simp, rfl⟩
end SLa
section SLb
def runs (ν χ M π : Nat) : Nat → List Nat
  | 0 => []
  | k + 1 => runs ν χ M π k ++ (List.replicate ((ν * k + χ) / M) 34 ++ [noth (π + k)])
theorem runs_len (ν χ M π : Nat) (h1 : ν ≤ 7) (h3 : χ ≤ 11) : ∀ k, k ≤ 8 → (runs ν χ M π k).length ≤ 61 * k
  | 0, _ => Nat.le_refl 0
  | k + 1, h => by
    have ih := runs_len ν χ M π h1 h3 k (by omega)
    have h2 : (ν * k + χ) / M ≤ 60 := Nat.le_trans (Nat.div_le_self _ _) (by have := Nat.mul_le_mul h1 (show k ≤ 7 by omega); omega)
    show (runs ν χ M π k ++ _).length ≤ _
    rw [List.length_append, List.length_append, List.length_replicate, List.length_singleton]
    omega
theorem noth_ne (p : Nat) : noth p ≠ 34 := by
  unfold noth
  have h : ∀ n, n < 11 → codeAt n ≠ 34 := by decide
  split
  · exact h _ (by omega)
  · omega
theorem size_le {ν k χ : Nat} (h1 : ν ≤ 7) (h2 : k ≤ 7) (h3 : χ ≤ 11) : ν * k + χ ≤ 60 := by
  have := Nat.mul_le_mul h1 h2
  omega
end SLb
section SLc
theorem runs_next {ν χ M π z q c : Nat} {l : List Int} {x : Int} (hz : ν * l.length + χ = z) (hq : z / M = q) (hc : noth (π + l.length) = c) : txt (runs ν χ M π l.length ++ List.replicate q 34 ++ [c]) = txt (runs ν χ M π (l ++ [x]).length) := by
  rw [List.length_append, List.length_singleton]
  show _ = txt (runs ν χ M π l.length ++ (List.replicate ((ν * l.length + χ) / M) 34 ++ [noth (π + l.length)]))
  rw [hz, hq, hc, List.append_assoc]
end SLc
section SLq
theorem bits_abs {a : Int} (h : a.natAbs ≤ 10 ^ 100) : Builtin.Int.intBits a ≤ 10000 :=
  Nat.le_trans (PySem.intBits_le_iff (m := 400).mpr (Nat.lt_of_le_of_lt h (by decide +kernel))) (by decide)
theorem abs_mul_le {a b : Int} {x y : Nat} (h1 : a.natAbs ≤ x) (h2 : b.natAbs ≤ y) : (a * b).natAbs ≤ x * y := by
  rw [Int.natAbs_mul]; exact Nat.mul_le_mul h1 h2
theorem abs_add_le {a b : Int} {x y : Nat} (h1 : a.natAbs ≤ x) (h2 : b.natAbs ≤ y) : (a + b).natAbs ≤ x + y := Nat.le_trans (Int.natAbs_add_le a b) (Nat.add_le_add h1 h2)
structure Nums (M ν u ρ z : Nat) (δ μ : Int) : Prop where
  m1 : (M : Int).natAbs ≤ 8
  n1 : (ν : Int).natAbs ≤ 7
  v1 : μ.natAbs ≤ 100
  u1 : (u : Int).natAbs ≤ 10 ^ 60
  r1 : (ρ : Int).natAbs ≤ 10 ^ 60
  z1 : (z : Int).natAbs ≤ 60
  d1 : δ.natAbs ≤ 1
  mn : ((M : Int) * ν).natAbs ≤ 8 * 7
  mnv : ((M : Int) * ν * μ).natAbs ≤ 8 * 7 * 100
  s1 : ((z : Int) + (M : Int) * ν * μ).natAbs ≤ 60 + 8 * 7 * 100
  su : (((z : Int) + (M : Int) * ν * μ) * u).natAbs ≤ (60 + 8 * 7 * 100) * 10 ^ 60
  sr : (((z : Int) + (M : Int) * ν * μ) * u + ρ).natAbs ≤ (60 + 8 * 7 * 100) * 10 ^ 60 + 10 ^ 60
  dn : (δ * ν).natAbs ≤ 1 * 7
theorem nums {M ν u ρ z : Nat} {δ μ : Int} (hM : M ≤ 8) (hν : ν ≤ 7) (hμ : μ.natAbs ≤ 100) (hu : u ≤ 10 ^ 60) (hρ : ρ ≤ 10 ^ 60) (hz : z ≤ 60) (hδ : δ.natAbs ≤ 1) : Nums M ν u ρ z δ μ := by
  have m1 : (M : Int).natAbs ≤ 8 := hM
  have n1 : (ν : Int).natAbs ≤ 7 := hν
  have mn := abs_mul_le m1 n1
  have mnv := abs_mul_le mn hμ
  have s1 := abs_add_le (a := (z : Int)) (x := 60) hz mnv
  have su := abs_mul_le s1 (b := (u : Int)) (y := 10 ^ 60) hu
  exact ⟨m1, n1, hμ, hu, hρ, hz, hδ, mn, mnv, s1, su, abs_add_le su (b := (ρ : Int)) (y := 10 ^ 60) hρ, abs_mul_le hδ n1⟩
theorem big_ok {x : Nat} (h : x ≤ 10 ^ 80) : x ≤ 10 ^ 100 := Nat.le_trans h (Nat.pow_le_pow_right (by decide) (by decide))
theorem size_le2 {M i χ : Nat} (h1 : M ≤ 8) (h2 : i ≤ 6) (h3 : χ ≤ 11) : M * i + χ ≤ 60 := by
  have := Nat.mul_le_mul h1 h2
  omega
theorem ten80 : (60 + 8 * 7 * 100) * 10 ^ 60 + 10 ^ 60 ≤ 10 ^ 80 := by decide +kernel
theorem small_ok {x : Nat} (h : x ≤ 10000) : x ≤ 10 ^ 100 := Nat.le_trans h (by decide +kernel)
theorem b300 {ν u : Nat} (h1 : ν ≤ 7) (h2 : u ≤ 10 ^ 60) : ν * u < 2 ^ 300 := Nat.lt_of_le_of_lt (Nat.mul_le_mul h1 h2) (by decide +kernel)
/-- what the division makes -/
theorem div_law {M ν u ρ z : Nat} {μ : Int} (hν : 0 < ν) (hu : 0 < u) (hρ : ρ < u) :
    (((z : Int) + (M : Int) * ν * μ) * u + ρ).fdiv ((ν * u : Nat) : Int) = ((z / ν : Nat) : Int) + M * μ ∧ (((z : Int) + (M : Int) * ν * μ) * u + ρ).fmod ((ν * u : Nat) : Int) = ((z % ν * u + ρ : Nat) : Int) := by
  have h := Nat.div_add_mod z ν
  have h2 := Nat.mod_lt z hν
  have hlt : z % ν * u + ρ < ν * u := by
    have := Nat.mul_le_mul_right u (show z % ν + 1 ≤ ν from h2)
    rw [Nat.add_mul] at this; omega
  have e : ((z : Int) + (M : Int) * ν * μ) * u + ρ = ((z % ν * u + ρ : Nat) : Int) + ((ν * u : Nat) : Int) * (((z / ν : Nat) : Int) + M * μ) := by
    conv => lhs; rw [← h]
    push_cast
    simp only [Int.add_mul, Int.mul_add]
    have e1 : (M : Int) * ν * μ * u = ν * u * (M * μ) := by
      rw [Int.mul_comm (M : Int) ν, Int.mul_assoc, Int.mul_assoc, Int.mul_assoc, Int.mul_comm (μ) (u : Int), Int.mul_left_comm (M : Int) u μ]
    have e2 : (ν : Int) * (z / ν) * u = ν * u * (z / ν) := by
      rw [Int.mul_assoc, Int.mul_comm ((z : Int) / ν) u, Int.mul_assoc]
    omega
  have hb : ((ν * u : Nat) : Int) ≠ 0 := by have := Nat.mul_pos hν hu; omega
  rw [e, Int.add_mul_fdiv_left _ _ hb, Int.add_mul_fmod_self_left, fdiv_nat, fmod_nat, Nat.div_eq_of_lt hlt, Nat.mod_eq_of_lt hlt]
  simp
theorem div_small {M ν u ρ z : Nat} {δ μ : Int} (N : Nums M ν u ρ z δ μ) (hν : 0 < ν) (hu : 0 < u) (hρ : ρ < u) :
    (((z : Int) + (M : Int) * ν * μ) * u + ρ) < 8192 * ((ν * u : Nat) : Int) ∧ -(8192 * ((ν * u : Nat) : Int)) ≤ (((z : Int) + (M : Int) * ν * μ) * u + ρ) := by
  have h := N.s1
  generalize (z : Int) + (M : Int) * ν * μ = S at *
  have h1 : (S * u).natAbs ≤ 5660 * u := by rw [Int.natAbs_mul]; exact Nat.mul_le_mul_right _ h
  have h2 : u ≤ ν * u := Nat.le_mul_of_pos_left _ hν
  omega
end SLq
section SLr
section
variable {prog : Program} {w : World} {A : Around} {E : Value → Shared → Prop} {s : Shared} {env : Env} {h₀ : Heap} {x : Str} {body : List Stmt} {Q : Flow → Shared → Prop}
/-- a loop over a range: the state is told by a word, the ledger may turn -/
theorem krg_state {σ : Type} {r : Addr} {a₀ b₀ : Int} {t₀ u₀ v₀ : Tok} {n : Nat} {m₀ : Str → Option Value} (Led : σ → List (Addr × Obj)) (ps : σ → List (Str × Value)) (Facts : σ → Prop) (stored : List Str) (P : Nat → σ → Prop) (c₀ : σ)
    (hh : A.handled = none) (hr : IsRange s.heap r a₀ b₀ 1 t₀ u₀ v₀) (hsmall : Builtin.Range.small a₀ b₀ 1 = true) (hn : Builtin.Range.rangeSize a₀ b₀ 1 = (n : Int)) (F : Fr h₀ env.locals s.heap m₀) (N : News h₀ env.locals s.heap (Led c₀)) (hf : Facts c₀) (hk : ∀ p ∈ ps c₀, m₀ p.1 = some p.2) (hp : P 0 c₀)
    (turn : ∀ (c : σ) (i : Nat) t (u : Str → Option Value) (I : Nat) h tk, i < n → (∀ p ∈ Led c₀, @LT.lt Nat _ p.1 I) → Facts c → P i c →
      Fr h₀ env.locals h (fun y => if y = x then some (.int (a₀ + (i : Int)) t) else kstB (fun z => if stored.contains z then u z else m₀ z) (ps c) y) → News h₀ env.locals h ((I, itR (a₀ + ((i + 1 : Nat) : Int)) ((n : Int) - ((i + 1 : Nat) : Int))) :: Led c) →
      wpAny (model prog w) A (execs body env) (UnrPost h₀ env.locals { s with heap := h, toks := tk } I (itR (a₀ + ((i + 1 : Nat) : Int)) ((n : Int) - ((i + 1 : Nat) : Int))) (fun m' n' => ∃ c', n' = Led c' ∧ Facts c' ∧ (∀ p ∈ ps c', m' p.1 = some p.2) ∧ (∀ z, z ≠ x → (∀ p ∈ ps c', z ≠ p.1) → stored.contains z = false → m' z = m₀ z) ∧ P (i + 1) c') Q) E { s with heap := h, toks := tk })
    (done : ∀ (c : σ) (u : Str → Option Value) h tk, Facts c → P n c → Fr h₀ env.locals h (fun y => if y = x then u y else kstB (fun z => if stored.contains z then u z else m₀ z) (ps c) y) → News h₀ env.locals h (Led c) → Q .next { s with heap := h, toks := tk }) :
    wpAny (model prog w) A (pyIter (.ref r)) (fun it s₂ => LoopAtV prog w A h₀ env x body Q E it s₂) E s := by
  have key : ∀ (I : Nat), (∀ p ∈ Led c₀, @LT.lt Nat _ p.1 I) → ∀ (k i : Nat) (c : σ) (m₁ : Str → Option Value), i + k = n → Facts c → P i c → (∀ p ∈ ps c, m₁ p.1 = some p.2) → (∀ z, z ≠ x → (∀ p ∈ ps c, z ≠ p.1) → stored.contains z = false → m₁ z = m₀ z) →
      RangeRest prog w A E h₀ env x body Q s I a₀ n k i m₁ (Led c) := by
    intro I hI k
    induction k with
    | zero =>
      intro i c m₁ hik hf hp h1 h2
      obtain rfl : i = n := by omega
      exact RangeRest.zero fun h tk F' N' => done c m₁ h tk hf hp (kst_frOut h1 h2 F') N'
    | succ k ih =>
      intro i c m₁ hik hf hp h1 h2
      refine RangeRest.succ fun t h tk F' N' => ?_
      refine wpAny_mono (turn c i t m₁ I h tk (by omega) hI hf hp (kst_fr h1 h2 F') N') (fun f s₂ q => ?_) fun _ _ e => e
      have up : UnrEnd h₀ env.locals { s with heap := h, toks := tk } I (itR (a₀ + ((i + 1 : Nat) : Int)) ((n : Int) - ((i + 1 : Nat) : Int))) (fun m' n' => ∃ c', n' = Led c' ∧ Facts c' ∧ (∀ p ∈ ps c', m' p.1 = some p.2) ∧ (∀ z, z ≠ x → (∀ p ∈ ps c', z ≠ p.1) → stored.contains z = false → m' z = m₀ z) ∧ P (i + 1) c') s₂ →
          UnrEnd h₀ env.locals { s with heap := h, toks := tk } I (itR (a₀ + ((i + 1 : Nat) : Int)) ((n : Int) - ((i + 1 : Nat) : Int))) (RangeRest prog w A E h₀ env x body Q s I a₀ n k (i + 1)) s₂ := by
        rintro ⟨h', tk', m', n', e1, F2, N2, ho, c', rfl, f1, f2, f3, f4⟩
        exact ⟨h', tk', m', _, e1, F2, N2, ho, ih (i + 1) c' m' (by omega) f1 f4 f2 f3⟩
      cases f with
      | ret v => exact q
      | brk => exact q
      | next => exact up q
      | cont => exact up q
  exact iter_rangeUnr hh hr hsmall hn F N fun I hI => key I hI n 0 c₀ m₀ (by omega) hf hp hk fun _ _ _ _ => rfl
end
theorem tab_off {P : Nat} {q : Str} {l c : Int} {t : List (Addr × Obj)} (h : TabOk P q l c t) {h₀ h' : Heap} {L : Addr} {I : Nat} {a b : Int} {all : List (Addr × Obj)} (N : News h₀ L h' all) (hI : (I, itR a b) ∈ all) (ht : ∀ p ∈ t, p ∈ all) (hP : P < I) : ∀ p ∈ t, p.1 ≠ I := by
  rcases h with rfl | ⟨c', oc, vs, tk, rfl, h1, h2, h3⟩
  · intro p hp
    rw [List.mem_singleton.mp hp]
    exact Nat.ne_of_lt hP
  · intro p hp
    rcases List.mem_cons.mp hp with rfl | hp
    · exact Nat.ne_of_lt hP
    · have e := List.mem_singleton.mp hp
      subst e
      intro hc
      have g1 := (N _ (ht _ (.tail _ (.head _)))).1
      have g2 := (N _ hI).1
      have hc' : c' = I := hc
      rw [hc'] at g1
      have g3 : oc = itR a b := Option.some.inj (g1.symm.trans g2)
      rw [g3] at h2
      have g4 : (Data.fields #[rawInt a, rawInt b, rawInt 1]) = .fields vs := h2
      injection g4 with g5
      rw [← g5] at h3
      have g6 : rawInt b = .str q tk := Option.some.inj h3
      exact absurd g6 (by intro h; cases h)
def inB1 (c : Nat) : Bool := decide ((c : Int) ∈ b1L.map (·.1))
theorem noth_b1 (p : Nat) : inB1 (noth p) = true := by
  have h : ∀ n, n < 27 → inB1 (if n < 11 then codeAt n else 65013 + n) = true := by decide
  exact h _ (Nat.mod_lt p (by decide))
def prep : List Nat → List Nat
  | [] => []
  | c :: r => (if inB1 c then [] else if c = 34 then [34] else if c = 223 then [115, 115] else [115]) ++ prep r
theorem prep_app : ∀ a b, prep (a ++ b) = prep a ++ prep b
  | [], b => rfl
  | c :: r, b => by show _ ++ prep (r ++ b) = _; rw [prep_app r b, ← List.append_assoc]; rfl
theorem prep_one (c : Nat) : prep [c] = if inB1 c then [] else if c = 34 then [34] else if c = 223 then [115, 115] else [115] := by show _ ++ [] = _; rw [List.append_nil]
theorem prep_noth (p : Nat) : prep [noth p] = [] := by rw [prep_one, noth_b1]; rfl
theorem prep_34 : ∀ n, prep (List.replicate n 34) = List.replicate n 34
  | 0 => rfl
  | n + 1 => by
    rw [List.replicate_succ]
    show _ ++ prep _ = _
    rw [prep_34 n, show inB1 34 = false by decide]; rfl
theorem let_b1 {c : Nat} (h : isLet c) : inB1 c = false ∧ c ≠ 34 := by
  rcases h with rfl | rfl | rfl | rfl | rfl <;> decide
theorem prep_let : ∀ ws : List Nat, (∀ x ∈ ws, isLet x) → prep ws = List.replicate (wt ws) 115
  | [], _ => rfl
  | c :: r, h => by
    have h1 := let_b1 (h c (.head _))
    show _ ++ prep r = List.replicate (_ + wt r) 115
    rw [prep_let r fun x hx => h x (.tail _ hx), h1.1, if_neg Bool.false_ne_true, if_neg h1.2, ← List.replicate_append_replicate]
    split <;> rfl
/-- the sum of the whole parts -/
def cnt (m n x : Nat) : Nat → Nat
  | 0 => 0
  | k + 1 => cnt m n x k + (n * k + x) / m
theorem prep_runs (ν χ M π : Nat) : ∀ k, prep (runs ν χ M π k) = List.replicate (cnt M ν χ k) 34
  | 0 => rfl
  | k + 1 => by
    show prep (runs ν χ M π k ++ (_ ++ [_])) = _
    rw [prep_app, prep_app, prep_noth, prep_34, prep_runs ν χ M π k, List.append_nil, List.replicate_append_replicate]
    rfl
def okc (c : Nat) : Prop := c < 1114112 ∧ (inB1 c = true ∨ (inB1 c = false ∧ (c = 34 ∨ isLet c)))
theorem ok_34 : okc 34 := ⟨by decide, .inr ⟨by decide, .inl rfl⟩⟩
theorem ok_let {c : Nat} (h : isLet c) : okc c := ⟨by rcases h with rfl | rfl | rfl | rfl | rfl <;> decide, .inr ⟨(let_b1 h).1, .inr h⟩⟩
theorem ok_noth (p : Nat) : okc (noth p) := by
  have h : ∀ n, n < 27 → (if n < 11 then codeAt n else 65013 + n) < 1114112 := by decide
  exact ⟨h _ (Nat.mod_lt p (by decide)), .inl (noth_b1 p)⟩
theorem ok_runs (ν χ M π : Nat) : ∀ k, ∀ c ∈ runs ν χ M π k, okc c
  | 0, _, h => nomatch h
  | k + 1, c, h => by
    rcases List.mem_append.mp h with h | h
    · exact ok_runs ν χ M π k c h
    · rcases List.mem_append.mp h with h | h
      · rw [(List.mem_replicate.mp h).2]; exact ok_34
      · rw [List.mem_singleton.mp h]; exact ok_noth _
/-- the text behind i divisions -/
def DInv (ν χ M π : Nat) (i : Nat) (text : Str) : Prop := ∃ us : List Nat, text = txt (runs ν χ M π M ++ us) ∧ us.length ≤ 61 * i ∧ (∀ c ∈ us, okc c) ∧ prep us = List.replicate (cnt ν M χ i) 115
theorem DInv.start (ν χ M π : Nat) (text : Str) (h : text = txt (runs ν χ M π M)) : DInv ν χ M π 0 text := ⟨[], by rw [List.append_nil]; exact h, Nat.le_refl _, (fun c h => nomatch h), rfl⟩
theorem DInv.len {ν χ M π i : Nat} {text : Str} (h : DInv ν χ M π i text) (hi : i ≤ 8) (h1 : ν ≤ 7) (h2 : M ≤ 8) (h3 : χ ≤ 11) : text.length ≤ 1000 := by
  obtain ⟨us, rfl, hl, _⟩ := h
  have := runs_len ν χ M π h1 h3 M h2
  rw [txt_len, List.length_append]; omega
theorem DInv.step {ν χ M π i e : Nat} {text text' : Str} (h : DInv ν χ M π i text) (ws : List Nat) (he : (M * i + χ) / ν = e) (he2 : e ≤ 60) (hw : ∀ x ∈ ws, isLet x) (hs : wt ws = e) (ht : text' = text ++ txt ws ++ sign (noth (π + i))) : DInv ν χ M π (i + 1) text' := by
  obtain ⟨us, rfl, hl, hc, hp⟩ := h
  refine ⟨us ++ ws ++ [noth (π + i)], ?_, ?_, ?_, ?_⟩
  · rw [ht, sign_txt, txt_app, txt_app]; simp
  · have := wt_len ws
    rw [List.length_append, List.length_append, List.length_singleton]; omega
  · intro c h
    rcases List.mem_append.mp h with h | h
    · rcases List.mem_append.mp h with h | h
      · exact hc c h
      · exact ok_let (hw c h)
    · rw [List.mem_singleton.mp h]; exact ok_noth _
  · rw [prep_app, prep_app, prep_noth, hp, prep_let ws hw, hs, List.append_nil, List.replicate_append_replicate]
    show _ = List.replicate (cnt ν M χ i + (M * i + χ) / ν) 115
    rw [he]
end SLr
section SLs
theorem DInv.fin {ν χ M π i : Nat} {text : Str} (h : DInv ν χ M π i text) (hi : i ≤ 8) (h1 : ν ≤ 7) (h2 : M ≤ 8) (h3 : χ ≤ 11) :
    ∃ cs : List Nat, text = txt cs ∧ cs.length ≤ 1000 ∧ (∀ c ∈ cs, okc c) ∧ prep cs = List.replicate (cnt M ν χ M) 34 ++ List.replicate (cnt ν M χ i) 115 := by
  have hl := h.len hi h1 h2 h3
  obtain ⟨us, rfl, _, hc, hp⟩ := h
  refine ⟨_, rfl, by rw [txt_len] at hl; exact hl, ?_, ?_⟩
  · intro c h
    rcases List.mem_append.mp h with h | h
    · exact ok_runs _ _ _ _ _ c h
    · exact hc c h
  · rw [prep_app, prep_runs, hp]
theorem codes_txt (cs : List Nat) : KStt.codes (txt cs) = cs.map fun c : Nat => (c : Int) := by
  unfold KStt.codes; rw [txt_list]
theorem code_mem {cs : List Nat} {pre post : List Int} {n : Nat} (h : KStt.codes (txt cs) = pre ++ (n : Int) :: post) : n ∈ cs := by
  rw [codes_txt] at h
  have : (n : Int) ∈ cs.map fun c : Nat => (c : Int) := by rw [h]; simp
  obtain ⟨c, hc, e⟩ := List.mem_map.mp this
  have : c = n := by omega
  exact this ▸ hc
theorem code_len {cs : List Nat} {pre post : List Int} {n : Nat} (h : KStt.codes (txt cs) = pre ++ (n : Int) :: post) : pre.length < cs.length := by
  rw [codes_txt] at h
  have := congrArg List.length h
  rw [List.length_map, List.length_append, List.length_cons] at this
  omega
def nats (pre : List Int) : List Nat := pre.map Int.toNat
theorem nats_codes (cs : List Nat) : nats (KStt.codes (txt cs)) = cs := by
  rw [codes_txt]
  unfold nats
  rw [List.map_map]
  exact (List.map_congr_left (g := id) fun c _ => Int.toNat_natCast c).trans (List.map_id _)
theorem nats_snoc (pre : List Int) (n : Nat) : nats (pre ++ [(n : Int)]) = nats pre ++ [n] := by
  unfold nats; rw [List.map_append]; rfl
theorem prep_len : ∀ cs, (prep cs).length ≤ 2 * cs.length
  | [] => Nat.le_refl _
  | c :: r => by
    have ih := prep_len r
    show (_ ++ prep r).length ≤ _
    rw [List.length_append, List.length_cons]
    split
    · simp; omega
    · split
      · simp; omega
      · split <;> simp <;> omega
theorem nats_len (pre : List Int) : (nats pre).length = pre.length := by unfold nats; rw [List.length_map]
def fold (c : Nat) : Str := if c = 34 then sign 34 else if c = 223 then ⟨#[115, 115]⟩ else sign 115
theorem fold_len (c : Nat) : (fold c).length ≤ 2 := by
  unfold fold
  split
  · decide
  · split <;> decide
theorem prep_skip {pre : List Int} {n : Nat} {text : Str} (h : text = txt (prep (nats pre))) (hn : inB1 n = true) : text = txt (prep (nats (pre ++ [(n : Int)]))) := by
  rw [nats_snoc, prep_app, prep_one, if_pos hn, List.append_nil]; exact h
theorem prep_take {pre : List Int} {n : Nat} {text : Str} (h : text = txt (prep (nats pre))) (hn : inB1 n = false) : text ++ fold n = txt (prep (nats (pre ++ [(n : Int)]))) := by
  rw [nats_snoc, prep_app, prep_one, if_neg (by rw [hn]; decide), h, ← txt_app]
  congr 1
  unfold fold
  split
  · rfl
  · split <;> rfl
/-- one rule for both rows -/
theorem rule_all : ∀ M ∈ [2, 4, 8], ∀ ν, ν < 7 → ∀ χ, χ < 12 →
    cnt M (ν + 1) χ M = Nat.gcd M (ν + 1) * (χ / Nat.gcd M (ν + 1)) + ((M - 1) * ν + Nat.gcd M (ν + 1) - 1) / 2 ∧ cnt (ν + 1) M χ (ν + 1) = Nat.gcd M (ν + 1) * (χ / Nat.gcd M (ν + 1)) + ((M - 1) * ν + Nat.gcd M (ν + 1) - 1) / 2 := by decide +kernel
theorem rule {τ M ν χ : Nat} (hM : M = 2 ^ τ) (h1 : 1 ≤ τ) (h2 : τ ≤ 3) (h3 : 1 ≤ ν) (h4 : ν ≤ 7) (h5 : χ ≤ 11) :
    cnt M ν χ M = Nat.gcd M ν * (χ / Nat.gcd M ν) + ((M - 1) * (ν - 1) + Nat.gcd M ν - 1) / 2 ∧ cnt ν M χ ν = Nat.gcd M ν * (χ / Nat.gcd M ν) + ((M - 1) * (ν - 1) + Nat.gcd M ν - 1) / 2 := by
  obtain ⟨k, rfl⟩ : ∃ k, ν = k + 1 := ⟨ν - 1, by omega⟩
  refine rule_all M ?_ k (by omega) χ (by omega)
  have : τ = 1 ∨ τ = 2 ∨ τ = 3 := by omega
  rcases this with rfl | rfl | rfl <;> subst hM <;> decide
theorem end_eq (n : Nat) : txt (List.replicate n 34 ++ List.replicate n 115) = Txt.mul (Str.ofString "\"") (n : Int) ++ Txt.mul (Str.ofString "s") (n : Int) := by
  rw [mul_quotes, mul_s, quotes_txt, txt_app]
end SLs
section SLf
theorem news_rot {h₀ h : Heap} {L : Addr} {p : Addr × Obj} {t1 t2 : List (Addr × Obj)} (N : News h₀ L h (p :: (t1 ++ (t2 ++ [])))) : News h₀ L h (t1 ++ (t2 ++ [p])) := cb_drop N fun q hq => by
  simp only [List.mem_cons, List.mem_append, List.not_mem_nil, or_false] at hq ⊢
  rcases hq with h | h | h <;> simp [h]
theorem sub_end (p r : Addr × Obj) (t1 t2 : List (Addr × Obj)) : ∀ q ∈ p :: (t1 ++ (t2 ++ [])), q ∈ r :: (t1 ++ (t2 ++ [p])) := fun q hq => by
  simp only [List.mem_cons, List.mem_append, List.not_mem_nil, or_false] at hq ⊢
  rcases hq with h | h | h <;> simp [h]
theorem int_eq_bne {a b : Int} (h : a = b) : ¬ ((a != b) = true) := by rw [h]; simp
end SLf
section SLg
theorem tab_memO {P : Nat} {q : Str} {l c : Int} {t : List (Addr × Obj)} (h : TabOk P q l c t) : ∃ ps, (P, tabObj ps) ∈ t := by
  rcases h with rfl | ⟨c', oc, vs, tk, rfl, _⟩
  · exact ⟨_, .head _⟩
  · exact ⟨_, .head _⟩
theorem inb1_ok2 (w : World) (mean : ExcName → Option Value) (mg mb : Str → Option Value) (c : Nat) (hc : c < 1114112) (t : Tok) : CR w mean mg mb 106 [.str (sign c) t] (fun v => v = .bool (inB1 c)) := inb1_ok w mean mg mb c hc t
theorem map_ok2 (w : World) (mean : ExcName → Option Value) (mg mb : Str → Option Value) (c : Nat) (t : Tok) (h : c = 34 ∨ isLet c) : CR w mean mg mb 152 [.str (sign c) t] (fun v => ∃ tk, v = .str (fold c) tk) := map_ok w mean mg mb c t h
end SLg
section SMain
local macro_rules | `(tactic| walk_at "binaryOp Add str str") => `(tactic| ((refine SBL.add (hsz := ?hsz) ?_); (case hsz => (simp only [Str.length_append, quotes_len, sign_len, len_item, one_len]; exact szl (by omega))); intro _ _ _))
local macro_rules | `(tactic| size_fits) => `(tactic| ((simp only [Str.length_append, quotes_len, sign_len]); exact szl (by omega)))
local macro_rules | `(tactic| kst_in) => `(tactic| ((try dsimp only); (try simp only [List.nil_append, List.cons_append]); kst_anyIn))
theorem holds_all : PySem.Challenge.rw_ul0026_01.Holds := by
  w_on
  o_law
  refine holds_open (q := qv) (loose := looseN) (Xt := fun s => xlAt qv [] s && recOk [] s) (XP := XL qv []) (Yf := (kHook KK KA KA_eq).obs) (Ya := (kHook KK KA KA_eq).val) (YP := (kHook KK KA KA_eq).says) (N := 60000) left (kHook KK KA KA_eq).of (kHook KK KA KA_eq).keeps (fun s e => xl_of s (Bool.and_eq_true_iff.mp e).1) XL.keeps (by rfl) (by rfl) (by rfl) (fun s e => recFacts_of (Bool.and_eq_true_iff.mp e).2) (by rfl) (by first | assumption | decide +kernel) (by decide +kernel) ⟨rfl, rfl, rfl, rfl, rfl, by decide +kernel⟩ ?hwHy ?hcHy
  case hwHy => w_witness2
  k_fill
  intro w s₀ s₁ mg mb G Y fa o pm cd doc dV kV ho hd hcd hD hmg hg args vals as hpre hlay hrd hwl hlo
  have KX := kIn_of Y
  k_behind G ho hd hcd hD hmg hpre hlay hrd hwl hlo cd
  (all_goals try k_fold)
  (rename Top topProg _ _ _ _ _ => hTT; rw [lo_eq] at hTT)
  iterate 49 walk_at "st1"
  k_dflt (refine kba_turn (value' := PySem.Expr.Name (PySem.Str.ofString "_") ⟨0, 0, 0, 0⟩) (fun _ => rfl) ?_)
  k_dflt (refine' kmk_slice_ints ?aFLa ?aNLa ?alLa ?apLa ?aqLa ?aiLa ?amLa ?acLa ?_ ?bsLa ?btLa ?bzLa; (case aFLa => k_asm); (case aNLa => k_asm); (case alLa => kmk_list); (case apLa => kmk_part); (case aqLa => kmk_part); (case aiLa => l_ints); (case amLa => exact kmk_from (by l_ints) (Int.natCast_nonneg _)); (case acLa => kmk_len); (case bsLa => with_unfolding_all rfl); (case btLa => kmk_pure); (case bzLa => kmk_size))
  intro D' ws' h' F' N' l1 hI' hC' hL'
  k_lt l1
  iterate 2 walk_at "st1"
  have hlen : ∀ l : List Int, (List.take 8 l ++ List.drop ((List.take 8 l).length : Int).toNat [1, 5, 3, 9, 44, 93, 1, 4]).length = 8 := by
    intro l
    rw [List.length_append, List.length_drop, List.length_take, Int.toNat_natCast]
    show min 8 l.length + (8 - min 8 l.length) = 8
    omega
  (rename IntsAre _ (List.take 8 _ ++ _) => hG0)
  obtain ⟨gs, hgs, hg8⟩ : ∃ gs : List Int, IntsAre _ gs ∧ gs.length = 8 := ⟨_, hG0, hlen _⟩
  (rename News _ _ _ _ => hN0)
  have hN1 := cb_drop (news := [(_, _), (62, tabObj #[]), (69, tabObj #[])]) hN0 (List.forall_mem_cons.mpr ⟨.head _, List.forall_mem_cons.mpr ⟨by k_memK, List.forall_mem_cons.mpr ⟨by k_memK, fun _ h => nomatch h⟩⟩⟩)
  clear hN0 hlen hG0
  clear G Y ho hT9
  (rename Flt.MathXP _ _ _ => z; clear z)
  (rename LooseAre _ _ _ => z; clear z)
  (rename Top qv _ _ _ _ _ => z; clear z)
  (rename Tables _ _ _ _ => z; clear z)
  (rename TopE _ _ _ _ => z; clear z)
  (rename TopW _ _ _ => z; clear z)
  (rename Well _ _ _ _ => z; clear z)
  (rename Reads _ _ _ _ => z; clear z)
  (rename ReadsAll _ _ _ _ => z; clear z)
  (rename ReadsAllW _ _ _ _ _ _ => z; clear z)
  (iterate 2 (rename IntsAre _ (List.take 8 _) => z; clear z))
  (rename IntsAre _ (List.drop _ _) => z; clear z)
  clear hcd hD lifted
  iterate 59 walk_at "st1"
  (with_reducible rename Fr _ _ _ _ => hF)
  have z0 := one_mod_nat (gs.getD (Int.toNat 0) 0) 3 (by decide)
  have z1 := one_mod_nat (gs.getD (Int.toNat 1) 0) 7 (by decide)
  have z2 := mod_nat (gs.getD (Int.toNat 2) 0) 12 (by decide)
  have z3 := unit_nat (gs.getD (Int.toNat 3) 0)
  obtain ⟨τ, hτ, hτ1, hτ2⟩ := z0
  obtain ⟨ν, hν, hν1, hν2⟩ := z1
  obtain ⟨χ, hχ, hχ2⟩ := z2
  obtain ⟨u, hu, hu1, hu2⟩ := z3
  have z4 := two_nat τ
  obtain ⟨M, hM, hM2⟩ := z4
  simp only [hτ, hν, hχ, hu, hM] at hF
  iterate 54 walk_at "st1"
  (with_reducible rename Fr _ _ _ _ => hF2)
  have z5 := mod_nat (gs.getD (Int.toNat 4) 0) u (Int.natCast_pos.mpr hu1)
  have z6 := moved_b (gs.getD (Int.toNat 5) 0)
  have z7 := side_b (gs.getD (Int.toNat 6) 0)
  have z8 := mod_nat (gs.getD (Int.toNat 7) 0) 324 (by decide)
  obtain ⟨ρ, hρ, hρ1⟩ := z5
  obtain ⟨μ, hμ, hμ1, hμ2⟩ := z6
  obtain ⟨δ, hδ, hδ1⟩ := z7
  obtain ⟨π, hπ, hπ1⟩ := z8
  have hM3 := two_b hM2 hτ1 hτ2
  obtain ⟨hM4, hM5⟩ := hM3
  simp only [hρ, hμ, hδ, hπ] at hF2
  (with_reducible rename News _ _ _ _ => hN2)
  have hN3 := cb_drop (news := [(62, tabObj #[]), (69, tabObj #[])]) hN2 (List.forall_mem_cons.mpr ⟨by k_memK, List.forall_mem_cons.mpr ⟨by k_memK, fun _ h => nomatch h⟩⟩)
  clear hN2 hgs hg8 hτ hν hχ hu hρ hμ hδ hπ
  (with_reducible rename (0 : Int) ≤ Int.fmod _ _ => z; clear z)
  (with_reducible rename Int.fmod _ _ < (_ : Int) => z; clear z)
  clear gs
  have z9 := law_frame hF2
  obtain ⟨tl, ta, tb, tc, td, te, tf, tg, th, ti, tj, hF3⟩ := z9
  clear hF2
  (with_reducible rename Fr _ _ _ _ => lF'); (with_unfolding_all refine' For_invVF lF' ?k1Lb ?k2Lb ?_; (case k1Lb => exact rfl); (case k2Lb => exact rfl); k_whole)
  iterate 7 walk_at "st1"
  k_with_none
  k_with "state" => exact rfl
  k_state (fun pre text => text = txt (runs ν χ M π pre.length)) "text"
  · have hk0 : kN = (kPre.length : Int) := by omega
    clear kEq
    subst hk0
    have hk1 : kPre.length < M := by omega
    obtain ⟨z, hz, hz60⟩ : ∃ z : Nat, ν * kPre.length + χ = z ∧ z ≤ 60 := ⟨_, rfl, size_le (by omega) (by omega) (by omega)⟩
    obtain ⟨c, hc, hcq⟩ : ∃ c : Nat, noth (π + kPre.length) = c ∧ c ≠ 34 := ⟨_, rfl, noth_ne _⟩
    iterate 6 walk_at "st1"
    with_reducible refine mul_to (v := ((ν * kPre.length : Nat) : Int)) (Int.natCast_mul _ _).symm (Nat.le_trans (bits_nat (m := 10) (by omega)) (by decide)) (Nat.le_trans (bits_nat (m := 10) (by omega)) (by decide)) ?_
    iterate 1 walk_at "st1"
    with_reducible refine add_to (v := (z : Int)) (by rw [← hz]; exact (Int.natCast_add _ _).symm) ?_
    iterate 10 walk_at "st1"
    with_reducible refine add_to (v := ((π + kPre.length : Nat) : Int)) (Int.natCast_add _ _).symm ?_
    iterate 2 walk_at "st1"
    refine CK.toCR (nothing_ok w _ _ _ ((π + kPre.length : Nat) : Int) _ (by omega) (by omega)) (R := fun v => ∃ tk, v = .str (sign c) tk) (fun t => ⟨t, by rw [← hc]; rfl⟩) _ _ _ _ _ _ _ _ _ _ _ _ _ _ _ _ _ _ (by k_asm) (by k_asm) (by k_asm) (by k_asm) (by k_asm) rfl (by decide) (by decide +kernel) ?_
    intro v h1 tk1 hv F1 N1
    obtain ⟨tk2, rfl⟩ := hv
    iterate 14 walk_at "st1"
    (with_reducible rename Fr _ _ _ _ => hFq)
    (with_unfolding_all refine' For_invVF hFq ?k1Lc ?k2Lc ?_; (case k1Lc => exact rfl); (case k2Lc => exact rfl); k_whole)
    iterate 7 walk_at "st1"
    k_with_none
    k_with "state" => exact TInv.start _ _ (mul_quotes _)
    k_state (fun pre name lost => TInv z pre.length name lost) "name" "lost"
    · rename_i nt lost lt kB1
      obtain ⟨hn, hl⟩ := kInv
      have hk0 : kN = (kPre.length : Int) := by omega
      clear kEq
      subst hk0
      obtain ⟨y, hy, hy60⟩ : ∃ y : Nat, z / 2 ^ kPre.length = y ∧ y ≤ 60 := ⟨_, rfl, Nat.le_trans (Nat.div_le_self _ _) hz60⟩
      rw [hy] at hn
      subst hn
      iterate 10 walk_at "st1"
      with_reducible refine adds_to (v := Str.ofString "257 \"" ++ quotes y) rfl (by rw [Str.length_append, len_257, quotes_len]; omega) ?_
      intro t1 k1
      iterate 1 walk_at "st1"
      with_reducible refine adds_to (v := reply y c) rfl (by rw [reply_len]; omega) ?_
      intro t2 k2
      iterate 2 walk_at "st1"
      refine CK.toCR (parse_ok w _ _ _ (reply y c) _ y c hcq (by omega) (by rw [reply_len]; omega) (repl_257 y c) (repl_sp y c) (reply_len y c) (repl_q y c) (repl_c y c) _ rfl) (R := fun v => ∃ tk, v = .str (if y % 2 = 0 then quotes (y / 2) ++ sign c else quotes (y / 2)) tk) (fun t => ⟨t, rfl⟩) _ _ _ _ _ _ _ _ _ _ _ _ _ _ _ _ _ _ (by k_asm) (by k_asm) (by k_asm) (by k_asm) (by k_asm) rfl (by decide) (by decide +kernel) ?_
      intro v h1 tk1 hv F1 N1
      obtain ⟨tk3, rfl⟩ := hv
      by_cases hev : y % 2 = 0
      · rw [if_pos hev]
        iterate 18 walk_at "st1"
        rw [if_pos (by (rw [last_eq, str_beq_self]))]
        iterate 12 walk_at "st1"
        k_with_none
        k_with "state" => exact TInv.even (by rw [List.length_append]; rfl) hl (by rw [hy]; exact hev) (by rw [hy]; exact cut_last _ _)
        iterate 4 walk_at "st1"
        kst_close
      · rw [if_neg hev]
        iterate 18 walk_at "st1"
        rw [if_neg (by (rw [last_ne _ _ hcq]; decide))]
        iterate 12 walk_at "st1"
        k_with_none
        k_with "state" => exact TInv.odd (by rw [List.length_append]; rfl) (by rw [hl]; simp) (by rw [hy]; exact hev) (by rw [hy])
        iterate 1 walk_at "st1"
        kst_close
    · rename_i nm nt lost lt kB1
      rw [rangeKs_length] at kInv
      obtain ⟨hn, hl⟩ := kInv
      rw [show (((τ : Nat) : Int) - 0).toNat = τ by omega, ← hM2] at hn hl
      subst hn hl
      obtain ⟨q, hq, hq60⟩ : ∃ q : Nat, z / M = q ∧ q ≤ 60 := ⟨_, rfl, Nat.le_trans (Nat.div_le_self _ _) hz60⟩
      have hM0 : ((M : Nat) : Int) ≠ 0 := by omega
      rw [hq] at kFr
      iterate 10 walk_at "st1"
      with_reducible refine fdv_to (v := (q : Int)) hM0 (log_small (by omega)) (by rw [← hq]; exact fdiv_nat _ _) ?_
      iterate 3 walk_at "st1"
      rw [if_neg (by (rw [mul_quotes, bne, str_beq_self]; decide))]
      iterate 6 walk_at "st1"
      with_reducible refine fmd_to (v := ((z % M : Nat) : Int)) hM0 (fmod_nat _ _) ?_
      iterate 2 walk_at "st1"
      rw [if_neg (by (simp))]
      iterate 1 walk_at "st1"
      rw [if_neg (by decide)]
      iterate 8 walk_at "st1"
      have hR := runs_len ν χ M π (by omega) (by omega) kPre.length (by omega)
      with_reducible refine adds_to (v := txt (runs ν χ M π kPre.length ++ List.replicate q 34)) (by rw [kInv, quotes_txt, txt_app]) (by rw [txt_len, List.length_append, List.length_replicate]; omega) ?_
      intro t3 k3
      iterate 1 walk_at "st1"
      with_reducible refine adds_to (v := txt (runs ν χ M π kPre.length ++ List.replicate q 34 ++ [c])) (by rw [sign_txt, txt_app]) (by rw [txt_len, List.length_append, List.length_append, List.length_replicate, List.length_singleton]; omega) ?_
      intro t4 k4
      k_with_none
      k_with "state" => exact runs_next hz hq hc
      iterate 3 walk_at "st1"
      kst_close
  · skip
    rw [rangeKs_length, show (((M : Nat) : Int) - 0).toNat = M by omega] at kInv
    iterate 1 walk_at "st1"
    (with_unfolding_all refine' For_invVF kFr ?k1Le ?k2Le ?_; (case k1Le => exact rfl); (case k2Le => exact rfl); k_whole)
    iterate 7 walk_at "st1"
    (with_reducible rename IsRange _ _ _ _ _ _ _ _ => hRg)
    (with_reducible rename Fr _ _ _ _ => hFg)
    (with_reducible rename News _ _ _ _ => hNg)
    refine' krg_state (σ := Str × Tok × List (Addr × Obj) × List (Addr × Obj)) (n := ν) (fun c => c.2.2.1 ++ (c.2.2.2 ++ [])) (fun c => [(Str.ofString "text", .str c.1 c.2.1)]) (fun c => TabOk 62 q62 54 4 c.2.2.1 ∧ TabOk 69 q69 69 4 c.2.2.2) [Str.ofString "size", Str.ofString "told", Str.ofString "left"] (fun i c => DInv ν χ M π i c.1) (_, _, [(62, tabObj #[])], [(69, tabObj #[])]) rfl hRg ?rSLe ?rZLe hFg hNg ⟨.inl rfl, .inl rfl⟩ ?rKLe ?rPLe ?rTLe ?rDLe
    case rSLe => exact small_one (by omega) (by omega) (by omega) (by omega)
    case rZLe => exact (rangeSize_nat _ _).trans (by omega)
    case rKLe => kst_all
    case rPLe => exact DInv.start _ _ _ _ _ kInv
    case rDLe =>
      rintro ⟨tx, tt, t1, t2⟩ u1 h2 tk2 hf hp F2 N2
      dsimp only [kstB] at F2
      dsimp only at hf hp N2
      obtain ⟨hT1, hT2⟩ := hf
      clear hRg hFg hNg
      have hfin := DInv.fin hp (by omega) (by omega) (by omega) (by omega)
      obtain ⟨cs, htx, hcl, hok, hpr⟩ := hfin
      subst htx
      obtain ⟨led1, hled1⟩ : ∃ l, l = t1 ++ (t2 ++ []) := ⟨_, rfl⟩
      rw [← hled1] at N2
      clear hp
      iterate 5 walk_at "st1"
      (with_reducible rename Fr _ _ _ _ => hFg)
      (with_unfolding_all refine' For_invVF hFg ?k1Lg ?k2Lg ?_; (case k1Lg => exact rfl); (case k2Lg => exact rfl); k_whole)
      iterate 1 walk_at "st1"
      k_with_none
      k_with "state" => exact (by decide +kernel)
      k_state (fun pre prepared => prepared = txt (prep (nats pre))) "prepared"
      · have hmem := code_mem kEq
        have hlt := code_len kEq
        have hk := hok _ hmem
        obtain ⟨hk1, hk2⟩ := hk
        iterate 11 walk_at "st1"
        refine inb1_ok2 w _ _ _ kN hk1 _ _ _ _ _ _ _ _ _ _ _ _ _ _ _ _ _ _ _ (by k_asm) (by k_asm) (by k_asm) (by k_asm) (by k_asm) rfl (by decide) (by decide +kernel) ?_
        intro v h5 tk5 hv F5 N5
        subst hv
        iterate 1 walk_at "st1"
        rcases hk2 with hb | ⟨hb, hlet⟩
        · rw [if_neg (show ¬ ((!inB1 kN) = true) by rw [hb]; decide)]
          k_with_none
          k_with "state" => exact prep_skip kInv hb
          iterate 3 walk_at "st1"
          kst_close
        · rw [if_pos (show (!inB1 kN) = true by rw [hb]; decide)]
          iterate 11 walk_at "st1"
          refine map_ok2 w _ _ _ kN _ hlet _ _ _ _ _ _ _ _ _ _ _ _ _ _ _ _ _ _ (by k_asm) (by k_asm) (by k_asm) (by k_asm) (by k_asm) rfl (by decide) (by decide +kernel) ?_
          intro v h6 tk6 hv F6 N6
          obtain ⟨tk7, rfl⟩ := hv
          have hpl := prep_len (nats kPre)
          rw [nats_len] at hpl
          have hfl := fold_len kN
          with_reducible refine adds_to (v := txt (prep (nats kPre)) ++ fold kN) (by rw [kInv]) (by rw [Str.length_append, txt_len]; omega) ?_
          intro t8 k8
          k_with_none
          k_with "state" => exact prep_take rfl hb
          iterate 5 walk_at "st1"
          kst_close
      · rw [nats_codes, hpr] at kInv
        have hrule := rule hM2 hτ1 (by omega) hν1 (by omega) (by omega : χ ≤ 11)
        obtain ⟨d, hd, hd1, hd8⟩ : ∃ d : Nat, Nat.gcd M ν = d ∧ 1 ≤ d ∧ d ≤ 8 := ⟨_, rfl, Nat.gcd_pos_of_pos_left _ (by omega), Nat.le_trans (Nat.gcd_le_left _ (by omega)) (by omega)⟩
        rw [hd] at hrule
        obtain ⟨a, ha, ha2⟩ : ∃ a : Nat, χ / d = a ∧ a ≤ 11 := ⟨_, rfl, Nat.le_trans (Nat.div_le_self _ _) (by omega)⟩
        obtain ⟨b, hb, hb2⟩ : ∃ b : Nat, (M - 1) * (ν - 1) = b ∧ b ≤ 42 := ⟨_, rfl, Nat.mul_le_mul (show M - 1 ≤ 7 by omega) (show ν - 1 ≤ 6 by omega)⟩
        obtain ⟨K, hK⟩ : ∃ K : Nat, d * a + (b + d - 1) / 2 = K := ⟨_, rfl⟩
        have hda : d * a ≤ 8 * 11 := Nat.mul_le_mul hd8 ha2
        have hK2 : K ≤ 1000 := by omega
        rw [ha, hb, hK] at hrule
        rw [hrule.1, hrule.2] at kInv
        iterate 11 walk_at "st1"
        refine measure_ok w _ _ _ M ν (by omega) (by omega) _ _ _ _ _ _ _ _ _ _ _ _ _ _ _ _ _ _ _ _ (by k_asm) (by k_asm) (by k_asm) (by k_asm) (by k_asm) rfl (by decide) (by decide +kernel) ?_
        intro v h5 tk5 hv F5 N5
        obtain ⟨tk6, hv⟩ := hv
        rw [hd] at hv
        subst hv
        iterate 10 walk_at "st1"
        with_reducible refine fdv_to (v := (a : Int)) (by omega) (log_small (by omega)) (by rw [← ha]; exact fdiv_nat _ _) ?_
        with_reducible refine mul_to (v := ((d * a : Nat) : Int)) (Int.natCast_mul _ _).symm (bits_abs (small_ok (Nat.le_trans hd8 (by decide)))) (bits_abs (small_ok (Nat.le_trans ha2 (by decide)))) ?_
        iterate 7 walk_at "st1"
        with_reducible refine sub_to (v := ((M - 1 : Nat) : Int)) (by omega) ?_
        iterate 3 walk_at "st1"
        with_reducible refine sub_to (v := ((ν - 1 : Nat) : Int)) (by omega) ?_
        with_reducible refine mul_to (v := (b : Int)) (by rw [← hb, Int.natCast_mul]) (bits_abs (small_ok (by rw [Int.natAbs_natCast]; omega))) (bits_abs (small_ok (by rw [Int.natAbs_natCast]; omega))) ?_
        iterate 1 walk_at "st1"
        with_reducible refine add_to (v := ((b + d : Nat) : Int)) (Int.natCast_add _ _).symm ?_
        iterate 1 walk_at "st1"
        with_reducible refine sub_to (v := ((b + d - 1 : Nat) : Int)) (by omega) ?_
        iterate 1 walk_at "st1"
        with_reducible refine fdv_to (v := (((b + d - 1) / 2 : Nat) : Int)) (by decide) (by decide) (fdiv_nat _ 2) ?_
        with_reducible refine add_to (v := (K : Int)) (by rw [← hK, Int.natCast_add]) ?_
        iterate 14 walk_at "st1"
        with_reducible refine adds_to (v := txt (List.replicate K 34 ++ List.replicate K 115)) (end_eq K).symm (by rw [txt_len, List.length_append, List.length_replicate, List.length_replicate]; omega) ?_
        intro t9 k9
        iterate 1 walk_at "st1"
        rw [kInv, str_beq_self]
        iterate 1 walk_at "st1"
        case refine_1 =>
          (with_reducible rename Fr _ _ _ _ => F9)
          kc_bool
          refine goodW_bool F9 hg (raisesW_false ?a3Lg) ?a4Lg
          case a3Lg => wrow_none_raised
          case a4Lg => exact postW_of (by decide +kernel) (w_eq_bool (w_res rfl) w_lit) (by decide)
        (with_reducible rename News _ _ _ _ => N9)
        rw [hled1] at N9
        have g1 := tab_memO hT1
        have g2 := tab_memO hT2
        obtain ⟨p1, g1⟩ := g1
        obtain ⟨p2, g2⟩ := g2
        exact ⟨GrownAt.of N9 (List.mem_append_left _ g1), GrownAt.of N9 (List.mem_append_right _ (List.mem_append_left _ g2)), True.intro⟩
    case rTLe =>
      rintro ⟨tx, tt, t1, t2⟩ i ti2 u1 I h2 tk2 hi hI hf hp F2 N2
      dsimp only [kstB] at F2
      dsimp only at hf hp N2 hI
      obtain ⟨hT1, hT2⟩ := hf
      have hI2 : (62 : Nat) < I ∧ (69 : Nat) < I := ⟨hI (62, _) (.head _), hI (69, _) (.tail _ (.head _))⟩
      obtain ⟨hI62, hI69⟩ := hI2
      clear hRg hFg hNg hI
      obtain ⟨z, hz, hz60⟩ : ∃ z : Nat, M * i + χ = z ∧ z ≤ 60 := ⟨_, rfl, size_le2 (by omega) (by omega) (by omega)⟩
      have hNu : Nums M ν u ρ z δ μ := nums (by omega) (by omega) (by omega) hu2 (by omega) hz60 (by omega)
      have hρ2 : ρ < u := by omega
      simp only [Int.zero_add] at F2
      obtain ⟨led1, hled1⟩ : ∃ l, l = t1 ++ (t2 ++ []) := ⟨_, rfl⟩
      rw [← hled1] at N2
      iterate 6 walk_at "st1"
      with_reducible refine mul_to (v := ((M * i : Nat) : Int)) (Int.natCast_mul _ _).symm (Nat.le_trans (bits_nat (m := 10) (by omega)) (by decide)) (Nat.le_trans (bits_nat (m := 10) (by omega)) (by decide)) ?_
      iterate 1 walk_at "st1"
      with_reducible refine add_to (v := (z : Int)) (by rw [← hz]; exact (Int.natCast_add _ _).symm) ?_
      iterate 17 walk_at "st1"
      with_reducible refine mul_to (v := (M : Int) * ν) rfl (bits_abs (small_ok (Nat.le_trans hNu.m1 (by decide)))) (bits_abs (small_ok (Nat.le_trans hNu.n1 (by decide)))) ?_
      iterate 1 walk_at "st1"
      with_reducible refine mul_to (v := (M : Int) * ν * μ) rfl (bits_abs (small_ok (Nat.le_trans hNu.mn (by decide)))) (bits_abs (small_ok (Nat.le_trans hNu.v1 (by decide)))) ?_
      with_reducible refine add_to (v := (z : Int) + (M : Int) * ν * μ) rfl ?_
      iterate 1 walk_at "st1"
      with_reducible refine mul_to (v := ((z : Int) + (M : Int) * ν * μ) * u) rfl (bits_abs (small_ok (Nat.le_trans hNu.s1 (by decide)))) (bits_abs (big_ok (Nat.le_trans hNu.u1 (by decide +kernel)))) ?_
      iterate 1 walk_at "st1"
      with_reducible refine add_to (v := ((z : Int) + (M : Int) * ν * μ) * u + ρ) rfl ?_
      with_reducible refine mul_to (v := δ * (((z : Int) + (M : Int) * ν * μ) * u + ρ)) rfl (bits_abs (small_ok (Nat.le_trans hNu.d1 (by decide)))) (bits_abs (big_ok (Nat.le_trans hNu.sr ten80))) ?_
      iterate 5 walk_at "st1"
      with_reducible refine mul_to (v := δ * ν) rfl (bits_abs (small_ok (Nat.le_trans hNu.d1 (by decide)))) (bits_abs (small_ok (Nat.le_trans hNu.n1 (by decide)))) ?_
      iterate 1 walk_at "st1"
      with_reducible refine mul_to (v := δ * ((ν * u : Nat) : Int)) (by rw [Int.mul_assoc, Int.natCast_mul]) (bits_abs (small_ok (Nat.le_trans hNu.dn (by decide)))) (bits_abs (big_ok (Nat.le_trans hNu.u1 (by decide +kernel)))) ?_
      iterate 2 walk_at "st1"
      obtain ⟨hs1, hs2⟩ := div_small hNu (by omega) (by omega) hρ2
      obtain ⟨hd1, hd2⟩ := div_law (M := M) (ν := ν) (u := u) (ρ := ρ) (z := z) (μ := μ) (by omega) (by omega) hρ2
      (with_reducible rename News _ _ _ _ => hNc)
      rw [hled1] at hNc
      refine idm_all w _ _ _ (((z : Int) + (M : Int) * ν * μ) * u + ρ) (ν * u) δ hδ1 (Nat.mul_pos (by omega) (by omega)) (b300 (by omega) hu2) hs1 hs2 _ _ rfl rfl _ _ t1 t2 [(I, _)] hT1 hT2 (List.forall_mem_singleton.mpr (Nat.ne_of_gt hI62)) (List.forall_mem_singleton.mpr (Nat.ne_of_gt hI69)) _ _ _ _ _ _ _ _ _ _ _ _ _ _ _ _ _ (by k_asm) (by k_asm) (by k_asm) (news_rot hNc) (by k_asm) (by assumption) (by assumption) rfl (by decide) (by decide +kernel) ?_
      intro T w1 w2 t1' t2' h1 tk1 hT1' hT2' hlt F1 N1
      rw [hd1, hd2] at N1
      obtain ⟨led2, hled2⟩ : ∃ l, l = t1' ++ (t2' ++ [(I, itR (0 + ((i + 1 : Nat) : Int)) ((ν : Int) - ((i + 1 : Nat) : Int)))]) := ⟨_, rfl⟩
      rw [← hled2] at N1
      clear hNc
      iterate 20 walk_at "st1"
      have hzm : z % ν ≤ 60 := Nat.le_trans (Nat.mod_le _ _) hz60
      have hzu : z % ν * u + ρ ≤ 10 ^ 80 := Nat.le_trans (Nat.add_le_add (Nat.mul_le_mul hzm hu2) (Nat.le_trans (Nat.le_of_lt hρ2) hu2)) (by decide +kernel)
      with_reducible refine fmd_to (v := ((z % ν : Nat) : Int)) (by omega) (fmod_nat _ _) ?_
      iterate 1 walk_at "st1"
      with_reducible refine mul_to (v := ((z % ν * u : Nat) : Int)) (Int.natCast_mul _ _).symm (bits_abs (small_ok (Nat.le_trans hzm (by decide)))) (bits_abs (big_ok (Nat.le_trans hNu.u1 (by decide +kernel)))) ?_
      iterate 1 walk_at "st1"
      with_reducible refine add_to (v := ((z % ν * u + ρ : Nat) : Int)) (Int.natCast_add _ _).symm ?_
      with_reducible refine mul_to (v := δ * ((z % ν * u + ρ : Nat) : Int)) rfl (bits_abs (small_ok (Nat.le_trans hNu.d1 (by decide)))) (bits_abs (big_ok (by rw [Int.natAbs_natCast]; exact hzu))) ?_
      iterate 2 walk_at "st1"
      rw [if_neg (int_eq_bne rfl)]
      obtain ⟨e, he, he60⟩ : ∃ e : Nat, z / ν = e ∧ e ≤ 60 := ⟨_, rfl, Nat.le_trans (Nat.div_le_self _ _) hz60⟩
      iterate 17 walk_at "st1"
      with_reducible refine sub_to (v := (e : Int)) (by rw [← he]; omega) ?_
      iterate 5 walk_at "st1"
      with_reducible refine fdv_to (v := (π : Int).fdiv 27) (by decide) (by decide) rfl ?_
      iterate 4 walk_at "st1"
      refine letters_ok w _ _ _ e (by omega) _ _ _ _ _ _ _ _ _ _ _ _ _ _ _ _ _ _ _ _ _ (by k_asm) (by k_asm) (by k_asm) (by k_asm) (by k_asm) rfl (by decide) (by decide +kernel) ?_
      intro v h2 tk2 hv F3 N3
      obtain ⟨tk3, ws, rfl, hws, hwt⟩ := hv
      have hlen := DInv.len hp (by omega) (by omega) (by omega) (by omega)
      have hwl := wt_len ws
      with_reducible refine adds_to (v := tx ++ txt ws) rfl (by rw [Str.length_append, txt_len]; omega) ?_
      intro t5 k5
      iterate 7 walk_at "st1"
      with_reducible refine add_to (v := ((π + i : Nat) : Int)) (Int.natCast_add _ _).symm ?_
      iterate 2 walk_at "st1"
      obtain ⟨c, hc⟩ : ∃ c : Nat, noth (π + i) = c := ⟨_, rfl⟩
      refine CK.toCR (nothing_ok w _ _ _ ((π + i : Nat) : Int) _ (by omega) (by omega)) (R := fun v => ∃ tk, v = .str (sign c) tk) (fun t => ⟨t, by rw [← hc]; rfl⟩) _ _ _ _ _ _ _ _ _ _ _ _ _ _ _ _ _ _ (by k_asm) (by k_asm) (by k_asm) (by k_asm) (by k_asm) rfl (by decide) (by decide +kernel) ?_
      intro v h4 tk4 hv F4 N4
      obtain ⟨tk6, rfl⟩ := hv
      with_reducible refine adds_to (v := tx ++ txt ws ++ sign c) rfl (by rw [Str.length_append, Str.length_append, txt_len, sign_len]; omega) ?_
      intro t7 k7
      iterate 4 walk_at "st1"
      (with_reducible rename Fr _ _ _ _ => F9)
      (with_reducible rename News _ _ _ _ => N9)
      rw [hled2] at N9
      refine UnrEnd.intro F9 N9 (t1' ++ (t2' ++ [])) (sub_end _ _ _ _) (app_ne (tab_off hT1' N9 (.tail _ (List.mem_append_right _ (List.mem_append_right _ (.head _)))) (fun p hp => .tail _ (List.mem_append_left _ hp)) hI62) (app_ne (tab_off hT2' N9 (.tail _ (List.mem_append_right _ (List.mem_append_right _ (.head _)))) (fun p hp => .tail _ (List.mem_append_right _ (List.mem_append_left _ hp))) hI69) (fun p hp => nomatch hp))) ⟨(tx ++ txt ws ++ sign c, t7, t1', t2'), rfl, ⟨hT1', hT2'⟩, ?eALf, ?eSLf, ?eDLf⟩
      case eALf => kst_all
      case eSLf => kst_same
      case eDLf => exact DInv.step hp ws (by rw [hz]; exact he) he60 hws hwt (by rw [hc])
end SMain
end Ul
theorem PySem.Challenge.cw_ul0026_01_holds : PySem.Challenge.rw_ul0026_01.Holds := by
  exact Ul.holds_all
