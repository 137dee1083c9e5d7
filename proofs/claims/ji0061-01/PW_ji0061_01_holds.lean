import PyProof.Rows.All
import Wide.All
import OpenK.AllK
import Wide.FinOn
import PySem.Challenge.RW_ji0061_01
set_option Elab.async false
set_option linter.all false
set_option maxRecDepth 100000
set_option maxHeartbeats 0
set_option compiler.extract_closed false
noncomputable section
namespace Lw
open PySem PySem.W PySem.Calls PyProof.Rows
abbrev pw : Program := PySem.Challenge.pw_ji0061_01
abbrev qRun := @PySem.W.Fast.tw10110043849684766642
abbrev qTab := @PySem.W.Fast.tw14364793385576792824
noncomputable def bE : List Stmt := behindTheImports pw
noncomputable def env : Env := { scope := pw.main.scope, locals := mainNs, globals := mainNs, cells := [], code := .ref 13, frame := some 14 }
noncomputable def cE : Code := .body bE env
noncomputable def B : List Frame := [topFrame ⟨0, 0, 0, 0⟩]
noncomputable def cut (a n : Nat) : List Stmt := (pw.main.body.drop a).take n
noncomputable def stAt (l : List Stmt) (i : Nat) : Stmt := l.getD i (.Pass ⟨0, 0, 0, 0⟩)
noncomputable def inCls : Stmt → List Stmt
  | .ClassDef _ _ _ b _ _ _ _ _ _ _ => b
  | _ => []
noncomputable def f1 (i : Nat) : Stmt := stAt pw.main.body i
noncomputable def f2 (i j : Nat) : Stmt := stAt (inCls (f1 i)) j
noncomputable def bodyOf : Stmt → List Stmt
  | .FunctionDef _ _ b _ _ _ _ _ _ _ => b
  | .ClassDef _ _ _ b _ _ _ _ _ _ _ => b
  | _ => []
noncomputable def docOf : List Stmt → Str
  | .Expr (.Constant (.str s) _ _) _ :: _ => s
  | _ => ""
noncomputable def d1 (i : Nat) : Str := docOf (bodyOf (f1 i))
noncomputable def d2 (i j : Nat) : Str := docOf (bodyOf (f2 i j))
noncomputable def parOf : Stmt → Arguments
  | .FunctionDef _ a _ _ _ _ _ _ _ _ => a
  | _ => ⟨[], [], none, [], [], none, []⟩
noncomputable def scOf : Stmt → Scope
  | .FunctionDef _ _ _ _ _ _ s _ _ _ => s
  | _ => pw.main.scope
noncomputable def fn (st : Stmt) (name qual : Str) (globals : Addr) (closure : List (Str × Addr)) (defaults kwdefaults doc pyModule : Value) (an : Option Addr) (code ct : Value) (blt : Addr) : FuncData :=
  ⟨name, qual, parOf st, .stmts (bodyOf st), scOf st, globals, closure, defaults, kwdefaults, doc, pyModule, an, code, ct, blt⟩
noncomputable def e (P : Params) (k : Str) (t : Tok) (v : Value) : DictEntry := ⟨PyData.keyHash P k, .str k t, v⟩
noncomputable def z : BT := .nil
noncomputable def n (o : Obj) (a b : BT) : BT := .node o a b
noncomputable def l (o : Obj) : BT := .node o .nil .nil

noncomputable def o11 (P : Params) : Obj := ⟨.type "tuple", none, .seq [].toArray 0, #[]⟩
noncomputable def o12 (P : Params) : Obj := ⟨.none, none, .fields [].toArray, #[]⟩
noncomputable def o13 (P : Params) : Obj := ⟨.type "code", none, .fields [.str "<module>" 182, .str "<module>" 183, .str "/claim/cut.py" 184, .int 1 0, .int 0 0, .int 0 0, .int 0 0, .int 0 0, .ref 11, .bool false, .int 181 0, .ref 12, .none, .none, .none, .none, .int 185 0, .int 1 0, .str "/claim/cut.py" 186].toArray, #[]⟩
noncomputable def o14 (P : Params) : Obj := ⟨.type "frame", none, .plain, #[some (.ref 13), some (.ref 3), some (.ref 3), none, some (.str "__main__" 164), none, some (.ref 0)]⟩
noncomputable def t0 (P : Params) : BT := (n (boot_o_0 P) (n (boot_o_1 P) (n (boot_o_3 P) (l (boot_o_7 P)) (l (o11 P))) (n (boot_o_5 P) (l (boot_o_9 P)) (l (o13 P)))) (n (boot_o_2 P) (n (boot_o_4 P) (l (boot_o_8 P)) (l (o12 P))) (n (boot_o_6 P) (l (boot_o_10 P)) (l (o14 P)))))
abbrev S0 (w : World) (os : OsState) : SharedT := ⟨t0 w.params, 15, {}, #[], {}, 187, os⟩
noncomputable def o3v1 (P : Params) : Obj := ⟨.type "dict", none, .dict [e P "__name__" 165 (.str "limits.limits" 194), e P "__doc__" 166 (.none), e P "__package__" 167 (.none), e P "__loader__" 168 (.builtin "__main__.__loader__#opaque"), e P "__spec__" 169 (.none), e P "__annotations__" 170 (.ref 6), e P "__builtins__" 171 (.ref 4), e P "__file__" 173 (.str "/claim/cut.py" 172), e P "__cached__" 174 (.none), e P "_wall" 193 (.ref 21), e P "_tuplegetter" 252 (.ref 60), e P "tuplegetter_limits" 253 (.ref 60), e P "safe_string" 261 (.ref 71)].toArray 13, #[]⟩
noncomputable def o12v1 (P : Params) : Obj := ⟨.none, none, .fields [.int 1 0, .int 0 0, .ref 20, .int 5 0, .int 0 0, .ref 27, .int 24 0, .int 0 0, .ref 70].toArray, #[]⟩
noncomputable def o15 (P : Params) : Obj := ⟨.type "tuple", none, .seq [].toArray 0, #[]⟩
noncomputable def o16 (P : Params) : Obj := ⟨.none, none, .fields [].toArray, #[]⟩
noncomputable def o17 (P : Params) : Obj := ⟨.type "tuple", none, .seq [.str "k" 190].toArray 0, #[]⟩
noncomputable def o18 (P : Params) : Obj := ⟨.type "tuple", none, .seq [].toArray 0, #[]⟩
noncomputable def o19 (P : Params) : Obj := ⟨.none, none, .func (fn (f1 0) "_wall" "_wall" 0 [] (.none) (.none) (.none) (.none) none (.none) (.none) 0), #[]⟩
noncomputable def o20 (P : Params) : Obj := ⟨.type "code", none, .fields [.str "_wall" 187, .str "_wall" 188, .str "/claim/cut.py" 189, .int 1 0, .int 1 0, .int 0 0, .int 0 0, .int 3 0, .ref 15, .bool true, .int 181 0, .ref 16, .none, .ref 17, .ref 18, .ref 19, .int 191 0, .int 1 0, .str "/claim/cut.py" 192].toArray, #[]⟩
noncomputable def o21 (P : Params) : Obj := ⟨.type "function", none, .func (fn (f1 0) "_wall" "_wall" 3 [] (.none) (.none) (.none) (.str "__main__" 164) none (.ref 20) (.none) 0), #[]⟩
noncomputable def o22 (P : Params) : Obj := ⟨.type "tuple", none, .seq [].toArray 0, #[]⟩
noncomputable def o23 (P : Params) : Obj := ⟨.type "builtin_function_or_method", none, .fields [.builtin "type.__prepare__", .type "type"].toArray, #[]⟩
noncomputable def o24 (P : Params) : Obj := ⟨.type "dict", none, .dict [e P "__module__" 203 (.str "limits.limits" 194), e P "__qualname__" 205 (.str "_tuplegetter" 204), e P "__firstlineno__" 207 (.int 5 206), e P "__init__" 216 (.ref 35), e P "__get__" 225 (.ref 43), e P "__set__" 234 (.ref 50), e P "__delete__" 242 (.ref 57), e P "__static_attributes__" 245 (.ref 58)].toArray 8, #[]⟩
noncomputable def o25 (P : Params) : Obj := ⟨.type "tuple", none, .seq [].toArray 0, #[]⟩
noncomputable def o26 (P : Params) : Obj := ⟨.none, none, .fields [.int 7 0, .int 4 0, .ref 34, .int 11 0, .int 4 0, .ref 42, .int 18 0, .int 4 0, .ref 49, .int 21 0, .int 4 0, .ref 56].toArray, #[]⟩
noncomputable def o27 (P : Params) : Obj := ⟨.type "code", none, .fields [.str "_tuplegetter" 198, .str "_tuplegetter" 199, .str "/claim/cut.py" 200, .int 5 0, .int 0 0, .int 0 0, .int 0 0, .int 0 0, .ref 25, .bool false, .int 181 0, .ref 26, .none, .none, .none, .none, .int 201 0, .int 5 0, .str "/claim/cut.py" 202].toArray, #[]⟩
noncomputable def o28 (P : Params) : Obj := ⟨.type "frame", none, .plain, #[some (.ref 27), some (.ref 3), some (.ref 24), none, some (.str "limits.limits" 194), none, some (.ref 0)]⟩
noncomputable def o29 (P : Params) : Obj := ⟨.type "tuple", none, .seq [].toArray 0, #[]⟩
noncomputable def o30 (P : Params) : Obj := ⟨.none, none, .fields [].toArray, #[]⟩
noncomputable def o31 (P : Params) : Obj := ⟨.type "tuple", none, .seq [.str "self" 211, .str "index" 212, .str "doc" 213].toArray 0, #[]⟩
noncomputable def o32 (P : Params) : Obj := ⟨.type "tuple", none, .seq [].toArray 0, #[]⟩
noncomputable def o33 (P : Params) : Obj := ⟨.none, none, .func (fn (f2 2 0) "__init__" "_tuplegetter.__init__" 0 [] (.none) (.none) (.none) (.none) none (.none) (.none) 0), #[]⟩
noncomputable def o34 (P : Params) : Obj := ⟨.type "code", none, .fields [.str "__init__" 208, .str "_tuplegetter.__init__" 209, .str "/claim/cut.py" 210, .int 7 0, .int 3 0, .int 0 0, .int 0 0, .int 3 0, .ref 29, .bool true, .int 181 0, .ref 30, .none, .ref 31, .ref 32, .ref 33, .int 214 0, .int 7 0, .str "/claim/cut.py" 215].toArray, #[]⟩
noncomputable def o35 (P : Params) : Obj := ⟨.type "function", none, .func (fn (f2 2 0) "__init__" "_tuplegetter.__init__" 3 [] (.none) (.none) (.none) (.str "limits.limits" 194) none (.ref 34) (.none) 0), #[]⟩
noncomputable def o36 (P : Params) : Obj := ⟨.type "tuple", none, .seq [.none].toArray 0, #[]⟩
noncomputable def o37 (P : Params) : Obj := ⟨.type "tuple", none, .seq [].toArray 0, #[]⟩
noncomputable def o38 (P : Params) : Obj := ⟨.none, none, .fields [].toArray, #[]⟩
noncomputable def o39 (P : Params) : Obj := ⟨.type "tuple", none, .seq [.str "self" 220, .str "obj" 221, .str "objtype" 222].toArray 0, #[]⟩
noncomputable def o40 (P : Params) : Obj := ⟨.type "tuple", none, .seq [].toArray 0, #[]⟩
noncomputable def o41 (P : Params) : Obj := ⟨.none, none, .func (fn (f2 2 1) "__get__" "_tuplegetter.__get__" 0 [] (.none) (.none) (.none) (.none) none (.none) (.none) 0), #[]⟩
noncomputable def o42 (P : Params) : Obj := ⟨.type "code", none, .fields [.str "__get__" 217, .str "_tuplegetter.__get__" 218, .str "/claim/cut.py" 219, .int 11 0, .int 3 0, .int 0 0, .int 0 0, .int 3 0, .ref 37, .bool true, .int 181 0, .ref 38, .none, .ref 39, .ref 40, .ref 41, .int 223 0, .int 11 0, .str "/claim/cut.py" 224].toArray, #[]⟩
noncomputable def o43 (P : Params) : Obj := ⟨.type "function", none, .func (fn (f2 2 1) "__get__" "_tuplegetter.__get__" 3 [] (.ref 36) (.none) (.none) (.str "limits.limits" 194) none (.ref 42) (.none) 0), #[]⟩
noncomputable def o44 (P : Params) : Obj := ⟨.type "tuple", none, .seq [].toArray 0, #[]⟩
noncomputable def o45 (P : Params) : Obj := ⟨.none, none, .fields [].toArray, #[]⟩
noncomputable def o46 (P : Params) : Obj := ⟨.type "tuple", none, .seq [.str "self" 229, .str "obj" 230, .str "value" 231].toArray 0, #[]⟩
noncomputable def o47 (P : Params) : Obj := ⟨.type "tuple", none, .seq [].toArray 0, #[]⟩
noncomputable def o48 (P : Params) : Obj := ⟨.none, none, .func (fn (f2 2 2) "__set__" "_tuplegetter.__set__" 0 [] (.none) (.none) (.none) (.none) none (.none) (.none) 0), #[]⟩
noncomputable def o49 (P : Params) : Obj := ⟨.type "code", none, .fields [.str "__set__" 226, .str "_tuplegetter.__set__" 227, .str "/claim/cut.py" 228, .int 18 0, .int 3 0, .int 0 0, .int 0 0, .int 3 0, .ref 44, .bool true, .int 181 0, .ref 45, .none, .ref 46, .ref 47, .ref 48, .int 232 0, .int 18 0, .str "/claim/cut.py" 233].toArray, #[]⟩
noncomputable def o50 (P : Params) : Obj := ⟨.type "function", none, .func (fn (f2 2 2) "__set__" "_tuplegetter.__set__" 3 [] (.none) (.none) (.none) (.str "limits.limits" 194) none (.ref 49) (.none) 0), #[]⟩
noncomputable def o51 (P : Params) : Obj := ⟨.type "tuple", none, .seq [].toArray 0, #[]⟩
noncomputable def o52 (P : Params) : Obj := ⟨.none, none, .fields [].toArray, #[]⟩
noncomputable def o53 (P : Params) : Obj := ⟨.type "tuple", none, .seq [.str "self" 238, .str "obj" 239].toArray 0, #[]⟩
noncomputable def o54 (P : Params) : Obj := ⟨.type "tuple", none, .seq [].toArray 0, #[]⟩
noncomputable def o55 (P : Params) : Obj := ⟨.none, none, .func (fn (f2 2 3) "__delete__" "_tuplegetter.__delete__" 0 [] (.none) (.none) (.none) (.none) none (.none) (.none) 0), #[]⟩
noncomputable def o56 (P : Params) : Obj := ⟨.type "code", none, .fields [.str "__delete__" 235, .str "_tuplegetter.__delete__" 236, .str "/claim/cut.py" 237, .int 21 0, .int 2 0, .int 0 0, .int 0 0, .int 3 0, .ref 51, .bool true, .int 181 0, .ref 52, .none, .ref 53, .ref 54, .ref 55, .int 240 0, .int 21 0, .str "/claim/cut.py" 241].toArray, #[]⟩
noncomputable def o57 (P : Params) : Obj := ⟨.type "function", none, .func (fn (f2 2 3) "__delete__" "_tuplegetter.__delete__" 3 [] (.none) (.none) (.none) (.str "limits.limits" 194) none (.ref 56) (.none) 0), #[]⟩
noncomputable def o58 (P : Params) : Obj := ⟨.type "tuple", none, .seq [.str "__doc__" 243, .str "index" 244].toArray 0, #[]⟩
noncomputable def o59 (P : Params) : Obj := ⟨.type "dict", none, .dict [e P "__module__" 203 (.str "limits.limits" 194), e P "__firstlineno__" 207 (.int 5 206), e P "__init__" 216 (.ref 35), e P "__get__" 225 (.ref 43), e P "__set__" 234 (.ref 50), e P "__delete__" 242 (.ref 57), e P "__static_attributes__" 245 (.ref 58), e P "__dict__" 247 (.ref 61), e P "__weakref__" 249 (.ref 62), e P "__doc__" 250 (.none)].toArray 4, #[]⟩
noncomputable def o60 (P : Params) : Obj := ⟨.type "type", none, .cls ⟨"_tuplegetter", [.type "object"], [.ref 60, .type "object"], 59, "_tuplegetter", true, [], [], false, none, false⟩, #[none, none, some (.str "_tuplegetter" 196), some (.str "_tuplegetter" 204), some (.builtin "object.__new__"), some (.bool true)]⟩
noncomputable def o61 (P : Params) : Obj := ⟨.type "getset_descriptor", none, .fields [.str "__dict__" 246, .ref 60, .builtin "function.__dict__", .builtin "function.__dict__#set"].toArray, #[]⟩
noncomputable def o62 (P : Params) : Obj := ⟨.type "getset_descriptor", none, .fields [.str "__weakref__" 248, .ref 60, .builtin "ExceptionGroup.__weakref__", .none].toArray, #[]⟩
noncomputable def o63 (P : Params) : Obj := ⟨.type "super", none, .fields [.ref 60, .ref 60, .ref 60].toArray, #[]⟩
noncomputable def o64 (P : Params) : Obj := ⟨.type "builtin_function_or_method", none, .fields [.builtin "object.__init_subclass__", .ref 60].toArray, #[]⟩
noncomputable def o65 (P : Params) : Obj := ⟨.type "tuple", none, .seq [].toArray 0, #[]⟩
noncomputable def o66 (P : Params) : Obj := ⟨.none, none, .fields [].toArray, #[]⟩
noncomputable def o67 (P : Params) : Obj := ⟨.type "tuple", none, .seq [.str "value" 257].toArray 0, #[]⟩
noncomputable def o68 (P : Params) : Obj := ⟨.type "tuple", none, .seq [].toArray 0, #[]⟩
noncomputable def o69 (P : Params) : Obj := ⟨.none, none, .func (fn (f1 4) "safe_string" "safe_string" 0 [] (.none) (.none) (.none) (.none) none (.none) (.none) 0), #[]⟩
noncomputable def o70 (P : Params) : Obj := ⟨.type "code", none, .fields [.str "safe_string" 254, .str "safe_string" 255, .str "/claim/cut.py" 256, .int 24 0, .int 1 0, .int 0 0, .int 0 0, .int 3 0, .ref 65, .bool true, .int 181 0, .ref 66, .none, .ref 67, .ref 68, .ref 69, .int 258 0, .int 24 0, .str "/claim/cut.py" 259].toArray, #[]⟩
noncomputable def o71 (P : Params) : Obj := ⟨.type "function", none, .func (fn (f1 4) "safe_string" "safe_string" 3 [] (.none) (.none) (.str (d1 4) 260) (.str "limits.limits" 194) none (.ref 70) (.none) 0), #[]⟩
noncomputable def t1 (P : Params) : BT := (n (boot_o_0 P) (n (boot_o_1 P) (n (o3v1 P) (n (boot_o_7 P) (n (o15 P) (n (o31 P) (l (o63 P)) z) (l (o47 P))) (n (o23 P) (n (o39 P) (l (o71 P)) z) (l (o55 P)))) (n (o11 P) (n (o19 P) (n (o35 P) (l (o67 P)) z) (l (o51 P))) (n (o27 P) (l (o43 P)) (l (o59 P))))) (n (boot_o_5 P) (n (boot_o_9 P) (n (o17 P) (n (o33 P) (l (o65 P)) z) (l (o49 P))) (n (o25 P) (l (o41 P)) (l (o57 P)))) (n (o13 P) (n (o21 P) (n (o37 P) (l (o69 P)) z) (l (o53 P))) (n (o29 P) (l (o45 P)) (l (o61 P)))))) (n (boot_o_2 P) (n (boot_o_4 P) (n (boot_o_8 P) (n (o16 P) (n (o32 P) (l (o64 P)) z) (l (o48 P))) (n (o24 P) (l (o40 P)) (l (o56 P)))) (n (o12v1 P) (n (o20 P) (n (o36 P) (l (o68 P)) z) (l (o52 P))) (n (o28 P) (l (o44 P)) (l (o60 P))))) (n (boot_o_6 P) (n (boot_o_10 P) (n (o18 P) (n (o34 P) (l (o66 P)) z) (l (o50 P))) (n (o26 P) (l (o42 P)) (l (o58 P)))) (n (o14 P) (n (o22 P) (n (o38 P) (l (o70 P)) z) (l (o54 P))) (n (o30 P) (l (o46 P)) (l (o62 P)))))))
abbrev S1 (w : World) (os : OsState) : SharedT := ⟨t1 w.params, 72, {}, #[], {}, 262, os⟩
noncomputable def o3v2 (P : Params) : Obj := ⟨.type "dict", none, .dict [e P "__name__" 165 (.str "limits.limits" 194), e P "__doc__" 166 (.none), e P "__package__" 167 (.none), e P "__loader__" 168 (.builtin "__main__.__loader__#opaque"), e P "__spec__" 169 (.none), e P "__annotations__" 170 (.ref 6), e P "__builtins__" 171 (.ref 4), e P "__file__" 173 (.str "/claim/cut.py" 172), e P "__cached__" 174 (.none), e P "_wall" 193 (.ref 21), e P "_tuplegetter" 252 (.ref 60), e P "tuplegetter_limits" 253 (.ref 60), e P "safe_string" 261 (.ref 71), e P "Granularity" 376 (.ref 139)].toArray 14, #[]⟩
noncomputable def o12v2 (P : Params) : Obj := ⟨.none, none, .fields [.int 1 0, .int 0 0, .ref 20, .int 5 0, .int 0 0, .ref 27, .int 24 0, .int 0 0, .ref 70, .int 31 0, .int 0 0, .ref 78].toArray, #[]⟩
noncomputable def o72 (P : Params) : Obj := ⟨.type "tuple", none, .seq [.type "tuple"].toArray 0, #[]⟩
noncomputable def o73 (P : Params) : Obj := ⟨.type "builtin_function_or_method", none, .fields [.builtin "type.__prepare__", .type "type"].toArray, #[]⟩
noncomputable def o74 (P : Params) : Obj := ⟨.type "dict", none, .dict [e P "__module__" 269 (.str "limits.limits" 194), e P "__qualname__" 271 (.str "Granularity" 270), e P "__firstlineno__" 273 (.int 31 272), e P "__doc__" 275 (.str (d1 5) 274), e P "__slots__" 277 (.ref 80), e P "_fields" 280 (.ref 81), e P "_field_defaults" 281 (.ref 82), e P "__new__" 291 (.ref 89), e P "_make" 313 (.ref 98), e P "_replace" 324 (.ref 107), e P "__replace__" 325 (.ref 107), e P "__repr__" 333 (.ref 114), e P "_asdict" 340 (.ref 121), e P "__getnewargs__" 348 (.ref 128), e P "__match_args__" 351 (.ref 129), e P "seconds" 361 (.ref 131), e P "name" 371 (.ref 134), e P "__static_attributes__" 372 (.ref 136), e P "__classcell__" 373 (.ref 75)].toArray 19, #[]⟩
noncomputable def o75 (P : Params) : Obj := ⟨.type "cell", none, .cell (some (.ref 139)), #[]⟩
noncomputable def o76 (P : Params) : Obj := ⟨.type "tuple", none, .seq [].toArray 0, #[]⟩
noncomputable def o77 (P : Params) : Obj := ⟨.none, none, .fields [.int 37 0, .int 4 0, .ref 88, .int 42 0, .int 4 0, .ref 95, .int 49 0, .int 4 0, .ref 106, .int 60 0, .int 4 0, .ref 113, .int 64 0, .int 4 0, .ref 120, .int 67 0, .int 4 0, .ref 127].toArray, #[]⟩
noncomputable def o78 (P : Params) : Obj := ⟨.type "code", none, .fields [.str "Granularity" 264, .str "Granularity" 265, .str "/claim/cut.py" 266, .int 31 0, .int 0 0, .int 0 0, .int 0 0, .int 0 0, .ref 76, .bool false, .int 181 0, .ref 77, .none, .none, .none, .none, .int 267 0, .int 31 0, .str "/claim/cut.py" 268].toArray, #[]⟩
noncomputable def o79 (P : Params) : Obj := ⟨.type "frame", none, .plain, #[some (.ref 78), some (.ref 3), some (.ref 74), none, some (.str "limits.limits" 194), none, some (.ref 0)]⟩
noncomputable def o80 (P : Params) : Obj := ⟨.type "tuple", none, .seq [].toArray 0, #[]⟩
noncomputable def o81 (P : Params) : Obj := ⟨.type "tuple", none, .seq [.str "seconds" 278, .str "name" 279].toArray 0, #[]⟩
noncomputable def o82 (P : Params) : Obj := ⟨.type "dict", none, .dict [].toArray 0, #[]⟩
noncomputable def o83 (P : Params) : Obj := ⟨.type "tuple", none, .seq [].toArray 0, #[]⟩
noncomputable def o84 (P : Params) : Obj := ⟨.none, none, .fields [].toArray, #[]⟩
noncomputable def o85 (P : Params) : Obj := ⟨.type "tuple", none, .seq [.str "_cls" 285, .str "seconds" 286, .str "name" 287].toArray 0, #[]⟩
noncomputable def o86 (P : Params) : Obj := ⟨.type "tuple", none, .seq [].toArray 0, #[]⟩
noncomputable def o87 (P : Params) : Obj := ⟨.none, none, .func (fn (f2 5 4) "__new__" "Granularity.__new__" 0 [] (.none) (.none) (.none) (.none) none (.none) (.none) 0), #[]⟩
noncomputable def o88 (P : Params) : Obj := ⟨.type "code", none, .fields [.str "__new__" 282, .str "Granularity.__new__" 283, .str "/claim/cut.py" 284, .int 37 0, .int 3 0, .int 0 0, .int 0 0, .int 3 0, .ref 83, .bool true, .int 181 0, .ref 84, .none, .ref 85, .ref 86, .ref 87, .int 288 0, .int 37 0, .str "/claim/cut.py" 289].toArray, #[]⟩
noncomputable def o89 (P : Params) : Obj := ⟨.type "function", none, .func (fn (f2 5 4) "__new__" "Granularity.__new__" 3 [] (.none) (.none) (.str (d2 5 4) 290) (.str "limits.limits" 194) none (.ref 88) (.none) 0), #[]⟩
noncomputable def o90 (P : Params) : Obj := ⟨.type "tuple", none, .seq [].toArray 0, #[]⟩
noncomputable def o91 (P : Params) : Obj := ⟨.none, none, .fields [].toArray, #[]⟩
noncomputable def o92 (P : Params) : Obj := ⟨.type "tuple", none, .seq [.str "cls" 295, .str "iterable" 296, .str "result" 297].toArray 0, #[]⟩
noncomputable def o93 (P : Params) : Obj := ⟨.type "tuple", none, .seq [].toArray 0, #[]⟩
noncomputable def o94 (P : Params) : Obj := ⟨.none, none, .func (fn (f2 5 5) "_make" "Granularity._make" 0 [] (.none) (.none) (.none) (.none) none (.none) (.none) 0), #[]⟩
noncomputable def o95 (P : Params) : Obj := ⟨.type "code", none, .fields [.str "_make" 292, .str "Granularity._make" 293, .str "/claim/cut.py" 294, .int 41 0, .int 2 0, .int 0 0, .int 0 0, .int 3 0, .ref 90, .bool true, .int 181 0, .ref 91, .none, .ref 92, .ref 93, .ref 94, .int 298 0, .int 41 0, .str "/claim/cut.py" 299].toArray, #[]⟩
noncomputable def o96 (P : Params) : Obj := ⟨.type "function", none, .func (fn (f2 5 5) "_make" "Granularity._make" 3 [] (.none) (.none) (.str (d2 5 5) 300) (.str "limits.limits" 194) (some 99) (.ref 95) (.none) 0), #[]⟩
noncomputable def o97 (P : Params) : Obj := ⟨.type "dict", none, .dict [e P "__module__" 302 (.str "limits.limits" 194), e P "__name__" 305 (.str "_make" 304), e P "__qualname__" 308 (.str "Granularity._make" 307), e P "__doc__" 310 (.str (d2 5 5) 300), e P "__annotations__" 312 (.ref 99)].toArray 5, #[]⟩
noncomputable def o98 (P : Params) : Obj := ⟨.type "classmethod", some 97, .fields [.ref 96, .bool false].toArray, #[]⟩
noncomputable def o99 (P : Params) : Obj := ⟨.type "dict", none, .dict [].toArray 0, #[]⟩
noncomputable def o100 (P : Params) : Obj := ⟨.type "tuple", none, .seq [.ref 75].toArray 0, #[]⟩
noncomputable def o101 (P : Params) : Obj := ⟨.type "tuple", none, .seq [.str "__class__" 317].toArray 0, #[]⟩
noncomputable def o102 (P : Params) : Obj := ⟨.none, none, .fields [].toArray, #[]⟩
noncomputable def o103 (P : Params) : Obj := ⟨.type "tuple", none, .seq [.str "self" 318, .str "kwds" 319, .str "result" 320].toArray 0, #[]⟩
noncomputable def o104 (P : Params) : Obj := ⟨.type "tuple", none, .seq [].toArray 0, #[]⟩
noncomputable def o105 (P : Params) : Obj := ⟨.none, none, .func (fn (f2 5 6) "_replace" "Granularity._replace" 0 [] (.none) (.none) (.none) (.none) none (.none) (.none) 0), #[]⟩
noncomputable def o106 (P : Params) : Obj := ⟨.type "code", none, .fields [.str "_replace" 314, .str "Granularity._replace" 315, .str "/claim/cut.py" 316, .int 49 0, .int 1 0, .int 1 0, .int 0 0, .int 11 0, .ref 101, .bool true, .int 181 0, .ref 102, .none, .ref 103, .ref 104, .ref 105, .int 321 0, .int 49 0, .str "/claim/cut.py" 322].toArray, #[]⟩
noncomputable def o107 (P : Params) : Obj := ⟨.type "function", none, .func (fn (f2 5 6) "_replace" "Granularity._replace" 3 [("__class__", 75)] (.none) (.none) (.str (d2 5 6) 323) (.str "limits.limits" 194) none (.ref 106) (.ref 100) 0), #[]⟩
noncomputable def o108 (P : Params) : Obj := ⟨.type "tuple", none, .seq [].toArray 0, #[]⟩
noncomputable def o109 (P : Params) : Obj := ⟨.none, none, .fields [].toArray, #[]⟩
noncomputable def o110 (P : Params) : Obj := ⟨.type "tuple", none, .seq [.str "self" 329].toArray 0, #[]⟩
noncomputable def o111 (P : Params) : Obj := ⟨.type "tuple", none, .seq [].toArray 0, #[]⟩
noncomputable def o112 (P : Params) : Obj := ⟨.none, none, .func (fn (f2 5 8) "__repr__" "Granularity.__repr__" 0 [] (.none) (.none) (.none) (.none) none (.none) (.none) 0), #[]⟩
noncomputable def o113 (P : Params) : Obj := ⟨.type "code", none, .fields [.str "__repr__" 326, .str "Granularity.__repr__" 327, .str "/claim/cut.py" 328, .int 60 0, .int 1 0, .int 0 0, .int 0 0, .int 3 0, .ref 108, .bool true, .int 181 0, .ref 109, .none, .ref 110, .ref 111, .ref 112, .int 330 0, .int 60 0, .str "/claim/cut.py" 331].toArray, #[]⟩
noncomputable def o114 (P : Params) : Obj := ⟨.type "function", none, .func (fn (f2 5 8) "__repr__" "Granularity.__repr__" 3 [] (.none) (.none) (.str (d2 5 8) 332) (.str "limits.limits" 194) none (.ref 113) (.none) 0), #[]⟩
noncomputable def o115 (P : Params) : Obj := ⟨.type "tuple", none, .seq [].toArray 0, #[]⟩
noncomputable def o116 (P : Params) : Obj := ⟨.none, none, .fields [].toArray, #[]⟩
noncomputable def o117 (P : Params) : Obj := ⟨.type "tuple", none, .seq [.str "self" 337].toArray 0, #[]⟩
noncomputable def o118 (P : Params) : Obj := ⟨.type "tuple", none, .seq [].toArray 0, #[]⟩
noncomputable def o119 (P : Params) : Obj := ⟨.none, none, .func (fn (f2 5 9) "_asdict" "Granularity._asdict" 0 [] (.none) (.none) (.none) (.none) none (.none) (.none) 0), #[]⟩
noncomputable def o120 (P : Params) : Obj := ⟨.type "code", none, .fields [.str "_asdict" 334, .str "Granularity._asdict" 335, .str "/claim/cut.py" 336, .int 64 0, .int 1 0, .int 0 0, .int 0 0, .int 3 0, .ref 115, .bool true, .int 181 0, .ref 116, .none, .ref 117, .ref 118, .ref 119, .int 338 0, .int 64 0, .str "/claim/cut.py" 339].toArray, #[]⟩
noncomputable def o121 (P : Params) : Obj := ⟨.type "function", none, .func (fn (f2 5 9) "_asdict" "Granularity._asdict" 3 [] (.none) (.none) (.none) (.str "limits.limits" 194) none (.ref 120) (.none) 0), #[]⟩
noncomputable def o122 (P : Params) : Obj := ⟨.type "tuple", none, .seq [].toArray 0, #[]⟩
noncomputable def o123 (P : Params) : Obj := ⟨.none, none, .fields [].toArray, #[]⟩
noncomputable def o124 (P : Params) : Obj := ⟨.type "tuple", none, .seq [.str "self" 344].toArray 0, #[]⟩
noncomputable def o125 (P : Params) : Obj := ⟨.type "tuple", none, .seq [].toArray 0, #[]⟩
noncomputable def o126 (P : Params) : Obj := ⟨.none, none, .func (fn (f2 5 10) "__getnewargs__" "Granularity.__getnewargs__" 0 [] (.none) (.none) (.none) (.none) none (.none) (.none) 0), #[]⟩
noncomputable def o127 (P : Params) : Obj := ⟨.type "code", none, .fields [.str "__getnewargs__" 341, .str "Granularity.__getnewargs__" 342, .str "/claim/cut.py" 343, .int 67 0, .int 1 0, .int 0 0, .int 0 0, .int 3 0, .ref 122, .bool true, .int 181 0, .ref 123, .none, .ref 124, .ref 125, .ref 126, .int 345 0, .int 67 0, .str "/claim/cut.py" 346].toArray, #[]⟩
noncomputable def o128 (P : Params) : Obj := ⟨.type "function", none, .func (fn (f2 5 10) "__getnewargs__" "Granularity.__getnewargs__" 3 [] (.none) (.none) (.str (d2 5 10) 347) (.str "limits.limits" 194) none (.ref 127) (.none) 0), #[]⟩
noncomputable def o129 (P : Params) : Obj := ⟨.type "tuple", none, .seq [.str "seconds" 349, .str "name" 350].toArray 0, #[]⟩
noncomputable def o130 (P : Params) : Obj := ⟨.type "dict", none, .dict [e P "index" 358 (.int 0 352), e P "__doc__" 360 (.str "Alias for field number 0" 353)].toArray 2, #[]⟩
noncomputable def o131 (P : Params) : Obj := ⟨.ref 60, some 130, .plain, #[]⟩
noncomputable def o132 (P : Params) : Obj := ⟨.type "frame", none, .dict [e P "self" 354 (.ref 131), e P "index" 355 (.int 0 352), e P "doc" 356 (.str "Alias for field number 0" 353)].toArray 3, #[]⟩
noncomputable def o133 (P : Params) : Obj := ⟨.type "dict", none, .dict [e P "index" 368 (.int 1 362), e P "__doc__" 370 (.str "Alias for field number 1" 363)].toArray 2, #[]⟩
noncomputable def o134 (P : Params) : Obj := ⟨.ref 60, some 133, .plain, #[]⟩
noncomputable def o135 (P : Params) : Obj := ⟨.type "frame", none, .dict [e P "self" 364 (.ref 134), e P "index" 365 (.int 1 362), e P "doc" 366 (.str "Alias for field number 1" 363)].toArray 3, #[]⟩
noncomputable def o136 (P : Params) : Obj := ⟨.type "tuple", none, .seq [].toArray 0, #[]⟩
noncomputable def o137 (P : Params) : Obj := ⟨.type "list", none, .seq [].toArray 0, #[]⟩
noncomputable def o138 (P : Params) : Obj := ⟨.type "dict", none, .dict [e P "__module__" 269 (.str "limits.limits" 194), e P "__firstlineno__" 273 (.int 31 272), e P "__doc__" 275 (.str (d1 5) 274), e P "__slots__" 277 (.ref 80), e P "_fields" 280 (.ref 81), e P "_field_defaults" 281 (.ref 82), e P "__new__" 291 (.ref 140), e P "_make" 313 (.ref 98), e P "_replace" 324 (.ref 107), e P "__replace__" 325 (.ref 107), e P "__repr__" 333 (.ref 114), e P "_asdict" 340 (.ref 121), e P "__getnewargs__" 348 (.ref 128), e P "__match_args__" 351 (.ref 129), e P "seconds" 361 (.ref 131), e P "name" 371 (.ref 134), e P "__static_attributes__" 372 (.ref 136)].toArray 2, #[]⟩
noncomputable def o139 (P : Params) : Obj := ⟨.type "type", none, .cls ⟨"Granularity", [.type "tuple"], [.ref 139, .type "tuple", .type "object"], 138, "Granularity", false, [], [], false, none, false⟩, #[some (.ref 72), none, some (.str "Granularity" 262), some (.str "Granularity" 270), some (.none), some (.bool false)]⟩
noncomputable def o140 (P : Params) : Obj := ⟨.type "staticmethod", none, .fields [.ref 89].toArray, #[]⟩
noncomputable def o141 (P : Params) : Obj := ⟨.type "super", none, .fields [.ref 139, .ref 139, .ref 139].toArray, #[]⟩
noncomputable def o142 (P : Params) : Obj := ⟨.type "builtin_function_or_method", none, .fields [.builtin "object.__init_subclass__", .ref 139].toArray, #[]⟩
noncomputable def t2 (P : Params) : BT := (n (boot_o_0 P) (n (boot_o_1 P) (n (o3v2 P) (n (boot_o_7 P) (n (o15 P) (n (o31 P) (n (o63 P) (l (o127 P)) z) (l (o95 P))) (n (o47 P) (l (o79 P)) (l (o111 P)))) (n (o23 P) (n (o39 P) (n (o71 P) (l (o135 P)) z) (l (o103 P))) (n (o55 P) (l (o87 P)) (l (o119 P))))) (n (o11 P) (n (o19 P) (n (o35 P) (n (o67 P) (l (o131 P)) z) (l (o99 P))) (n (o51 P) (l (o83 P)) (l (o115 P)))) (n (o27 P) (n (o43 P) (n (o75 P) (l (o139 P)) z) (l (o107 P))) (n (o59 P) (l (o91 P)) (l (o123 P)))))) (n (boot_o_5 P) (n (boot_o_9 P) (n (o17 P) (n (o33 P) (n (o65 P) (l (o129 P)) z) (l (o97 P))) (n (o49 P) (l (o81 P)) (l (o113 P)))) (n (o25 P) (n (o41 P) (n (o73 P) (l (o137 P)) z) (l (o105 P))) (n (o57 P) (l (o89 P)) (l (o121 P))))) (n (o13 P) (n (o21 P) (n (o37 P) (n (o69 P) (l (o133 P)) z) (l (o101 P))) (n (o53 P) (l (o85 P)) (l (o117 P)))) (n (o29 P) (n (o45 P) (n (o77 P) (l (o141 P)) z) (l (o109 P))) (n (o61 P) (l (o93 P)) (l (o125 P))))))) (n (boot_o_2 P) (n (boot_o_4 P) (n (boot_o_8 P) (n (o16 P) (n (o32 P) (n (o64 P) (l (o128 P)) z) (l (o96 P))) (n (o48 P) (l (o80 P)) (l (o112 P)))) (n (o24 P) (n (o40 P) (n (o72 P) (l (o136 P)) z) (l (o104 P))) (n (o56 P) (l (o88 P)) (l (o120 P))))) (n (o12v2 P) (n (o20 P) (n (o36 P) (n (o68 P) (l (o132 P)) z) (l (o100 P))) (n (o52 P) (l (o84 P)) (l (o116 P)))) (n (o28 P) (n (o44 P) (n (o76 P) (l (o140 P)) z) (l (o108 P))) (n (o60 P) (l (o92 P)) (l (o124 P)))))) (n (boot_o_6 P) (n (boot_o_10 P) (n (o18 P) (n (o34 P) (n (o66 P) (l (o130 P)) z) (l (o98 P))) (n (o50 P) (l (o82 P)) (l (o114 P)))) (n (o26 P) (n (o42 P) (n (o74 P) (l (o138 P)) z) (l (o106 P))) (n (o58 P) (l (o90 P)) (l (o122 P))))) (n (o14 P) (n (o22 P) (n (o38 P) (n (o70 P) (l (o134 P)) z) (l (o102 P))) (n (o54 P) (l (o86 P)) (l (o118 P)))) (n (o30 P) (n (o46 P) (n (o78 P) (l (o142 P)) z) (l (o110 P))) (n (o62 P) (l (o94 P)) (l (o126 P))))))))
abbrev S2 (w : World) (os : OsState) : SharedT := ⟨t2 w.params, 143, {}, #[], {}, 377, os⟩
noncomputable def o3v3 (P : Params) : Obj := ⟨.type "dict", none, .dict [e P "__name__" 165 (.str "limits.limits" 194), e P "__doc__" 166 (.none), e P "__package__" 167 (.none), e P "__loader__" 168 (.builtin "__main__.__loader__#opaque"), e P "__spec__" 169 (.none), e P "__annotations__" 170 (.ref 6), e P "__builtins__" 171 (.ref 4), e P "__file__" 173 (.str "/claim/cut.py" 172), e P "__cached__" 174 (.none), e P "_wall" 193 (.ref 21), e P "_tuplegetter" 252 (.ref 60), e P "tuplegetter_limits" 253 (.ref 60), e P "safe_string" 261 (.ref 71), e P "Granularity" 376 (.ref 139), e P "RateLimitItem" 474 (.ref 205), e P "RateLimitItemPerYear" 502 (.ref 224)].toArray 16, #[]⟩
noncomputable def o12v3 (P : Params) : Obj := ⟨.none, none, .fields [.int 1 0, .int 0 0, .ref 20, .int 5 0, .int 0 0, .ref 27, .int 24 0, .int 0 0, .ref 70, .int 31 0, .int 0 0, .ref 78, .int 73 0, .int 0 0, .ref 148, .int 128 0, .int 0 0, .ref 215].toArray, #[]⟩
noncomputable def o143 (P : Params) : Obj := ⟨.type "tuple", none, .seq [].toArray 0, #[]⟩
noncomputable def o144 (P : Params) : Obj := ⟨.type "builtin_function_or_method", none, .fields [.builtin "type.__prepare__", .type "type"].toArray, #[]⟩
noncomputable def o145 (P : Params) : Obj := ⟨.type "dict", none, .dict [e P "__module__" 384 (.str "limits.limits" 194), e P "__qualname__" 386 (.str "RateLimitItem" 385), e P "__firstlineno__" 388 (.int 73 387), e P "__doc__" 390 (.str (d1 6) 389), e P "__init__" 404 (.ref 157), e P "check_granularity_string" 425 (.ref 166), e P "get_expiry" 433 (.ref 174), e P "key_for" 440 (.ref 181), e P "__eq__" 448 (.ref 188), e P "__repr__" 455 (.ref 195), e P "__lt__" 463 (.ref 202), e P "__static_attributes__" 467 (.ref 203)].toArray 12, #[]⟩
noncomputable def o146 (P : Params) : Obj := ⟨.type "tuple", none, .seq [].toArray 0, #[]⟩
noncomputable def o147 (P : Params) : Obj := ⟨.none, none, .fields [.int 85 0, .int 4 0, .ref 156, .int 91 0, .int 4 0, .ref 163, .int 100 0, .int 4 0, .ref 173, .int 106 0, .int 4 0, .ref 180, .int 118 0, .int 4 0, .ref 187, .int 123 0, .int 4 0, .ref 194, .int 126 0, .int 4 0, .ref 201].toArray, #[]⟩
noncomputable def o148 (P : Params) : Obj := ⟨.type "code", none, .fields [.str "RateLimitItem" 379, .str "RateLimitItem" 380, .str "/claim/cut.py" 381, .int 73 0, .int 0 0, .int 0 0, .int 0 0, .int 0 0, .ref 146, .bool false, .int 181 0, .ref 147, .none, .none, .none, .none, .int 382 0, .int 73 0, .str "/claim/cut.py" 383].toArray, #[]⟩
noncomputable def o149 (P : Params) : Obj := ⟨.type "frame", none, .plain, #[some (.ref 148), some (.ref 3), some (.ref 145), none, some (.str "limits.limits" 194), none, some (.ref 0)]⟩
noncomputable def o150 (P : Params) : Obj := ⟨.type "tuple", none, .seq [.int 1 393, .str "LIMITER" 394].toArray 0, #[]⟩
noncomputable def o151 (P : Params) : Obj := ⟨.type "tuple", none, .seq [].toArray 0, #[]⟩
noncomputable def o152 (P : Params) : Obj := ⟨.none, none, .fields [].toArray, #[]⟩
noncomputable def o153 (P : Params) : Obj := ⟨.type "tuple", none, .seq [.str "self" 398, .str "amount" 399, .str "multiples" 400, .str "namespace" 401].toArray 0, #[]⟩
noncomputable def o154 (P : Params) : Obj := ⟨.type "tuple", none, .seq [].toArray 0, #[]⟩
noncomputable def o155 (P : Params) : Obj := ⟨.none, none, .func (fn (f2 6 2) "__init__" "RateLimitItem.__init__" 0 [] (.none) (.none) (.none) (.none) none (.none) (.none) 0), #[]⟩
noncomputable def o156 (P : Params) : Obj := ⟨.type "code", none, .fields [.str "__init__" 395, .str "RateLimitItem.__init__" 396, .str "/claim/cut.py" 397, .int 85 0, .int 4 0, .int 0 0, .int 0 0, .int 3 0, .ref 151, .bool true, .int 181 0, .ref 152, .none, .ref 153, .ref 154, .ref 155, .int 402 0, .int 85 0, .str "/claim/cut.py" 403].toArray, #[]⟩
noncomputable def o157 (P : Params) : Obj := ⟨.type "function", none, .func (fn (f2 6 2) "__init__" "RateLimitItem.__init__" 3 [] (.ref 150) (.none) (.none) (.str "limits.limits" 194) none (.ref 156) (.none) 0), #[]⟩
noncomputable def o158 (P : Params) : Obj := ⟨.type "tuple", none, .seq [].toArray 0, #[]⟩
noncomputable def o159 (P : Params) : Obj := ⟨.none, none, .fields [].toArray, #[]⟩
noncomputable def o160 (P : Params) : Obj := ⟨.type "tuple", none, .seq [.str "cls" 408, .str "granularity_string" 409].toArray 0, #[]⟩
noncomputable def o161 (P : Params) : Obj := ⟨.type "tuple", none, .seq [].toArray 0, #[]⟩
noncomputable def o162 (P : Params) : Obj := ⟨.none, none, .func (fn (f2 6 3) "check_granularity_string" "RateLimitItem.check_granularity_string" 0 [] (.none) (.none) (.none) (.none) none (.none) (.none) 0), #[]⟩
noncomputable def o163 (P : Params) : Obj := ⟨.type "code", none, .fields [.str "check_granularity_string" 405, .str "RateLimitItem.check_granularity_string" 406, .str "/claim/cut.py" 407, .int 90 0, .int 2 0, .int 0 0, .int 0 0, .int 3 0, .ref 158, .bool true, .int 181 0, .ref 159, .none, .ref 160, .ref 161, .ref 162, .int 410 0, .int 90 0, .str "/claim/cut.py" 411].toArray, #[]⟩
noncomputable def o164 (P : Params) : Obj := ⟨.type "function", none, .func (fn (f2 6 3) "check_granularity_string" "RateLimitItem.check_granularity_string" 3 [] (.none) (.none) (.str (d2 6 3) 412) (.str "limits.limits" 194) (some 167) (.ref 163) (.none) 0), #[]⟩
noncomputable def o165 (P : Params) : Obj := ⟨.type "dict", none, .dict [e P "__module__" 414 (.str "limits.limits" 194), e P "__name__" 417 (.str "check_granularity_string" 416), e P "__qualname__" 420 (.str "RateLimitItem.check_granularity_string" 419), e P "__doc__" 422 (.str (d2 6 3) 412), e P "__annotations__" 424 (.ref 167)].toArray 5, #[]⟩
noncomputable def o166 (P : Params) : Obj := ⟨.type "classmethod", some 165, .fields [.ref 164, .bool false].toArray, #[]⟩
noncomputable def o167 (P : Params) : Obj := ⟨.type "dict", none, .dict [].toArray 0, #[]⟩
noncomputable def o168 (P : Params) : Obj := ⟨.type "tuple", none, .seq [].toArray 0, #[]⟩
noncomputable def o169 (P : Params) : Obj := ⟨.none, none, .fields [].toArray, #[]⟩
noncomputable def o170 (P : Params) : Obj := ⟨.type "tuple", none, .seq [.str "self" 429].toArray 0, #[]⟩
noncomputable def o171 (P : Params) : Obj := ⟨.type "tuple", none, .seq [].toArray 0, #[]⟩
noncomputable def o172 (P : Params) : Obj := ⟨.none, none, .func (fn (f2 6 4) "get_expiry" "RateLimitItem.get_expiry" 0 [] (.none) (.none) (.none) (.none) none (.none) (.none) 0), #[]⟩
noncomputable def o173 (P : Params) : Obj := ⟨.type "code", none, .fields [.str "get_expiry" 426, .str "RateLimitItem.get_expiry" 427, .str "/claim/cut.py" 428, .int 100 0, .int 1 0, .int 0 0, .int 0 0, .int 3 0, .ref 168, .bool true, .int 181 0, .ref 169, .none, .ref 170, .ref 171, .ref 172, .int 430 0, .int 100 0, .str "/claim/cut.py" 431].toArray, #[]⟩
noncomputable def o174 (P : Params) : Obj := ⟨.type "function", none, .func (fn (f2 6 4) "get_expiry" "RateLimitItem.get_expiry" 3 [] (.none) (.none) (.str (d2 6 4) 432) (.str "limits.limits" 194) none (.ref 173) (.none) 0), #[]⟩
noncomputable def o175 (P : Params) : Obj := ⟨.type "tuple", none, .seq [].toArray 0, #[]⟩
noncomputable def o176 (P : Params) : Obj := ⟨.type "tuple", none, .seq [.ref 175].toArray 0, #[]⟩
noncomputable def o177 (P : Params) : Obj := ⟨.type "tuple", none, .seq [].toArray 0, #[]⟩
noncomputable def o178 (P : Params) : Obj := ⟨.none, none, .fields [].toArray, #[]⟩
noncomputable def o179 (P : Params) : Obj := ⟨.none, none, .func (fn (f2 6 5) "key_for" "RateLimitItem.key_for" 0 [] (.none) (.none) (.none) (.none) none (.none) (.none) 0), #[]⟩
noncomputable def o180 (P : Params) : Obj := ⟨.type "code", none, .fields [.str "key_for" 434, .str "RateLimitItem.key_for" 435, .str "/claim/cut.py" 436, .int 106 0, .int 2 0, .int 0 0, .int 0 0, .int 3 0, .ref 177, .bool true, .int 181 0, .ref 178, .none, .none, .none, .ref 179, .int 437 0, .int 106 0, .str "/claim/cut.py" 438].toArray, #[]⟩
noncomputable def o181 (P : Params) : Obj := ⟨.type "function", none, .func (fn (f2 6 5) "key_for" "RateLimitItem.key_for" 3 [] (.ref 176) (.none) (.str (d2 6 5) 439) (.str "limits.limits" 194) none (.ref 180) (.none) 0), #[]⟩
noncomputable def o182 (P : Params) : Obj := ⟨.type "tuple", none, .seq [].toArray 0, #[]⟩
noncomputable def o183 (P : Params) : Obj := ⟨.none, none, .fields [].toArray, #[]⟩
noncomputable def o184 (P : Params) : Obj := ⟨.type "tuple", none, .seq [.str "self" 444, .str "other" 445].toArray 0, #[]⟩
noncomputable def o185 (P : Params) : Obj := ⟨.type "tuple", none, .seq [].toArray 0, #[]⟩
noncomputable def o186 (P : Params) : Obj := ⟨.none, none, .func (fn (f2 6 6) "__eq__" "RateLimitItem.__eq__" 0 [] (.none) (.none) (.none) (.none) none (.none) (.none) 0), #[]⟩
noncomputable def o187 (P : Params) : Obj := ⟨.type "code", none, .fields [.str "__eq__" 441, .str "RateLimitItem.__eq__" 442, .str "/claim/cut.py" 443, .int 118 0, .int 2 0, .int 0 0, .int 0 0, .int 3 0, .ref 182, .bool true, .int 181 0, .ref 183, .none, .ref 184, .ref 185, .ref 186, .int 446 0, .int 118 0, .str "/claim/cut.py" 447].toArray, #[]⟩
noncomputable def o188 (P : Params) : Obj := ⟨.type "function", none, .func (fn (f2 6 6) "__eq__" "RateLimitItem.__eq__" 3 [] (.none) (.none) (.none) (.str "limits.limits" 194) none (.ref 187) (.none) 0), #[]⟩
noncomputable def o189 (P : Params) : Obj := ⟨.type "tuple", none, .seq [].toArray 0, #[]⟩
noncomputable def o190 (P : Params) : Obj := ⟨.none, none, .fields [].toArray, #[]⟩
noncomputable def o191 (P : Params) : Obj := ⟨.type "tuple", none, .seq [.str "self" 452].toArray 0, #[]⟩
noncomputable def o192 (P : Params) : Obj := ⟨.type "tuple", none, .seq [].toArray 0, #[]⟩
noncomputable def o193 (P : Params) : Obj := ⟨.none, none, .func (fn (f2 6 7) "__repr__" "RateLimitItem.__repr__" 0 [] (.none) (.none) (.none) (.none) none (.none) (.none) 0), #[]⟩
noncomputable def o194 (P : Params) : Obj := ⟨.type "code", none, .fields [.str "__repr__" 449, .str "RateLimitItem.__repr__" 450, .str "/claim/cut.py" 451, .int 123 0, .int 1 0, .int 0 0, .int 0 0, .int 3 0, .ref 189, .bool true, .int 181 0, .ref 190, .none, .ref 191, .ref 192, .ref 193, .int 453 0, .int 123 0, .str "/claim/cut.py" 454].toArray, #[]⟩
noncomputable def o195 (P : Params) : Obj := ⟨.type "function", none, .func (fn (f2 6 7) "__repr__" "RateLimitItem.__repr__" 3 [] (.none) (.none) (.none) (.str "limits.limits" 194) none (.ref 194) (.none) 0), #[]⟩
noncomputable def o196 (P : Params) : Obj := ⟨.type "tuple", none, .seq [].toArray 0, #[]⟩
noncomputable def o197 (P : Params) : Obj := ⟨.none, none, .fields [].toArray, #[]⟩
noncomputable def o198 (P : Params) : Obj := ⟨.type "tuple", none, .seq [.str "self" 459, .str "other" 460].toArray 0, #[]⟩
noncomputable def o199 (P : Params) : Obj := ⟨.type "tuple", none, .seq [].toArray 0, #[]⟩
noncomputable def o200 (P : Params) : Obj := ⟨.none, none, .func (fn (f2 6 8) "__lt__" "RateLimitItem.__lt__" 0 [] (.none) (.none) (.none) (.none) none (.none) (.none) 0), #[]⟩
noncomputable def o201 (P : Params) : Obj := ⟨.type "code", none, .fields [.str "__lt__" 456, .str "RateLimitItem.__lt__" 457, .str "/claim/cut.py" 458, .int 126 0, .int 2 0, .int 0 0, .int 0 0, .int 3 0, .ref 196, .bool true, .int 181 0, .ref 197, .none, .ref 198, .ref 199, .ref 200, .int 461 0, .int 126 0, .str "/claim/cut.py" 462].toArray, #[]⟩
noncomputable def o202 (P : Params) : Obj := ⟨.type "function", none, .func (fn (f2 6 8) "__lt__" "RateLimitItem.__lt__" 3 [] (.none) (.none) (.none) (.str "limits.limits" 194) none (.ref 201) (.none) 0), #[]⟩
noncomputable def o203 (P : Params) : Obj := ⟨.type "tuple", none, .seq [.str "amount" 464, .str "multiples" 465, .str "namespace" 466].toArray 0, #[]⟩
noncomputable def o204 (P : Params) : Obj := ⟨.type "dict", none, .dict [e P "__module__" 384 (.str "limits.limits" 194), e P "__firstlineno__" 388 (.int 73 387), e P "__doc__" 390 (.str (d1 6) 389), e P "__init__" 404 (.ref 157), e P "check_granularity_string" 425 (.ref 166), e P "get_expiry" 433 (.ref 174), e P "key_for" 440 (.ref 181), e P "__eq__" 448 (.ref 188), e P "__repr__" 455 (.ref 195), e P "__lt__" 463 (.ref 202), e P "__static_attributes__" 467 (.ref 203), e P "__dict__" 469 (.ref 206), e P "__weakref__" 471 (.ref 207), e P "__hash__" 472 (.none)].toArray 4, #[]⟩
noncomputable def o205 (P : Params) : Obj := ⟨.type "type", none, .cls ⟨"RateLimitItem", [.type "object"], [.ref 205, .type "object"], 204, "RateLimitItem", true, [], [.ref 224], false, none, false⟩, #[none, none, some (.str "RateLimitItem" 377), some (.str "RateLimitItem" 385), some (.builtin "object.__new__"), some (.bool true)]⟩
noncomputable def o206 (P : Params) : Obj := ⟨.type "getset_descriptor", none, .fields [.str "__dict__" 468, .ref 205, .builtin "function.__dict__", .builtin "function.__dict__#set"].toArray, #[]⟩
noncomputable def o207 (P : Params) : Obj := ⟨.type "getset_descriptor", none, .fields [.str "__weakref__" 470, .ref 205, .builtin "ExceptionGroup.__weakref__", .none].toArray, #[]⟩
noncomputable def o208 (P : Params) : Obj := ⟨.type "super", none, .fields [.ref 205, .ref 205, .ref 205].toArray, #[]⟩
noncomputable def o209 (P : Params) : Obj := ⟨.type "builtin_function_or_method", none, .fields [.builtin "object.__init_subclass__", .ref 205].toArray, #[]⟩
noncomputable def o210 (P : Params) : Obj := ⟨.type "tuple", none, .seq [.ref 205].toArray 0, #[]⟩
noncomputable def o211 (P : Params) : Obj := ⟨.type "builtin_function_or_method", none, .fields [.builtin "type.__prepare__", .type "type"].toArray, #[]⟩
noncomputable def o212 (P : Params) : Obj := ⟨.type "dict", none, .dict [e P "__module__" 482 (.str "limits.limits" 194), e P "__qualname__" 484 (.str "RateLimitItemPerYear" 483), e P "__firstlineno__" 486 (.int 128 485), e P "__doc__" 488 (.str (d1 7) 487), e P "GRANULARITY" 498 (.ref 221), e P "__static_attributes__" 500 (.ref 222)].toArray 6, #[]⟩
noncomputable def o213 (P : Params) : Obj := ⟨.type "tuple", none, .seq [].toArray 0, #[]⟩
noncomputable def o214 (P : Params) : Obj := ⟨.none, none, .fields [].toArray, #[]⟩
noncomputable def o215 (P : Params) : Obj := ⟨.type "code", none, .fields [.str "RateLimitItemPerYear" 477, .str "RateLimitItemPerYear" 478, .str "/claim/cut.py" 479, .int 128 0, .int 0 0, .int 0 0, .int 0 0, .int 0 0, .ref 213, .bool false, .int 181 0, .ref 214, .none, .none, .none, .none, .int 480 0, .int 128 0, .str "/claim/cut.py" 481].toArray, #[]⟩
noncomputable def o216 (P : Params) : Obj := ⟨.type "frame", none, .plain, #[some (.ref 215), some (.ref 3), some (.ref 212), none, some (.str "limits.limits" 194), none, some (.ref 0)]⟩
noncomputable def o217 (P : Params) : Obj := ⟨.type "frame", none, .dict [e P "_cls" 493 (.ref 139), e P "seconds" 494 (.int 31104000 490), e P "name" 495 (.str "year" 491)].toArray 3, #[]⟩
noncomputable def o218 (P : Params) : Obj := ⟨.type "tuple", none, .seq [.int 31104000 490, .str "year" 491].toArray 0, #[]⟩
noncomputable def o219 (P : Params) : Obj := ⟨.type "list", none, .seq [.int 31104000 490, .str "year" 491].toArray 1, #[]⟩
noncomputable def o220 (P : Params) : Obj := ⟨.type "dict", none, .dict [].toArray 0, #[]⟩
noncomputable def o221 (P : Params) : Obj := ⟨.ref 139, some 220, .seq [.int 31104000 490, .str "year" 491].toArray 0, #[]⟩
noncomputable def o222 (P : Params) : Obj := ⟨.type "tuple", none, .seq [].toArray 0, #[]⟩
noncomputable def o223 (P : Params) : Obj := ⟨.type "dict", none, .dict [e P "__module__" 482 (.str "limits.limits" 194), e P "__firstlineno__" 486 (.int 128 485), e P "__doc__" 488 (.str (d1 7) 487), e P "GRANULARITY" 498 (.ref 221), e P "__static_attributes__" 500 (.ref 222)].toArray 1, #[]⟩
noncomputable def o224 (P : Params) : Obj := ⟨.type "type", none, .cls ⟨"RateLimitItemPerYear", [.ref 205], [.ref 224, .ref 205, .type "object"], 223, "RateLimitItemPerYear", true, [], [], false, none, false⟩, #[some (.ref 210), none, some (.str "RateLimitItemPerYear" 475), some (.str "RateLimitItemPerYear" 483), some (.builtin "object.__new__"), some (.bool true)]⟩
noncomputable def o225 (P : Params) : Obj := ⟨.type "super", none, .fields [.ref 224, .ref 224, .ref 224].toArray, #[]⟩
noncomputable def o226 (P : Params) : Obj := ⟨.type "builtin_function_or_method", none, .fields [.builtin "object.__init_subclass__", .ref 224].toArray, #[]⟩
noncomputable def t3 (P : Params) : BT := (n (boot_o_0 P) (n (boot_o_1 P) (n (o3v3 P) (n (boot_o_7 P) (n (o15 P) (n (o31 P) (n (o63 P) (l (o127 P)) (l (o191 P))) (n (o95 P) (l (o159 P)) (l (o223 P)))) (n (o47 P) (n (o79 P) (l (o143 P)) (l (o207 P))) (n (o111 P) (l (o175 P)) z))) (n (o23 P) (n (o39 P) (n (o71 P) (l (o135 P)) (l (o199 P))) (n (o103 P) (l (o167 P)) z)) (n (o55 P) (n (o87 P) (l (o151 P)) (l (o215 P))) (n (o119 P) (l (o183 P)) z)))) (n (o11 P) (n (o19 P) (n (o35 P) (n (o67 P) (l (o131 P)) (l (o195 P))) (n (o99 P) (l (o163 P)) z)) (n (o51 P) (n (o83 P) (l (o147 P)) (l (o211 P))) (n (o115 P) (l (o179 P)) z))) (n (o27 P) (n (o43 P) (n (o75 P) (l (o139 P)) (l (o203 P))) (n (o107 P) (l (o171 P)) z)) (n (o59 P) (n (o91 P) (l (o155 P)) (l (o219 P))) (n (o123 P) (l (o187 P)) z))))) (n (boot_o_5 P) (n (boot_o_9 P) (n (o17 P) (n (o33 P) (n (o65 P) (l (o129 P)) (l (o193 P))) (n (o97 P) (l (o161 P)) (l (o225 P)))) (n (o49 P) (n (o81 P) (l (o145 P)) (l (o209 P))) (n (o113 P) (l (o177 P)) z))) (n (o25 P) (n (o41 P) (n (o73 P) (l (o137 P)) (l (o201 P))) (n (o105 P) (l (o169 P)) z)) (n (o57 P) (n (o89 P) (l (o153 P)) (l (o217 P))) (n (o121 P) (l (o185 P)) z)))) (n (o13 P) (n (o21 P) (n (o37 P) (n (o69 P) (l (o133 P)) (l (o197 P))) (n (o101 P) (l (o165 P)) z)) (n (o53 P) (n (o85 P) (l (o149 P)) (l (o213 P))) (n (o117 P) (l (o181 P)) z))) (n (o29 P) (n (o45 P) (n (o77 P) (l (o141 P)) (l (o205 P))) (n (o109 P) (l (o173 P)) z)) (n (o61 P) (n (o93 P) (l (o157 P)) (l (o221 P))) (n (o125 P) (l (o189 P)) z)))))) (n (boot_o_2 P) (n (boot_o_4 P) (n (boot_o_8 P) (n (o16 P) (n (o32 P) (n (o64 P) (l (o128 P)) (l (o192 P))) (n (o96 P) (l (o160 P)) (l (o224 P)))) (n (o48 P) (n (o80 P) (l (o144 P)) (l (o208 P))) (n (o112 P) (l (o176 P)) z))) (n (o24 P) (n (o40 P) (n (o72 P) (l (o136 P)) (l (o200 P))) (n (o104 P) (l (o168 P)) z)) (n (o56 P) (n (o88 P) (l (o152 P)) (l (o216 P))) (n (o120 P) (l (o184 P)) z)))) (n (o12v3 P) (n (o20 P) (n (o36 P) (n (o68 P) (l (o132 P)) (l (o196 P))) (n (o100 P) (l (o164 P)) z)) (n (o52 P) (n (o84 P) (l (o148 P)) (l (o212 P))) (n (o116 P) (l (o180 P)) z))) (n (o28 P) (n (o44 P) (n (o76 P) (l (o140 P)) (l (o204 P))) (n (o108 P) (l (o172 P)) z)) (n (o60 P) (n (o92 P) (l (o156 P)) (l (o220 P))) (n (o124 P) (l (o188 P)) z))))) (n (boot_o_6 P) (n (boot_o_10 P) (n (o18 P) (n (o34 P) (n (o66 P) (l (o130 P)) (l (o194 P))) (n (o98 P) (l (o162 P)) (l (o226 P)))) (n (o50 P) (n (o82 P) (l (o146 P)) (l (o210 P))) (n (o114 P) (l (o178 P)) z))) (n (o26 P) (n (o42 P) (n (o74 P) (l (o138 P)) (l (o202 P))) (n (o106 P) (l (o170 P)) z)) (n (o58 P) (n (o90 P) (l (o154 P)) (l (o218 P))) (n (o122 P) (l (o186 P)) z)))) (n (o14 P) (n (o22 P) (n (o38 P) (n (o70 P) (l (o134 P)) (l (o198 P))) (n (o102 P) (l (o166 P)) z)) (n (o54 P) (n (o86 P) (l (o150 P)) (l (o214 P))) (n (o118 P) (l (o182 P)) z))) (n (o30 P) (n (o46 P) (n (o78 P) (l (o142 P)) (l (o206 P))) (n (o110 P) (l (o174 P)) z)) (n (o62 P) (n (o94 P) (l (o158 P)) (l (o222 P))) (n (o126 P) (l (o190 P)) z)))))))
abbrev S3 (w : World) (os : OsState) : SharedT := ⟨t3 w.params, 227, {}, #[], {}, 503, os⟩
noncomputable def o3v4 (P : Params) : Obj := ⟨.type "dict", none, .dict [e P "__name__" 165 (.str "limits.limits" 194), e P "__doc__" 166 (.none), e P "__package__" 167 (.none), e P "__loader__" 168 (.builtin "__main__.__loader__#opaque"), e P "__spec__" 169 (.none), e P "__annotations__" 170 (.ref 6), e P "__builtins__" 171 (.ref 4), e P "__file__" 173 (.str "/claim/cut.py" 172), e P "__cached__" 174 (.none), e P "_wall" 193 (.ref 21), e P "_tuplegetter" 252 (.ref 60), e P "tuplegetter_limits" 253 (.ref 60), e P "safe_string" 261 (.ref 71), e P "Granularity" 376 (.ref 139), e P "RateLimitItem" 474 (.ref 205), e P "RateLimitItemPerYear" 502 (.ref 224), e P "RateLimitItemPerMonth" 530 (.ref 241), e P "RateLimitItemPerDay" 558 (.ref 258)].toArray 18, #[]⟩
noncomputable def o12v4 (P : Params) : Obj := ⟨.none, none, .fields [.int 1 0, .int 0 0, .ref 20, .int 5 0, .int 0 0, .ref 27, .int 24 0, .int 0 0, .ref 70, .int 31 0, .int 0 0, .ref 78, .int 73 0, .int 0 0, .ref 148, .int 128 0, .int 0 0, .ref 215, .int 134 0, .int 0 0, .ref 232, .int 140 0, .int 0 0, .ref 249].toArray, #[]⟩
noncomputable def o205v1 (P : Params) : Obj := ⟨.type "type", none, .cls ⟨"RateLimitItem", [.type "object"], [.ref 205, .type "object"], 204, "RateLimitItem", true, [], [.ref 224, .ref 241, .ref 258], false, none, false⟩, #[none, none, some (.str "RateLimitItem" 377), some (.str "RateLimitItem" 385), some (.builtin "object.__new__"), some (.bool true)]⟩
noncomputable def o227 (P : Params) : Obj := ⟨.type "tuple", none, .seq [.ref 205].toArray 0, #[]⟩
noncomputable def o228 (P : Params) : Obj := ⟨.type "builtin_function_or_method", none, .fields [.builtin "type.__prepare__", .type "type"].toArray, #[]⟩
noncomputable def o229 (P : Params) : Obj := ⟨.type "dict", none, .dict [e P "__module__" 510 (.str "limits.limits" 194), e P "__qualname__" 512 (.str "RateLimitItemPerMonth" 511), e P "__firstlineno__" 514 (.int 134 513), e P "__doc__" 516 (.str (d1 8) 515), e P "GRANULARITY" 526 (.ref 238), e P "__static_attributes__" 528 (.ref 239)].toArray 6, #[]⟩
noncomputable def o230 (P : Params) : Obj := ⟨.type "tuple", none, .seq [].toArray 0, #[]⟩
noncomputable def o231 (P : Params) : Obj := ⟨.none, none, .fields [].toArray, #[]⟩
noncomputable def o232 (P : Params) : Obj := ⟨.type "code", none, .fields [.str "RateLimitItemPerMonth" 505, .str "RateLimitItemPerMonth" 506, .str "/claim/cut.py" 507, .int 134 0, .int 0 0, .int 0 0, .int 0 0, .int 0 0, .ref 230, .bool false, .int 181 0, .ref 231, .none, .none, .none, .none, .int 508 0, .int 134 0, .str "/claim/cut.py" 509].toArray, #[]⟩
noncomputable def o233 (P : Params) : Obj := ⟨.type "frame", none, .plain, #[some (.ref 232), some (.ref 3), some (.ref 229), none, some (.str "limits.limits" 194), none, some (.ref 0)]⟩
noncomputable def o234 (P : Params) : Obj := ⟨.type "frame", none, .dict [e P "_cls" 521 (.ref 139), e P "seconds" 522 (.int 2592000 518), e P "name" 523 (.str "month" 519)].toArray 3, #[]⟩
noncomputable def o235 (P : Params) : Obj := ⟨.type "tuple", none, .seq [.int 2592000 518, .str "month" 519].toArray 0, #[]⟩
noncomputable def o236 (P : Params) : Obj := ⟨.type "list", none, .seq [.int 2592000 518, .str "month" 519].toArray 1, #[]⟩
noncomputable def o237 (P : Params) : Obj := ⟨.type "dict", none, .dict [].toArray 0, #[]⟩
noncomputable def o238 (P : Params) : Obj := ⟨.ref 139, some 237, .seq [.int 2592000 518, .str "month" 519].toArray 0, #[]⟩
noncomputable def o239 (P : Params) : Obj := ⟨.type "tuple", none, .seq [].toArray 0, #[]⟩
noncomputable def o240 (P : Params) : Obj := ⟨.type "dict", none, .dict [e P "__module__" 510 (.str "limits.limits" 194), e P "__firstlineno__" 514 (.int 134 513), e P "__doc__" 516 (.str (d1 8) 515), e P "GRANULARITY" 526 (.ref 238), e P "__static_attributes__" 528 (.ref 239)].toArray 1, #[]⟩
noncomputable def o241 (P : Params) : Obj := ⟨.type "type", none, .cls ⟨"RateLimitItemPerMonth", [.ref 205], [.ref 241, .ref 205, .type "object"], 240, "RateLimitItemPerMonth", true, [], [], false, none, false⟩, #[some (.ref 227), none, some (.str "RateLimitItemPerMonth" 503), some (.str "RateLimitItemPerMonth" 511), some (.builtin "object.__new__"), some (.bool true)]⟩
noncomputable def o242 (P : Params) : Obj := ⟨.type "super", none, .fields [.ref 241, .ref 241, .ref 241].toArray, #[]⟩
noncomputable def o243 (P : Params) : Obj := ⟨.type "builtin_function_or_method", none, .fields [.builtin "object.__init_subclass__", .ref 241].toArray, #[]⟩
noncomputable def o244 (P : Params) : Obj := ⟨.type "tuple", none, .seq [.ref 205].toArray 0, #[]⟩
noncomputable def o245 (P : Params) : Obj := ⟨.type "builtin_function_or_method", none, .fields [.builtin "type.__prepare__", .type "type"].toArray, #[]⟩
noncomputable def o246 (P : Params) : Obj := ⟨.type "dict", none, .dict [e P "__module__" 538 (.str "limits.limits" 194), e P "__qualname__" 540 (.str "RateLimitItemPerDay" 539), e P "__firstlineno__" 542 (.int 140 541), e P "__doc__" 544 (.str (d1 9) 543), e P "GRANULARITY" 554 (.ref 255), e P "__static_attributes__" 556 (.ref 256)].toArray 6, #[]⟩
noncomputable def o247 (P : Params) : Obj := ⟨.type "tuple", none, .seq [].toArray 0, #[]⟩
noncomputable def o248 (P : Params) : Obj := ⟨.none, none, .fields [].toArray, #[]⟩
noncomputable def o249 (P : Params) : Obj := ⟨.type "code", none, .fields [.str "RateLimitItemPerDay" 533, .str "RateLimitItemPerDay" 534, .str "/claim/cut.py" 535, .int 140 0, .int 0 0, .int 0 0, .int 0 0, .int 0 0, .ref 247, .bool false, .int 181 0, .ref 248, .none, .none, .none, .none, .int 536 0, .int 140 0, .str "/claim/cut.py" 537].toArray, #[]⟩
noncomputable def o250 (P : Params) : Obj := ⟨.type "frame", none, .plain, #[some (.ref 249), some (.ref 3), some (.ref 246), none, some (.str "limits.limits" 194), none, some (.ref 0)]⟩
noncomputable def o251 (P : Params) : Obj := ⟨.type "frame", none, .dict [e P "_cls" 549 (.ref 139), e P "seconds" 550 (.int 86400 546), e P "name" 551 (.str "day" 547)].toArray 3, #[]⟩
noncomputable def o252 (P : Params) : Obj := ⟨.type "tuple", none, .seq [.int 86400 546, .str "day" 547].toArray 0, #[]⟩
noncomputable def o253 (P : Params) : Obj := ⟨.type "list", none, .seq [.int 86400 546, .str "day" 547].toArray 1, #[]⟩
noncomputable def o254 (P : Params) : Obj := ⟨.type "dict", none, .dict [].toArray 0, #[]⟩
noncomputable def o255 (P : Params) : Obj := ⟨.ref 139, some 254, .seq [.int 86400 546, .str "day" 547].toArray 0, #[]⟩
noncomputable def o256 (P : Params) : Obj := ⟨.type "tuple", none, .seq [].toArray 0, #[]⟩
noncomputable def o257 (P : Params) : Obj := ⟨.type "dict", none, .dict [e P "__module__" 538 (.str "limits.limits" 194), e P "__firstlineno__" 542 (.int 140 541), e P "__doc__" 544 (.str (d1 9) 543), e P "GRANULARITY" 554 (.ref 255), e P "__static_attributes__" 556 (.ref 256)].toArray 1, #[]⟩
noncomputable def o258 (P : Params) : Obj := ⟨.type "type", none, .cls ⟨"RateLimitItemPerDay", [.ref 205], [.ref 258, .ref 205, .type "object"], 257, "RateLimitItemPerDay", true, [], [], false, none, false⟩, #[some (.ref 244), none, some (.str "RateLimitItemPerDay" 531), some (.str "RateLimitItemPerDay" 539), some (.builtin "object.__new__"), some (.bool true)]⟩
noncomputable def o259 (P : Params) : Obj := ⟨.type "super", none, .fields [.ref 258, .ref 258, .ref 258].toArray, #[]⟩
noncomputable def o260 (P : Params) : Obj := ⟨.type "builtin_function_or_method", none, .fields [.builtin "object.__init_subclass__", .ref 258].toArray, #[]⟩
noncomputable def t4 (P : Params) : BT := (n (boot_o_0 P) (n (boot_o_1 P) (n (o3v4 P) (n (boot_o_7 P) (n (o15 P) (n (o31 P) (n (o63 P) (n (o127 P) (l (o255 P)) z) (l (o191 P))) (n (o95 P) (l (o159 P)) (l (o223 P)))) (n (o47 P) (n (o79 P) (l (o143 P)) (l (o207 P))) (n (o111 P) (l (o175 P)) (l (o239 P))))) (n (o23 P) (n (o39 P) (n (o71 P) (l (o135 P)) (l (o199 P))) (n (o103 P) (l (o167 P)) (l (o231 P)))) (n (o55 P) (n (o87 P) (l (o151 P)) (l (o215 P))) (n (o119 P) (l (o183 P)) (l (o247 P)))))) (n (o11 P) (n (o19 P) (n (o35 P) (n (o67 P) (n (o131 P) (l (o259 P)) z) (l (o195 P))) (n (o99 P) (l (o163 P)) (l (o227 P)))) (n (o51 P) (n (o83 P) (l (o147 P)) (l (o211 P))) (n (o115 P) (l (o179 P)) (l (o243 P))))) (n (o27 P) (n (o43 P) (n (o75 P) (l (o139 P)) (l (o203 P))) (n (o107 P) (l (o171 P)) (l (o235 P)))) (n (o59 P) (n (o91 P) (l (o155 P)) (l (o219 P))) (n (o123 P) (l (o187 P)) (l (o251 P))))))) (n (boot_o_5 P) (n (boot_o_9 P) (n (o17 P) (n (o33 P) (n (o65 P) (n (o129 P) (l (o257 P)) z) (l (o193 P))) (n (o97 P) (l (o161 P)) (l (o225 P)))) (n (o49 P) (n (o81 P) (l (o145 P)) (l (o209 P))) (n (o113 P) (l (o177 P)) (l (o241 P))))) (n (o25 P) (n (o41 P) (n (o73 P) (l (o137 P)) (l (o201 P))) (n (o105 P) (l (o169 P)) (l (o233 P)))) (n (o57 P) (n (o89 P) (l (o153 P)) (l (o217 P))) (n (o121 P) (l (o185 P)) (l (o249 P)))))) (n (o13 P) (n (o21 P) (n (o37 P) (n (o69 P) (l (o133 P)) (l (o197 P))) (n (o101 P) (l (o165 P)) (l (o229 P)))) (n (o53 P) (n (o85 P) (l (o149 P)) (l (o213 P))) (n (o117 P) (l (o181 P)) (l (o245 P))))) (n (o29 P) (n (o45 P) (n (o77 P) (l (o141 P)) (l (o205v1 P))) (n (o109 P) (l (o173 P)) (l (o237 P)))) (n (o61 P) (n (o93 P) (l (o157 P)) (l (o221 P))) (n (o125 P) (l (o189 P)) (l (o253 P)))))))) (n (boot_o_2 P) (n (boot_o_4 P) (n (boot_o_8 P) (n (o16 P) (n (o32 P) (n (o64 P) (n (o128 P) (l (o256 P)) z) (l (o192 P))) (n (o96 P) (l (o160 P)) (l (o224 P)))) (n (o48 P) (n (o80 P) (l (o144 P)) (l (o208 P))) (n (o112 P) (l (o176 P)) (l (o240 P))))) (n (o24 P) (n (o40 P) (n (o72 P) (l (o136 P)) (l (o200 P))) (n (o104 P) (l (o168 P)) (l (o232 P)))) (n (o56 P) (n (o88 P) (l (o152 P)) (l (o216 P))) (n (o120 P) (l (o184 P)) (l (o248 P)))))) (n (o12v4 P) (n (o20 P) (n (o36 P) (n (o68 P) (n (o132 P) (l (o260 P)) z) (l (o196 P))) (n (o100 P) (l (o164 P)) (l (o228 P)))) (n (o52 P) (n (o84 P) (l (o148 P)) (l (o212 P))) (n (o116 P) (l (o180 P)) (l (o244 P))))) (n (o28 P) (n (o44 P) (n (o76 P) (l (o140 P)) (l (o204 P))) (n (o108 P) (l (o172 P)) (l (o236 P)))) (n (o60 P) (n (o92 P) (l (o156 P)) (l (o220 P))) (n (o124 P) (l (o188 P)) (l (o252 P))))))) (n (boot_o_6 P) (n (boot_o_10 P) (n (o18 P) (n (o34 P) (n (o66 P) (n (o130 P) (l (o258 P)) z) (l (o194 P))) (n (o98 P) (l (o162 P)) (l (o226 P)))) (n (o50 P) (n (o82 P) (l (o146 P)) (l (o210 P))) (n (o114 P) (l (o178 P)) (l (o242 P))))) (n (o26 P) (n (o42 P) (n (o74 P) (l (o138 P)) (l (o202 P))) (n (o106 P) (l (o170 P)) (l (o234 P)))) (n (o58 P) (n (o90 P) (l (o154 P)) (l (o218 P))) (n (o122 P) (l (o186 P)) (l (o250 P)))))) (n (o14 P) (n (o22 P) (n (o38 P) (n (o70 P) (l (o134 P)) (l (o198 P))) (n (o102 P) (l (o166 P)) (l (o230 P)))) (n (o54 P) (n (o86 P) (l (o150 P)) (l (o214 P))) (n (o118 P) (l (o182 P)) (l (o246 P))))) (n (o30 P) (n (o46 P) (n (o78 P) (l (o142 P)) (l (o206 P))) (n (o110 P) (l (o174 P)) (l (o238 P)))) (n (o62 P) (n (o94 P) (l (o158 P)) (l (o222 P))) (n (o126 P) (l (o190 P)) (l (o254 P)))))))))
abbrev S4 (w : World) (os : OsState) : SharedT := ⟨t4 w.params, 261, {}, #[], {}, 559, os⟩
noncomputable def o3v5 (P : Params) : Obj := ⟨.type "dict", none, .dict [e P "__name__" 165 (.str "limits.limits" 194), e P "__doc__" 166 (.none), e P "__package__" 167 (.none), e P "__loader__" 168 (.builtin "__main__.__loader__#opaque"), e P "__spec__" 169 (.none), e P "__annotations__" 170 (.ref 6), e P "__builtins__" 171 (.ref 4), e P "__file__" 173 (.str "/claim/cut.py" 172), e P "__cached__" 174 (.none), e P "_wall" 193 (.ref 21), e P "_tuplegetter" 252 (.ref 60), e P "tuplegetter_limits" 253 (.ref 60), e P "safe_string" 261 (.ref 71), e P "Granularity" 376 (.ref 139), e P "RateLimitItem" 474 (.ref 205), e P "RateLimitItemPerYear" 502 (.ref 224), e P "RateLimitItemPerMonth" 530 (.ref 241), e P "RateLimitItemPerDay" 558 (.ref 258), e P "RateLimitItemPerHour" 586 (.ref 275), e P "RateLimitItemPerMinute" 614 (.ref 292)].toArray 20, #[]⟩
noncomputable def o12v5 (P : Params) : Obj := ⟨.none, none, .fields [.int 1 0, .int 0 0, .ref 20, .int 5 0, .int 0 0, .ref 27, .int 24 0, .int 0 0, .ref 70, .int 31 0, .int 0 0, .ref 78, .int 73 0, .int 0 0, .ref 148, .int 128 0, .int 0 0, .ref 215, .int 134 0, .int 0 0, .ref 232, .int 140 0, .int 0 0, .ref 249, .int 146 0, .int 0 0, .ref 266, .int 152 0, .int 0 0, .ref 283].toArray, #[]⟩
noncomputable def o205v2 (P : Params) : Obj := ⟨.type "type", none, .cls ⟨"RateLimitItem", [.type "object"], [.ref 205, .type "object"], 204, "RateLimitItem", true, [], [.ref 224, .ref 241, .ref 258, .ref 275, .ref 292], false, none, false⟩, #[none, none, some (.str "RateLimitItem" 377), some (.str "RateLimitItem" 385), some (.builtin "object.__new__"), some (.bool true)]⟩
noncomputable def o261 (P : Params) : Obj := ⟨.type "tuple", none, .seq [.ref 205].toArray 0, #[]⟩
noncomputable def o262 (P : Params) : Obj := ⟨.type "builtin_function_or_method", none, .fields [.builtin "type.__prepare__", .type "type"].toArray, #[]⟩
noncomputable def o263 (P : Params) : Obj := ⟨.type "dict", none, .dict [e P "__module__" 566 (.str "limits.limits" 194), e P "__qualname__" 568 (.str "RateLimitItemPerHour" 567), e P "__firstlineno__" 570 (.int 146 569), e P "__doc__" 572 (.str (d1 10) 571), e P "GRANULARITY" 582 (.ref 272), e P "__static_attributes__" 584 (.ref 273)].toArray 6, #[]⟩
noncomputable def o264 (P : Params) : Obj := ⟨.type "tuple", none, .seq [].toArray 0, #[]⟩
noncomputable def o265 (P : Params) : Obj := ⟨.none, none, .fields [].toArray, #[]⟩
noncomputable def o266 (P : Params) : Obj := ⟨.type "code", none, .fields [.str "RateLimitItemPerHour" 561, .str "RateLimitItemPerHour" 562, .str "/claim/cut.py" 563, .int 146 0, .int 0 0, .int 0 0, .int 0 0, .int 0 0, .ref 264, .bool false, .int 181 0, .ref 265, .none, .none, .none, .none, .int 564 0, .int 146 0, .str "/claim/cut.py" 565].toArray, #[]⟩
noncomputable def o267 (P : Params) : Obj := ⟨.type "frame", none, .plain, #[some (.ref 266), some (.ref 3), some (.ref 263), none, some (.str "limits.limits" 194), none, some (.ref 0)]⟩
noncomputable def o268 (P : Params) : Obj := ⟨.type "frame", none, .dict [e P "_cls" 577 (.ref 139), e P "seconds" 578 (.int 3600 574), e P "name" 579 (.str "hour" 575)].toArray 3, #[]⟩
noncomputable def o269 (P : Params) : Obj := ⟨.type "tuple", none, .seq [.int 3600 574, .str "hour" 575].toArray 0, #[]⟩
noncomputable def o270 (P : Params) : Obj := ⟨.type "list", none, .seq [.int 3600 574, .str "hour" 575].toArray 1, #[]⟩
noncomputable def o271 (P : Params) : Obj := ⟨.type "dict", none, .dict [].toArray 0, #[]⟩
noncomputable def o272 (P : Params) : Obj := ⟨.ref 139, some 271, .seq [.int 3600 574, .str "hour" 575].toArray 0, #[]⟩
noncomputable def o273 (P : Params) : Obj := ⟨.type "tuple", none, .seq [].toArray 0, #[]⟩
noncomputable def o274 (P : Params) : Obj := ⟨.type "dict", none, .dict [e P "__module__" 566 (.str "limits.limits" 194), e P "__firstlineno__" 570 (.int 146 569), e P "__doc__" 572 (.str (d1 10) 571), e P "GRANULARITY" 582 (.ref 272), e P "__static_attributes__" 584 (.ref 273)].toArray 1, #[]⟩
noncomputable def o275 (P : Params) : Obj := ⟨.type "type", none, .cls ⟨"RateLimitItemPerHour", [.ref 205], [.ref 275, .ref 205, .type "object"], 274, "RateLimitItemPerHour", true, [], [], false, none, false⟩, #[some (.ref 261), none, some (.str "RateLimitItemPerHour" 559), some (.str "RateLimitItemPerHour" 567), some (.builtin "object.__new__"), some (.bool true)]⟩
noncomputable def o276 (P : Params) : Obj := ⟨.type "super", none, .fields [.ref 275, .ref 275, .ref 275].toArray, #[]⟩
noncomputable def o277 (P : Params) : Obj := ⟨.type "builtin_function_or_method", none, .fields [.builtin "object.__init_subclass__", .ref 275].toArray, #[]⟩
noncomputable def o278 (P : Params) : Obj := ⟨.type "tuple", none, .seq [.ref 205].toArray 0, #[]⟩
noncomputable def o279 (P : Params) : Obj := ⟨.type "builtin_function_or_method", none, .fields [.builtin "type.__prepare__", .type "type"].toArray, #[]⟩
noncomputable def o280 (P : Params) : Obj := ⟨.type "dict", none, .dict [e P "__module__" 594 (.str "limits.limits" 194), e P "__qualname__" 596 (.str "RateLimitItemPerMinute" 595), e P "__firstlineno__" 598 (.int 152 597), e P "__doc__" 600 (.str (d1 11) 599), e P "GRANULARITY" 610 (.ref 289), e P "__static_attributes__" 612 (.ref 290)].toArray 6, #[]⟩
noncomputable def o281 (P : Params) : Obj := ⟨.type "tuple", none, .seq [].toArray 0, #[]⟩
noncomputable def o282 (P : Params) : Obj := ⟨.none, none, .fields [].toArray, #[]⟩
noncomputable def o283 (P : Params) : Obj := ⟨.type "code", none, .fields [.str "RateLimitItemPerMinute" 589, .str "RateLimitItemPerMinute" 590, .str "/claim/cut.py" 591, .int 152 0, .int 0 0, .int 0 0, .int 0 0, .int 0 0, .ref 281, .bool false, .int 181 0, .ref 282, .none, .none, .none, .none, .int 592 0, .int 152 0, .str "/claim/cut.py" 593].toArray, #[]⟩
noncomputable def o284 (P : Params) : Obj := ⟨.type "frame", none, .plain, #[some (.ref 283), some (.ref 3), some (.ref 280), none, some (.str "limits.limits" 194), none, some (.ref 0)]⟩
noncomputable def o285 (P : Params) : Obj := ⟨.type "frame", none, .dict [e P "_cls" 605 (.ref 139), e P "seconds" 606 (.int 60 602), e P "name" 607 (.str "minute" 603)].toArray 3, #[]⟩
noncomputable def o286 (P : Params) : Obj := ⟨.type "tuple", none, .seq [.int 60 602, .str "minute" 603].toArray 0, #[]⟩
noncomputable def o287 (P : Params) : Obj := ⟨.type "list", none, .seq [.int 60 602, .str "minute" 603].toArray 1, #[]⟩
noncomputable def o288 (P : Params) : Obj := ⟨.type "dict", none, .dict [].toArray 0, #[]⟩
noncomputable def o289 (P : Params) : Obj := ⟨.ref 139, some 288, .seq [.int 60 602, .str "minute" 603].toArray 0, #[]⟩
noncomputable def o290 (P : Params) : Obj := ⟨.type "tuple", none, .seq [].toArray 0, #[]⟩
noncomputable def o291 (P : Params) : Obj := ⟨.type "dict", none, .dict [e P "__module__" 594 (.str "limits.limits" 194), e P "__firstlineno__" 598 (.int 152 597), e P "__doc__" 600 (.str (d1 11) 599), e P "GRANULARITY" 610 (.ref 289), e P "__static_attributes__" 612 (.ref 290)].toArray 1, #[]⟩
noncomputable def o292 (P : Params) : Obj := ⟨.type "type", none, .cls ⟨"RateLimitItemPerMinute", [.ref 205], [.ref 292, .ref 205, .type "object"], 291, "RateLimitItemPerMinute", true, [], [], false, none, false⟩, #[some (.ref 278), none, some (.str "RateLimitItemPerMinute" 587), some (.str "RateLimitItemPerMinute" 595), some (.builtin "object.__new__"), some (.bool true)]⟩
noncomputable def o293 (P : Params) : Obj := ⟨.type "super", none, .fields [.ref 292, .ref 292, .ref 292].toArray, #[]⟩
noncomputable def o294 (P : Params) : Obj := ⟨.type "builtin_function_or_method", none, .fields [.builtin "object.__init_subclass__", .ref 292].toArray, #[]⟩
noncomputable def t5 (P : Params) : BT := (n (boot_o_0 P) (n (boot_o_1 P) (n (o3v5 P) (n (boot_o_7 P) (n (o15 P) (n (o31 P) (n (o63 P) (n (o127 P) (l (o255 P)) z) (l (o191 P))) (n (o95 P) (n (o159 P) (l (o287 P)) z) (l (o223 P)))) (n (o47 P) (n (o79 P) (n (o143 P) (l (o271 P)) z) (l (o207 P))) (n (o111 P) (l (o175 P)) (l (o239 P))))) (n (o23 P) (n (o39 P) (n (o71 P) (n (o135 P) (l (o263 P)) z) (l (o199 P))) (n (o103 P) (l (o167 P)) (l (o231 P)))) (n (o55 P) (n (o87 P) (n (o151 P) (l (o279 P)) z) (l (o215 P))) (n (o119 P) (l (o183 P)) (l (o247 P)))))) (n (o11 P) (n (o19 P) (n (o35 P) (n (o67 P) (n (o131 P) (l (o259 P)) z) (l (o195 P))) (n (o99 P) (n (o163 P) (l (o291 P)) z) (l (o227 P)))) (n (o51 P) (n (o83 P) (n (o147 P) (l (o275 P)) z) (l (o211 P))) (n (o115 P) (l (o179 P)) (l (o243 P))))) (n (o27 P) (n (o43 P) (n (o75 P) (n (o139 P) (l (o267 P)) z) (l (o203 P))) (n (o107 P) (l (o171 P)) (l (o235 P)))) (n (o59 P) (n (o91 P) (n (o155 P) (l (o283 P)) z) (l (o219 P))) (n (o123 P) (l (o187 P)) (l (o251 P))))))) (n (boot_o_5 P) (n (boot_o_9 P) (n (o17 P) (n (o33 P) (n (o65 P) (n (o129 P) (l (o257 P)) z) (l (o193 P))) (n (o97 P) (n (o161 P) (l (o289 P)) z) (l (o225 P)))) (n (o49 P) (n (o81 P) (n (o145 P) (l (o273 P)) z) (l (o209 P))) (n (o113 P) (l (o177 P)) (l (o241 P))))) (n (o25 P) (n (o41 P) (n (o73 P) (n (o137 P) (l (o265 P)) z) (l (o201 P))) (n (o105 P) (l (o169 P)) (l (o233 P)))) (n (o57 P) (n (o89 P) (n (o153 P) (l (o281 P)) z) (l (o217 P))) (n (o121 P) (l (o185 P)) (l (o249 P)))))) (n (o13 P) (n (o21 P) (n (o37 P) (n (o69 P) (n (o133 P) (l (o261 P)) z) (l (o197 P))) (n (o101 P) (n (o165 P) (l (o293 P)) z) (l (o229 P)))) (n (o53 P) (n (o85 P) (n (o149 P) (l (o277 P)) z) (l (o213 P))) (n (o117 P) (l (o181 P)) (l (o245 P))))) (n (o29 P) (n (o45 P) (n (o77 P) (n (o141 P) (l (o269 P)) z) (l (o205v2 P))) (n (o109 P) (l (o173 P)) (l (o237 P)))) (n (o61 P) (n (o93 P) (n (o157 P) (l (o285 P)) z) (l (o221 P))) (n (o125 P) (l (o189 P)) (l (o253 P)))))))) (n (boot_o_2 P) (n (boot_o_4 P) (n (boot_o_8 P) (n (o16 P) (n (o32 P) (n (o64 P) (n (o128 P) (l (o256 P)) z) (l (o192 P))) (n (o96 P) (n (o160 P) (l (o288 P)) z) (l (o224 P)))) (n (o48 P) (n (o80 P) (n (o144 P) (l (o272 P)) z) (l (o208 P))) (n (o112 P) (l (o176 P)) (l (o240 P))))) (n (o24 P) (n (o40 P) (n (o72 P) (n (o136 P) (l (o264 P)) z) (l (o200 P))) (n (o104 P) (l (o168 P)) (l (o232 P)))) (n (o56 P) (n (o88 P) (n (o152 P) (l (o280 P)) z) (l (o216 P))) (n (o120 P) (l (o184 P)) (l (o248 P)))))) (n (o12v5 P) (n (o20 P) (n (o36 P) (n (o68 P) (n (o132 P) (l (o260 P)) z) (l (o196 P))) (n (o100 P) (n (o164 P) (l (o292 P)) z) (l (o228 P)))) (n (o52 P) (n (o84 P) (n (o148 P) (l (o276 P)) z) (l (o212 P))) (n (o116 P) (l (o180 P)) (l (o244 P))))) (n (o28 P) (n (o44 P) (n (o76 P) (n (o140 P) (l (o268 P)) z) (l (o204 P))) (n (o108 P) (l (o172 P)) (l (o236 P)))) (n (o60 P) (n (o92 P) (n (o156 P) (l (o284 P)) z) (l (o220 P))) (n (o124 P) (l (o188 P)) (l (o252 P))))))) (n (boot_o_6 P) (n (boot_o_10 P) (n (o18 P) (n (o34 P) (n (o66 P) (n (o130 P) (l (o258 P)) z) (l (o194 P))) (n (o98 P) (n (o162 P) (l (o290 P)) z) (l (o226 P)))) (n (o50 P) (n (o82 P) (n (o146 P) (l (o274 P)) z) (l (o210 P))) (n (o114 P) (l (o178 P)) (l (o242 P))))) (n (o26 P) (n (o42 P) (n (o74 P) (n (o138 P) (l (o266 P)) z) (l (o202 P))) (n (o106 P) (l (o170 P)) (l (o234 P)))) (n (o58 P) (n (o90 P) (n (o154 P) (l (o282 P)) z) (l (o218 P))) (n (o122 P) (l (o186 P)) (l (o250 P)))))) (n (o14 P) (n (o22 P) (n (o38 P) (n (o70 P) (n (o134 P) (l (o262 P)) z) (l (o198 P))) (n (o102 P) (n (o166 P) (l (o294 P)) z) (l (o230 P)))) (n (o54 P) (n (o86 P) (n (o150 P) (l (o278 P)) z) (l (o214 P))) (n (o118 P) (l (o182 P)) (l (o246 P))))) (n (o30 P) (n (o46 P) (n (o78 P) (n (o142 P) (l (o270 P)) z) (l (o206 P))) (n (o110 P) (l (o174 P)) (l (o238 P)))) (n (o62 P) (n (o94 P) (n (o158 P) (l (o286 P)) z) (l (o222 P))) (n (o126 P) (l (o190 P)) (l (o254 P)))))))))
abbrev S5 (w : World) (os : OsState) : SharedT := ⟨t5 w.params, 295, {}, #[], {}, 615, os⟩
noncomputable def o3v6 (P : Params) : Obj := ⟨.type "dict", none, .dict [e P "__name__" 165 (.str "limits.storage.memory" 691), e P "__doc__" 166 (.none), e P "__package__" 167 (.none), e P "__loader__" 168 (.builtin "__main__.__loader__#opaque"), e P "__spec__" 169 (.none), e P "__annotations__" 170 (.ref 6), e P "__builtins__" 171 (.ref 4), e P "__file__" 173 (.str "/claim/cut.py" 172), e P "__cached__" 174 (.none), e P "_wall" 193 (.ref 21), e P "_tuplegetter" 252 (.ref 60), e P "tuplegetter_limits" 253 (.ref 60), e P "safe_string" 261 (.ref 71), e P "Granularity" 376 (.ref 139), e P "RateLimitItem" 474 (.ref 205), e P "RateLimitItemPerYear" 502 (.ref 224), e P "RateLimitItemPerMonth" 530 (.ref 241), e P "RateLimitItemPerDay" 558 (.ref 258), e P "RateLimitItemPerHour" 586 (.ref 275), e P "RateLimitItemPerMinute" 614 (.ref 292), e P "RateLimitItemPerSecond" 642 (.ref 309), e P "TimestampedSlidingWindow" 690 (.ref 331)].toArray 22, #[]⟩
noncomputable def o12v6 (P : Params) : Obj := ⟨.none, none, .fields [.int 1 0, .int 0 0, .ref 20, .int 5 0, .int 0 0, .ref 27, .int 24 0, .int 0 0, .ref 70, .int 31 0, .int 0 0, .ref 78, .int 73 0, .int 0 0, .ref 148, .int 128 0, .int 0 0, .ref 215, .int 134 0, .int 0 0, .ref 232, .int 140 0, .int 0 0, .ref 249, .int 146 0, .int 0 0, .ref 266, .int 152 0, .int 0 0, .ref 283, .int 158 0, .int 0 0, .ref 300, .int 165 0, .int 0 0, .ref 317].toArray, #[]⟩
noncomputable def o205v3 (P : Params) : Obj := ⟨.type "type", none, .cls ⟨"RateLimitItem", [.type "object"], [.ref 205, .type "object"], 204, "RateLimitItem", true, [], [.ref 224, .ref 241, .ref 258, .ref 275, .ref 292, .ref 309], false, none, false⟩, #[none, none, some (.str "RateLimitItem" 377), some (.str "RateLimitItem" 385), some (.builtin "object.__new__"), some (.bool true)]⟩
noncomputable def o295 (P : Params) : Obj := ⟨.type "tuple", none, .seq [.ref 205].toArray 0, #[]⟩
noncomputable def o296 (P : Params) : Obj := ⟨.type "builtin_function_or_method", none, .fields [.builtin "type.__prepare__", .type "type"].toArray, #[]⟩
noncomputable def o297 (P : Params) : Obj := ⟨.type "dict", none, .dict [e P "__module__" 622 (.str "limits.limits" 194), e P "__qualname__" 624 (.str "RateLimitItemPerSecond" 623), e P "__firstlineno__" 626 (.int 158 625), e P "__doc__" 628 (.str (d1 12) 627), e P "GRANULARITY" 638 (.ref 306), e P "__static_attributes__" 640 (.ref 307)].toArray 6, #[]⟩
noncomputable def o298 (P : Params) : Obj := ⟨.type "tuple", none, .seq [].toArray 0, #[]⟩
noncomputable def o299 (P : Params) : Obj := ⟨.none, none, .fields [].toArray, #[]⟩
noncomputable def o300 (P : Params) : Obj := ⟨.type "code", none, .fields [.str "RateLimitItemPerSecond" 617, .str "RateLimitItemPerSecond" 618, .str "/claim/cut.py" 619, .int 158 0, .int 0 0, .int 0 0, .int 0 0, .int 0 0, .ref 298, .bool false, .int 181 0, .ref 299, .none, .none, .none, .none, .int 620 0, .int 158 0, .str "/claim/cut.py" 621].toArray, #[]⟩
noncomputable def o301 (P : Params) : Obj := ⟨.type "frame", none, .plain, #[some (.ref 300), some (.ref 3), some (.ref 297), none, some (.str "limits.limits" 194), none, some (.ref 0)]⟩
noncomputable def o302 (P : Params) : Obj := ⟨.type "frame", none, .dict [e P "_cls" 633 (.ref 139), e P "seconds" 634 (.int 1 630), e P "name" 635 (.str "second" 631)].toArray 3, #[]⟩
noncomputable def o303 (P : Params) : Obj := ⟨.type "tuple", none, .seq [.int 1 630, .str "second" 631].toArray 0, #[]⟩
noncomputable def o304 (P : Params) : Obj := ⟨.type "list", none, .seq [.int 1 630, .str "second" 631].toArray 1, #[]⟩
noncomputable def o305 (P : Params) : Obj := ⟨.type "dict", none, .dict [].toArray 0, #[]⟩
noncomputable def o306 (P : Params) : Obj := ⟨.ref 139, some 305, .seq [.int 1 630, .str "second" 631].toArray 0, #[]⟩
noncomputable def o307 (P : Params) : Obj := ⟨.type "tuple", none, .seq [].toArray 0, #[]⟩
noncomputable def o308 (P : Params) : Obj := ⟨.type "dict", none, .dict [e P "__module__" 622 (.str "limits.limits" 194), e P "__firstlineno__" 626 (.int 158 625), e P "__doc__" 628 (.str (d1 12) 627), e P "GRANULARITY" 638 (.ref 306), e P "__static_attributes__" 640 (.ref 307)].toArray 1, #[]⟩
noncomputable def o309 (P : Params) : Obj := ⟨.type "type", none, .cls ⟨"RateLimitItemPerSecond", [.ref 205], [.ref 309, .ref 205, .type "object"], 308, "RateLimitItemPerSecond", true, [], [], false, none, false⟩, #[some (.ref 295), none, some (.str "RateLimitItemPerSecond" 615), some (.str "RateLimitItemPerSecond" 623), some (.builtin "object.__new__"), some (.bool true)]⟩
noncomputable def o310 (P : Params) : Obj := ⟨.type "super", none, .fields [.ref 309, .ref 309, .ref 309].toArray, #[]⟩
noncomputable def o311 (P : Params) : Obj := ⟨.type "builtin_function_or_method", none, .fields [.builtin "object.__init_subclass__", .ref 309].toArray, #[]⟩
noncomputable def o312 (P : Params) : Obj := ⟨.type "tuple", none, .seq [].toArray 0, #[]⟩
noncomputable def o313 (P : Params) : Obj := ⟨.type "builtin_function_or_method", none, .fields [.builtin "type.__prepare__", .type "type"].toArray, #[]⟩
noncomputable def o314 (P : Params) : Obj := ⟨.type "dict", none, .dict [e P "__module__" 652 (.str "limits.storage.base" 643), e P "__qualname__" 654 (.str "TimestampedSlidingWindow" 653), e P "__firstlineno__" 656 (.int 165 655), e P "__doc__" 658 (.str (d1 14) 657), e P "sliding_window_keys" 683 (.ref 327), e P "__static_attributes__" 684 (.ref 329)].toArray 6, #[]⟩
noncomputable def o315 (P : Params) : Obj := ⟨.type "tuple", none, .seq [].toArray 0, #[]⟩
noncomputable def o316 (P : Params) : Obj := ⟨.none, none, .fields [.int 169 0, .int 4 0, .ref 324].toArray, #[]⟩
noncomputable def o317 (P : Params) : Obj := ⟨.type "code", none, .fields [.str "TimestampedSlidingWindow" 647, .str "TimestampedSlidingWindow" 648, .str "/claim/cut.py" 649, .int 165 0, .int 0 0, .int 0 0, .int 0 0, .int 0 0, .ref 315, .bool false, .int 181 0, .ref 316, .none, .none, .none, .none, .int 650 0, .int 165 0, .str "/claim/cut.py" 651].toArray, #[]⟩
noncomputable def o318 (P : Params) : Obj := ⟨.type "frame", none, .plain, #[some (.ref 317), some (.ref 3), some (.ref 314), none, some (.str "limits.storage.base" 643), none, some (.ref 0)]⟩
noncomputable def o319 (P : Params) : Obj := ⟨.type "tuple", none, .seq [].toArray 0, #[]⟩
noncomputable def o320 (P : Params) : Obj := ⟨.none, none, .fields [].toArray, #[]⟩
noncomputable def o321 (P : Params) : Obj := ⟨.type "tuple", none, .seq [.str "cls" 663, .str "key" 664, .str "expiry" 665, .str "at" 666, .str "previous" 667].toArray 0, #[]⟩
noncomputable def o322 (P : Params) : Obj := ⟨.type "tuple", none, .seq [].toArray 0, #[]⟩
noncomputable def o323 (P : Params) : Obj := ⟨.none, none, .func (fn (f2 14 1) "sliding_window_keys" "TimestampedSlidingWindow.sliding_window_keys" 0 [] (.none) (.none) (.none) (.none) none (.none) (.none) 0), #[]⟩
noncomputable def o324 (P : Params) : Obj := ⟨.type "code", none, .fields [.str "sliding_window_keys" 660, .str "TimestampedSlidingWindow.sliding_window_keys" 661, .str "/claim/cut.py" 662, .int 168 0, .int 4 0, .int 0 0, .int 0 0, .int 3 0, .ref 319, .bool true, .int 181 0, .ref 320, .none, .ref 321, .ref 322, .ref 323, .int 668 0, .int 168 0, .str "/claim/cut.py" 669].toArray, #[]⟩
noncomputable def o325 (P : Params) : Obj := ⟨.type "function", none, .func (fn (f2 14 1) "sliding_window_keys" "TimestampedSlidingWindow.sliding_window_keys" 3 [] (.none) (.none) (.str (d2 14 1) 670) (.str "limits.storage.base" 643) (some 328) (.ref 324) (.none) 0), #[]⟩
noncomputable def o326 (P : Params) : Obj := ⟨.type "dict", none, .dict [e P "__module__" 672 (.str "limits.storage.base" 643), e P "__name__" 675 (.str "sliding_window_keys" 674), e P "__qualname__" 678 (.str "TimestampedSlidingWindow.sliding_window_keys" 677), e P "__doc__" 680 (.str (d2 14 1) 670), e P "__annotations__" 682 (.ref 328)].toArray 5, #[]⟩
noncomputable def o327 (P : Params) : Obj := ⟨.type "classmethod", some 326, .fields [.ref 325, .bool false].toArray, #[]⟩
noncomputable def o328 (P : Params) : Obj := ⟨.type "dict", none, .dict [].toArray 0, #[]⟩
noncomputable def o329 (P : Params) : Obj := ⟨.type "tuple", none, .seq [].toArray 0, #[]⟩
noncomputable def o330 (P : Params) : Obj := ⟨.type "dict", none, .dict [e P "__module__" 652 (.str "limits.storage.base" 643), e P "__firstlineno__" 656 (.int 165 655), e P "__doc__" 658 (.str (d1 14) 657), e P "sliding_window_keys" 683 (.ref 327), e P "__static_attributes__" 684 (.ref 329), e P "__dict__" 686 (.ref 332), e P "__weakref__" 688 (.ref 333)].toArray 3, #[]⟩
noncomputable def o331 (P : Params) : Obj := ⟨.type "type", none, .cls ⟨"TimestampedSlidingWindow", [.type "object"], [.ref 331, .type "object"], 330, "TimestampedSlidingWindow", true, [], [], false, none, false⟩, #[none, none, some (.str "TimestampedSlidingWindow" 645), some (.str "TimestampedSlidingWindow" 653), some (.builtin "object.__new__"), some (.bool true)]⟩
noncomputable def o332 (P : Params) : Obj := ⟨.type "getset_descriptor", none, .fields [.str "__dict__" 685, .ref 331, .builtin "function.__dict__", .builtin "function.__dict__#set"].toArray, #[]⟩
noncomputable def o333 (P : Params) : Obj := ⟨.type "getset_descriptor", none, .fields [.str "__weakref__" 687, .ref 331, .builtin "ExceptionGroup.__weakref__", .none].toArray, #[]⟩
noncomputable def o334 (P : Params) : Obj := ⟨.type "super", none, .fields [.ref 331, .ref 331, .ref 331].toArray, #[]⟩
noncomputable def o335 (P : Params) : Obj := ⟨.type "builtin_function_or_method", none, .fields [.builtin "object.__init_subclass__", .ref 331].toArray, #[]⟩
noncomputable def t6 (P : Params) : BT := (n (boot_o_0 P) (n (boot_o_1 P) (n (o3v6 P) (n (boot_o_7 P) (n (o15 P) (n (o31 P) (n (o63 P) (n (o127 P) (l (o255 P)) z) (n (o191 P) (l (o319 P)) z)) (n (o95 P) (n (o159 P) (l (o287 P)) z) (l (o223 P)))) (n (o47 P) (n (o79 P) (n (o143 P) (l (o271 P)) z) (n (o207 P) (l (o335 P)) z)) (n (o111 P) (n (o175 P) (l (o303 P)) z) (l (o239 P))))) (n (o23 P) (n (o39 P) (n (o71 P) (n (o135 P) (l (o263 P)) z) (n (o199 P) (l (o327 P)) z)) (n (o103 P) (n (o167 P) (l (o295 P)) z) (l (o231 P)))) (n (o55 P) (n (o87 P) (n (o151 P) (l (o279 P)) z) (l (o215 P))) (n (o119 P) (n (o183 P) (l (o311 P)) z) (l (o247 P)))))) (n (o11 P) (n (o19 P) (n (o35 P) (n (o67 P) (n (o131 P) (l (o259 P)) z) (n (o195 P) (l (o323 P)) z)) (n (o99 P) (n (o163 P) (l (o291 P)) z) (l (o227 P)))) (n (o51 P) (n (o83 P) (n (o147 P) (l (o275 P)) z) (l (o211 P))) (n (o115 P) (n (o179 P) (l (o307 P)) z) (l (o243 P))))) (n (o27 P) (n (o43 P) (n (o75 P) (n (o139 P) (l (o267 P)) z) (n (o203 P) (l (o331 P)) z)) (n (o107 P) (n (o171 P) (l (o299 P)) z) (l (o235 P)))) (n (o59 P) (n (o91 P) (n (o155 P) (l (o283 P)) z) (l (o219 P))) (n (o123 P) (n (o187 P) (l (o315 P)) z) (l (o251 P))))))) (n (boot_o_5 P) (n (boot_o_9 P) (n (o17 P) (n (o33 P) (n (o65 P) (n (o129 P) (l (o257 P)) z) (n (o193 P) (l (o321 P)) z)) (n (o97 P) (n (o161 P) (l (o289 P)) z) (l (o225 P)))) (n (o49 P) (n (o81 P) (n (o145 P) (l (o273 P)) z) (l (o209 P))) (n (o113 P) (n (o177 P) (l (o305 P)) z) (l (o241 P))))) (n (o25 P) (n (o41 P) (n (o73 P) (n (o137 P) (l (o265 P)) z) (n (o201 P) (l (o329 P)) z)) (n (o105 P) (n (o169 P) (l (o297 P)) z) (l (o233 P)))) (n (o57 P) (n (o89 P) (n (o153 P) (l (o281 P)) z) (l (o217 P))) (n (o121 P) (n (o185 P) (l (o313 P)) z) (l (o249 P)))))) (n (o13 P) (n (o21 P) (n (o37 P) (n (o69 P) (n (o133 P) (l (o261 P)) z) (n (o197 P) (l (o325 P)) z)) (n (o101 P) (n (o165 P) (l (o293 P)) z) (l (o229 P)))) (n (o53 P) (n (o85 P) (n (o149 P) (l (o277 P)) z) (l (o213 P))) (n (o117 P) (n (o181 P) (l (o309 P)) z) (l (o245 P))))) (n (o29 P) (n (o45 P) (n (o77 P) (n (o141 P) (l (o269 P)) z) (n (o205v3 P) (l (o333 P)) z)) (n (o109 P) (n (o173 P) (l (o301 P)) z) (l (o237 P)))) (n (o61 P) (n (o93 P) (n (o157 P) (l (o285 P)) z) (l (o221 P))) (n (o125 P) (n (o189 P) (l (o317 P)) z) (l (o253 P)))))))) (n (boot_o_2 P) (n (boot_o_4 P) (n (boot_o_8 P) (n (o16 P) (n (o32 P) (n (o64 P) (n (o128 P) (l (o256 P)) z) (n (o192 P) (l (o320 P)) z)) (n (o96 P) (n (o160 P) (l (o288 P)) z) (l (o224 P)))) (n (o48 P) (n (o80 P) (n (o144 P) (l (o272 P)) z) (l (o208 P))) (n (o112 P) (n (o176 P) (l (o304 P)) z) (l (o240 P))))) (n (o24 P) (n (o40 P) (n (o72 P) (n (o136 P) (l (o264 P)) z) (n (o200 P) (l (o328 P)) z)) (n (o104 P) (n (o168 P) (l (o296 P)) z) (l (o232 P)))) (n (o56 P) (n (o88 P) (n (o152 P) (l (o280 P)) z) (l (o216 P))) (n (o120 P) (n (o184 P) (l (o312 P)) z) (l (o248 P)))))) (n (o12v6 P) (n (o20 P) (n (o36 P) (n (o68 P) (n (o132 P) (l (o260 P)) z) (n (o196 P) (l (o324 P)) z)) (n (o100 P) (n (o164 P) (l (o292 P)) z) (l (o228 P)))) (n (o52 P) (n (o84 P) (n (o148 P) (l (o276 P)) z) (l (o212 P))) (n (o116 P) (n (o180 P) (l (o308 P)) z) (l (o244 P))))) (n (o28 P) (n (o44 P) (n (o76 P) (n (o140 P) (l (o268 P)) z) (n (o204 P) (l (o332 P)) z)) (n (o108 P) (n (o172 P) (l (o300 P)) z) (l (o236 P)))) (n (o60 P) (n (o92 P) (n (o156 P) (l (o284 P)) z) (l (o220 P))) (n (o124 P) (n (o188 P) (l (o316 P)) z) (l (o252 P))))))) (n (boot_o_6 P) (n (boot_o_10 P) (n (o18 P) (n (o34 P) (n (o66 P) (n (o130 P) (l (o258 P)) z) (n (o194 P) (l (o322 P)) z)) (n (o98 P) (n (o162 P) (l (o290 P)) z) (l (o226 P)))) (n (o50 P) (n (o82 P) (n (o146 P) (l (o274 P)) z) (l (o210 P))) (n (o114 P) (n (o178 P) (l (o306 P)) z) (l (o242 P))))) (n (o26 P) (n (o42 P) (n (o74 P) (n (o138 P) (l (o266 P)) z) (n (o202 P) (l (o330 P)) z)) (n (o106 P) (n (o170 P) (l (o298 P)) z) (l (o234 P)))) (n (o58 P) (n (o90 P) (n (o154 P) (l (o282 P)) z) (l (o218 P))) (n (o122 P) (n (o186 P) (l (o314 P)) z) (l (o250 P)))))) (n (o14 P) (n (o22 P) (n (o38 P) (n (o70 P) (n (o134 P) (l (o262 P)) z) (n (o198 P) (l (o326 P)) z)) (n (o102 P) (n (o166 P) (l (o294 P)) z) (l (o230 P)))) (n (o54 P) (n (o86 P) (n (o150 P) (l (o278 P)) z) (l (o214 P))) (n (o118 P) (n (o182 P) (l (o310 P)) z) (l (o246 P))))) (n (o30 P) (n (o46 P) (n (o78 P) (n (o142 P) (l (o270 P)) z) (n (o206 P) (l (o334 P)) z)) (n (o110 P) (n (o174 P) (l (o302 P)) z) (l (o238 P)))) (n (o62 P) (n (o94 P) (n (o158 P) (l (o286 P)) z) (l (o222 P))) (n (o126 P) (n (o190 P) (l (o318 P)) z) (l (o254 P)))))))))
abbrev S6 (w : World) (os : OsState) : SharedT := ⟨t6 w.params, 336, {}, #[], {}, 693, os⟩
noncomputable def o3v7 (P : Params) : Obj := ⟨.type "dict", none, .dict [e P "__name__" 165 (.str "limits.util" 876), e P "__doc__" 166 (.none), e P "__package__" 167 (.none), e P "__loader__" 168 (.builtin "__main__.__loader__#opaque"), e P "__spec__" 169 (.none), e P "__annotations__" 170 (.ref 6), e P "__builtins__" 171 (.ref 4), e P "__file__" 173 (.str "/claim/cut.py" 172), e P "__cached__" 174 (.none), e P "_wall" 193 (.ref 21), e P "_tuplegetter" 252 (.ref 60), e P "tuplegetter_limits" 253 (.ref 60), e P "safe_string" 261 (.ref 71), e P "Granularity" 376 (.ref 139), e P "RateLimitItem" 474 (.ref 205), e P "RateLimitItemPerYear" 502 (.ref 224), e P "RateLimitItemPerMonth" 530 (.ref 241), e P "RateLimitItemPerDay" 558 (.ref 258), e P "RateLimitItemPerHour" 586 (.ref 275), e P "RateLimitItemPerMinute" 614 (.ref 292), e P "RateLimitItemPerSecond" 642 (.ref 309), e P "TimestampedSlidingWindow" 690 (.ref 331), e P "MemoryStorage" 875 (.ref 454)].toArray 23, #[]⟩
noncomputable def o12v7 (P : Params) : Obj := ⟨.none, none, .fields [.int 1 0, .int 0 0, .ref 20, .int 5 0, .int 0 0, .ref 27, .int 24 0, .int 0 0, .ref 70, .int 31 0, .int 0 0, .ref 78, .int 73 0, .int 0 0, .ref 148, .int 128 0, .int 0 0, .ref 215, .int 134 0, .int 0 0, .ref 232, .int 140 0, .int 0 0, .ref 249, .int 146 0, .int 0 0, .ref 266, .int 152 0, .int 0 0, .ref 283, .int 158 0, .int 0 0, .ref 300, .int 165 0, .int 0 0, .ref 317, .int 192 0, .int 0 0, .ref 341].toArray, #[]⟩
noncomputable def o331v1 (P : Params) : Obj := ⟨.type "type", none, .cls ⟨"TimestampedSlidingWindow", [.type "object"], [.ref 331, .type "object"], 330, "TimestampedSlidingWindow", true, [], [.ref 454], false, none, false⟩, #[none, none, some (.str "TimestampedSlidingWindow" 645), some (.str "TimestampedSlidingWindow" 653), some (.builtin "object.__new__"), some (.bool true)]⟩
noncomputable def o336 (P : Params) : Obj := ⟨.type "tuple", none, .seq [.ref 331].toArray 0, #[]⟩
noncomputable def o337 (P : Params) : Obj := ⟨.type "builtin_function_or_method", none, .fields [.builtin "type.__prepare__", .type "type"].toArray, #[]⟩
noncomputable def o338 (P : Params) : Obj := ⟨.type "dict", none, .dict [e P "__module__" 700 (.str "limits.storage.memory" 691), e P "__qualname__" 702 (.str "MemoryStorage" 701), e P "__firstlineno__" 704 (.int 192 703), e P "__doc__" 706 (.str (d1 16) 705), e P "__init__" 715 (.ref 349), e P "expire_events" 722 (.ref 356), e P "incr" 734 (.ref 364), e P "decr" 745 (.ref 372), e P "get" 754 (.ref 379), e P "clear" 763 (.ref 386), e P "acquire_entry" 775 (.ref 394), e P "get_expiry" 784 (.ref 401), e P "get_moving_window" 794 (.ref 408), e P "acquire_sliding_window_entry" 814 (.ref 416), e P "_get_sliding_window_info" 829 (.ref 423), e P "get_sliding_window" 841 (.ref 430), e P "clear_sliding_window" 853 (.ref 437), e P "check" 860 (.ref 444), e P "reset" 868 (.ref 451), e P "__static_attributes__" 873 (.ref 452)].toArray 20, #[]⟩
noncomputable def o339 (P : Params) : Obj := ⟨.type "tuple", none, .seq [].toArray 0, #[]⟩
noncomputable def o340 (P : Params) : Obj := ⟨.none, none, .fields [.int 200 0, .int 4 0, .ref 348, .int 206 0, .int 4 0, .ref 355, .int 209 0, .int 4 0, .ref 363, .int 223 0, .int 4 0, .ref 371, .int 234 0, .int 4 0, .ref 378, .int 243 0, .int 4 0, .ref 385, .int 251 0, .int 4 0, .ref 393, .int 254 0, .int 4 0, .ref 400, .int 260 0, .int 4 0, .ref 407, .int 263 0, .int 4 0, .ref 415, .int 280 0, .int 4 0, .ref 422, .int 290 0, .int 4 0, .ref 429, .int 295 0, .int 4 0, .ref 436, .int 301 0, .int 4 0, .ref 443, .int 304 0, .int 4 0, .ref 450].toArray, #[]⟩
noncomputable def o341 (P : Params) : Obj := ⟨.type "code", none, .fields [.str "MemoryStorage" 695, .str "MemoryStorage" 696, .str "/claim/cut.py" 697, .int 192 0, .int 0 0, .int 0 0, .int 0 0, .int 0 0, .ref 339, .bool false, .int 181 0, .ref 340, .none, .none, .none, .none, .int 698 0, .int 192 0, .str "/claim/cut.py" 699].toArray, #[]⟩
noncomputable def o342 (P : Params) : Obj := ⟨.type "frame", none, .plain, #[some (.ref 341), some (.ref 3), some (.ref 338), none, some (.str "limits.storage.memory" 691), none, some (.ref 0)]⟩
noncomputable def o343 (P : Params) : Obj := ⟨.type "tuple", none, .seq [].toArray 0, #[]⟩
noncomputable def o344 (P : Params) : Obj := ⟨.none, none, .fields [].toArray, #[]⟩
noncomputable def o345 (P : Params) : Obj := ⟨.type "tuple", none, .seq [.str "self" 711, .str "clock" 712].toArray 0, #[]⟩
noncomputable def o346 (P : Params) : Obj := ⟨.type "tuple", none, .seq [].toArray 0, #[]⟩
noncomputable def o347 (P : Params) : Obj := ⟨.none, none, .func (fn (f2 16 1) "__init__" "MemoryStorage.__init__" 0 [] (.none) (.none) (.none) (.none) none (.none) (.none) 0), #[]⟩
noncomputable def o348 (P : Params) : Obj := ⟨.type "code", none, .fields [.str "__init__" 708, .str "MemoryStorage.__init__" 709, .str "/claim/cut.py" 710, .int 200 0, .int 2 0, .int 0 0, .int 0 0, .int 3 0, .ref 343, .bool true, .int 181 0, .ref 344, .none, .ref 345, .ref 346, .ref 347, .int 713 0, .int 200 0, .str "/claim/cut.py" 714].toArray, #[]⟩
noncomputable def o349 (P : Params) : Obj := ⟨.type "function", none, .func (fn (f2 16 1) "__init__" "MemoryStorage.__init__" 3 [] (.none) (.none) (.none) (.str "limits.storage.memory" 691) none (.ref 348) (.none) 0), #[]⟩
noncomputable def o350 (P : Params) : Obj := ⟨.type "tuple", none, .seq [].toArray 0, #[]⟩
noncomputable def o351 (P : Params) : Obj := ⟨.none, none, .fields [].toArray, #[]⟩
noncomputable def o352 (P : Params) : Obj := ⟨.type "tuple", none, .seq [.str "self" 719].toArray 0, #[]⟩
noncomputable def o353 (P : Params) : Obj := ⟨.type "tuple", none, .seq [].toArray 0, #[]⟩
noncomputable def o354 (P : Params) : Obj := ⟨.none, none, .func (fn (f2 16 2) "expire_events" "MemoryStorage.expire_events" 0 [] (.none) (.none) (.none) (.none) none (.none) (.none) 0), #[]⟩
noncomputable def o355 (P : Params) : Obj := ⟨.type "code", none, .fields [.str "expire_events" 716, .str "MemoryStorage.expire_events" 717, .str "/claim/cut.py" 718, .int 206 0, .int 1 0, .int 0 0, .int 0 0, .int 3 0, .ref 350, .bool true, .int 181 0, .ref 351, .none, .ref 352, .ref 353, .ref 354, .int 720 0, .int 206 0, .str "/claim/cut.py" 721].toArray, #[]⟩
noncomputable def o356 (P : Params) : Obj := ⟨.type "function", none, .func (fn (f2 16 2) "expire_events" "MemoryStorage.expire_events" 3 [] (.none) (.none) (.none) (.str "limits.storage.memory" 691) none (.ref 355) (.none) 0), #[]⟩
noncomputable def o357 (P : Params) : Obj := ⟨.type "tuple", none, .seq [.int 1 723].toArray 0, #[]⟩
noncomputable def o358 (P : Params) : Obj := ⟨.type "tuple", none, .seq [].toArray 0, #[]⟩
noncomputable def o359 (P : Params) : Obj := ⟨.none, none, .fields [].toArray, #[]⟩
noncomputable def o360 (P : Params) : Obj := ⟨.type "tuple", none, .seq [.str "self" 727, .str "key" 728, .str "expiry" 729, .str "amount" 730].toArray 0, #[]⟩
noncomputable def o361 (P : Params) : Obj := ⟨.type "tuple", none, .seq [].toArray 0, #[]⟩
noncomputable def o362 (P : Params) : Obj := ⟨.none, none, .func (fn (f2 16 3) "incr" "MemoryStorage.incr" 0 [] (.none) (.none) (.none) (.none) none (.none) (.none) 0), #[]⟩
noncomputable def o363 (P : Params) : Obj := ⟨.type "code", none, .fields [.str "incr" 724, .str "MemoryStorage.incr" 725, .str "/claim/cut.py" 726, .int 209 0, .int 4 0, .int 0 0, .int 0 0, .int 3 0, .ref 358, .bool true, .int 181 0, .ref 359, .none, .ref 360, .ref 361, .ref 362, .int 731 0, .int 209 0, .str "/claim/cut.py" 732].toArray, #[]⟩
noncomputable def o364 (P : Params) : Obj := ⟨.type "function", none, .func (fn (f2 16 3) "incr" "MemoryStorage.incr" 3 [] (.ref 357) (.none) (.str (d2 16 3) 733) (.str "limits.storage.memory" 691) none (.ref 363) (.none) 0), #[]⟩
noncomputable def o365 (P : Params) : Obj := ⟨.type "tuple", none, .seq [.int 1 735].toArray 0, #[]⟩
noncomputable def o366 (P : Params) : Obj := ⟨.type "tuple", none, .seq [].toArray 0, #[]⟩
noncomputable def o367 (P : Params) : Obj := ⟨.none, none, .fields [].toArray, #[]⟩
noncomputable def o368 (P : Params) : Obj := ⟨.type "tuple", none, .seq [.str "self" 739, .str "key" 740, .str "amount" 741].toArray 0, #[]⟩
noncomputable def o369 (P : Params) : Obj := ⟨.type "tuple", none, .seq [].toArray 0, #[]⟩
noncomputable def o370 (P : Params) : Obj := ⟨.none, none, .func (fn (f2 16 4) "decr" "MemoryStorage.decr" 0 [] (.none) (.none) (.none) (.none) none (.none) (.none) 0), #[]⟩
noncomputable def o371 (P : Params) : Obj := ⟨.type "code", none, .fields [.str "decr" 736, .str "MemoryStorage.decr" 737, .str "/claim/cut.py" 738, .int 223 0, .int 3 0, .int 0 0, .int 0 0, .int 3 0, .ref 366, .bool true, .int 181 0, .ref 367, .none, .ref 368, .ref 369, .ref 370, .int 742 0, .int 223 0, .str "/claim/cut.py" 743].toArray, #[]⟩
noncomputable def o372 (P : Params) : Obj := ⟨.type "function", none, .func (fn (f2 16 4) "decr" "MemoryStorage.decr" 3 [] (.ref 365) (.none) (.str (d2 16 4) 744) (.str "limits.storage.memory" 691) none (.ref 371) (.none) 0), #[]⟩
noncomputable def o373 (P : Params) : Obj := ⟨.type "tuple", none, .seq [].toArray 0, #[]⟩
noncomputable def o374 (P : Params) : Obj := ⟨.none, none, .fields [].toArray, #[]⟩
noncomputable def o375 (P : Params) : Obj := ⟨.type "tuple", none, .seq [.str "self" 749, .str "key" 750].toArray 0, #[]⟩
noncomputable def o376 (P : Params) : Obj := ⟨.type "tuple", none, .seq [].toArray 0, #[]⟩
noncomputable def o377 (P : Params) : Obj := ⟨.none, none, .func (fn (f2 16 5) "get" "MemoryStorage.get" 0 [] (.none) (.none) (.none) (.none) none (.none) (.none) 0), #[]⟩
noncomputable def o378 (P : Params) : Obj := ⟨.type "code", none, .fields [.str "get" 746, .str "MemoryStorage.get" 747, .str "/claim/cut.py" 748, .int 234 0, .int 2 0, .int 0 0, .int 0 0, .int 3 0, .ref 373, .bool true, .int 181 0, .ref 374, .none, .ref 375, .ref 376, .ref 377, .int 751 0, .int 234 0, .str "/claim/cut.py" 752].toArray, #[]⟩
noncomputable def o379 (P : Params) : Obj := ⟨.type "function", none, .func (fn (f2 16 5) "get" "MemoryStorage.get" 3 [] (.none) (.none) (.str (d2 16 5) 753) (.str "limits.storage.memory" 691) none (.ref 378) (.none) 0), #[]⟩
noncomputable def o380 (P : Params) : Obj := ⟨.type "tuple", none, .seq [].toArray 0, #[]⟩
noncomputable def o381 (P : Params) : Obj := ⟨.none, none, .fields [].toArray, #[]⟩
noncomputable def o382 (P : Params) : Obj := ⟨.type "tuple", none, .seq [.str "self" 758, .str "key" 759].toArray 0, #[]⟩
noncomputable def o383 (P : Params) : Obj := ⟨.type "tuple", none, .seq [].toArray 0, #[]⟩
noncomputable def o384 (P : Params) : Obj := ⟨.none, none, .func (fn (f2 16 6) "clear" "MemoryStorage.clear" 0 [] (.none) (.none) (.none) (.none) none (.none) (.none) 0), #[]⟩
noncomputable def o385 (P : Params) : Obj := ⟨.type "code", none, .fields [.str "clear" 755, .str "MemoryStorage.clear" 756, .str "/claim/cut.py" 757, .int 243 0, .int 2 0, .int 0 0, .int 0 0, .int 3 0, .ref 380, .bool true, .int 181 0, .ref 381, .none, .ref 382, .ref 383, .ref 384, .int 760 0, .int 243 0, .str "/claim/cut.py" 761].toArray, #[]⟩
noncomputable def o386 (P : Params) : Obj := ⟨.type "function", none, .func (fn (f2 16 6) "clear" "MemoryStorage.clear" 3 [] (.none) (.none) (.str (d2 16 6) 762) (.str "limits.storage.memory" 691) none (.ref 385) (.none) 0), #[]⟩
noncomputable def o387 (P : Params) : Obj := ⟨.type "tuple", none, .seq [.int 1 764].toArray 0, #[]⟩
noncomputable def o388 (P : Params) : Obj := ⟨.type "tuple", none, .seq [].toArray 0, #[]⟩
noncomputable def o389 (P : Params) : Obj := ⟨.none, none, .fields [].toArray, #[]⟩
noncomputable def o390 (P : Params) : Obj := ⟨.type "tuple", none, .seq [.str "self" 768, .str "key" 769, .str "limit" 770, .str "expiry" 771, .str "amount" 772].toArray 0, #[]⟩
noncomputable def o391 (P : Params) : Obj := ⟨.type "tuple", none, .seq [].toArray 0, #[]⟩
noncomputable def o392 (P : Params) : Obj := ⟨.none, none, .func (fn (f2 16 7) "acquire_entry" "MemoryStorage.acquire_entry" 0 [] (.none) (.none) (.none) (.none) none (.none) (.none) 0), #[]⟩
noncomputable def o393 (P : Params) : Obj := ⟨.type "code", none, .fields [.str "acquire_entry" 765, .str "MemoryStorage.acquire_entry" 766, .str "/claim/cut.py" 767, .int 251 0, .int 5 0, .int 0 0, .int 0 0, .int 3 0, .ref 388, .bool true, .int 181 0, .ref 389, .none, .ref 390, .ref 391, .ref 392, .int 773 0, .int 251 0, .str "/claim/cut.py" 774].toArray, #[]⟩
noncomputable def o394 (P : Params) : Obj := ⟨.type "function", none, .func (fn (f2 16 7) "acquire_entry" "MemoryStorage.acquire_entry" 3 [] (.ref 387) (.none) (.none) (.str "limits.storage.memory" 691) none (.ref 393) (.none) 0), #[]⟩
noncomputable def o395 (P : Params) : Obj := ⟨.type "tuple", none, .seq [].toArray 0, #[]⟩
noncomputable def o396 (P : Params) : Obj := ⟨.none, none, .fields [].toArray, #[]⟩
noncomputable def o397 (P : Params) : Obj := ⟨.type "tuple", none, .seq [.str "self" 779, .str "key" 780].toArray 0, #[]⟩
noncomputable def o398 (P : Params) : Obj := ⟨.type "tuple", none, .seq [].toArray 0, #[]⟩
noncomputable def o399 (P : Params) : Obj := ⟨.none, none, .func (fn (f2 16 8) "get_expiry" "MemoryStorage.get_expiry" 0 [] (.none) (.none) (.none) (.none) none (.none) (.none) 0), #[]⟩
noncomputable def o400 (P : Params) : Obj := ⟨.type "code", none, .fields [.str "get_expiry" 776, .str "MemoryStorage.get_expiry" 777, .str "/claim/cut.py" 778, .int 254 0, .int 2 0, .int 0 0, .int 0 0, .int 3 0, .ref 395, .bool true, .int 181 0, .ref 396, .none, .ref 397, .ref 398, .ref 399, .int 781 0, .int 254 0, .str "/claim/cut.py" 782].toArray, #[]⟩
noncomputable def o401 (P : Params) : Obj := ⟨.type "function", none, .func (fn (f2 16 8) "get_expiry" "MemoryStorage.get_expiry" 3 [] (.none) (.none) (.str (d2 16 8) 783) (.str "limits.storage.memory" 691) none (.ref 400) (.none) 0), #[]⟩
noncomputable def o402 (P : Params) : Obj := ⟨.type "tuple", none, .seq [].toArray 0, #[]⟩
noncomputable def o403 (P : Params) : Obj := ⟨.none, none, .fields [].toArray, #[]⟩
noncomputable def o404 (P : Params) : Obj := ⟨.type "tuple", none, .seq [.str "self" 788, .str "key" 789, .str "limit" 790, .str "expiry" 791].toArray 0, #[]⟩
noncomputable def o405 (P : Params) : Obj := ⟨.type "tuple", none, .seq [].toArray 0, #[]⟩
noncomputable def o406 (P : Params) : Obj := ⟨.none, none, .func (fn (f2 16 9) "get_moving_window" "MemoryStorage.get_moving_window" 0 [] (.none) (.none) (.none) (.none) none (.none) (.none) 0), #[]⟩
noncomputable def o407 (P : Params) : Obj := ⟨.type "code", none, .fields [.str "get_moving_window" 785, .str "MemoryStorage.get_moving_window" 786, .str "/claim/cut.py" 787, .int 260 0, .int 4 0, .int 0 0, .int 0 0, .int 3 0, .ref 402, .bool true, .int 181 0, .ref 403, .none, .ref 404, .ref 405, .ref 406, .int 792 0, .int 260 0, .str "/claim/cut.py" 793].toArray, #[]⟩
noncomputable def o408 (P : Params) : Obj := ⟨.type "function", none, .func (fn (f2 16 9) "get_moving_window" "MemoryStorage.get_moving_window" 3 [] (.none) (.none) (.none) (.str "limits.storage.memory" 691) none (.ref 407) (.none) 0), #[]⟩
noncomputable def o409 (P : Params) : Obj := ⟨.type "tuple", none, .seq [.int 1 795].toArray 0, #[]⟩
noncomputable def o410 (P : Params) : Obj := ⟨.type "tuple", none, .seq [].toArray 0, #[]⟩
noncomputable def o411 (P : Params) : Obj := ⟨.none, none, .fields [].toArray, #[]⟩
noncomputable def o412 (P : Params) : Obj := ⟨.type "tuple", none, .seq [.str "self" 799, .str "key" 800, .str "limit" 801, .str "expiry" 802, .str "amount" 803, .str "now" 804, .str "previous_key" 805, .str "current_key" 806, .str "previous_count" 807, .str "previous_ttl" 808, .str "current_count" 809, .str "_" 810, .str "weighted_count" 811].toArray 0, #[]⟩
noncomputable def o413 (P : Params) : Obj := ⟨.type "tuple", none, .seq [].toArray 0, #[]⟩
noncomputable def o414 (P : Params) : Obj := ⟨.none, none, .func (fn (f2 16 10) "acquire_sliding_window_entry" "MemoryStorage.acquire_sliding_window_entry" 0 [] (.none) (.none) (.none) (.none) none (.none) (.none) 0), #[]⟩
noncomputable def o415 (P : Params) : Obj := ⟨.type "code", none, .fields [.str "acquire_sliding_window_entry" 796, .str "MemoryStorage.acquire_sliding_window_entry" 797, .str "/claim/cut.py" 798, .int 263 0, .int 5 0, .int 0 0, .int 0 0, .int 3 0, .ref 410, .bool true, .int 181 0, .ref 411, .none, .ref 412, .ref 413, .ref 414, .int 812 0, .int 263 0, .str "/claim/cut.py" 813].toArray, #[]⟩
noncomputable def o416 (P : Params) : Obj := ⟨.type "function", none, .func (fn (f2 16 10) "acquire_sliding_window_entry" "MemoryStorage.acquire_sliding_window_entry" 3 [] (.ref 409) (.none) (.none) (.str "limits.storage.memory" 691) none (.ref 415) (.none) 0), #[]⟩
noncomputable def o417 (P : Params) : Obj := ⟨.type "tuple", none, .seq [].toArray 0, #[]⟩
noncomputable def o418 (P : Params) : Obj := ⟨.none, none, .fields [].toArray, #[]⟩
noncomputable def o419 (P : Params) : Obj := ⟨.type "tuple", none, .seq [.str "self" 818, .str "previous_key" 819, .str "current_key" 820, .str "expiry" 821, .str "now" 822, .str "previous_count" 823, .str "current_count" 824, .str "previous_ttl" 825, .str "current_ttl" 826].toArray 0, #[]⟩
noncomputable def o420 (P : Params) : Obj := ⟨.type "tuple", none, .seq [].toArray 0, #[]⟩
noncomputable def o421 (P : Params) : Obj := ⟨.none, none, .func (fn (f2 16 11) "_get_sliding_window_info" "MemoryStorage._get_sliding_window_info" 0 [] (.none) (.none) (.none) (.none) none (.none) (.none) 0), #[]⟩
noncomputable def o422 (P : Params) : Obj := ⟨.type "code", none, .fields [.str "_get_sliding_window_info" 815, .str "MemoryStorage._get_sliding_window_info" 816, .str "/claim/cut.py" 817, .int 280 0, .int 5 0, .int 0 0, .int 0 0, .int 3 0, .ref 417, .bool true, .int 181 0, .ref 418, .none, .ref 419, .ref 420, .ref 421, .int 827 0, .int 280 0, .str "/claim/cut.py" 828].toArray, #[]⟩
noncomputable def o423 (P : Params) : Obj := ⟨.type "function", none, .func (fn (f2 16 11) "_get_sliding_window_info" "MemoryStorage._get_sliding_window_info" 3 [] (.none) (.none) (.none) (.str "limits.storage.memory" 691) none (.ref 422) (.none) 0), #[]⟩
noncomputable def o424 (P : Params) : Obj := ⟨.type "tuple", none, .seq [].toArray 0, #[]⟩
noncomputable def o425 (P : Params) : Obj := ⟨.none, none, .fields [].toArray, #[]⟩
noncomputable def o426 (P : Params) : Obj := ⟨.type "tuple", none, .seq [.str "self" 833, .str "key" 834, .str "expiry" 835, .str "now" 836, .str "previous_key" 837, .str "current_key" 838].toArray 0, #[]⟩
noncomputable def o427 (P : Params) : Obj := ⟨.type "tuple", none, .seq [].toArray 0, #[]⟩
noncomputable def o428 (P : Params) : Obj := ⟨.none, none, .func (fn (f2 16 12) "get_sliding_window" "MemoryStorage.get_sliding_window" 0 [] (.none) (.none) (.none) (.none) none (.none) (.none) 0), #[]⟩
noncomputable def o429 (P : Params) : Obj := ⟨.type "code", none, .fields [.str "get_sliding_window" 830, .str "MemoryStorage.get_sliding_window" 831, .str "/claim/cut.py" 832, .int 290 0, .int 3 0, .int 0 0, .int 0 0, .int 3 0, .ref 424, .bool true, .int 181 0, .ref 425, .none, .ref 426, .ref 427, .ref 428, .int 839 0, .int 290 0, .str "/claim/cut.py" 840].toArray, #[]⟩
noncomputable def o430 (P : Params) : Obj := ⟨.type "function", none, .func (fn (f2 16 12) "get_sliding_window" "MemoryStorage.get_sliding_window" 3 [] (.none) (.none) (.none) (.str "limits.storage.memory" 691) none (.ref 429) (.none) 0), #[]⟩
noncomputable def o431 (P : Params) : Obj := ⟨.type "tuple", none, .seq [].toArray 0, #[]⟩
noncomputable def o432 (P : Params) : Obj := ⟨.none, none, .fields [].toArray, #[]⟩
noncomputable def o433 (P : Params) : Obj := ⟨.type "tuple", none, .seq [.str "self" 845, .str "key" 846, .str "expiry" 847, .str "now" 848, .str "previous_key" 849, .str "current_key" 850].toArray 0, #[]⟩
noncomputable def o434 (P : Params) : Obj := ⟨.type "tuple", none, .seq [].toArray 0, #[]⟩
noncomputable def o435 (P : Params) : Obj := ⟨.none, none, .func (fn (f2 16 13) "clear_sliding_window" "MemoryStorage.clear_sliding_window" 0 [] (.none) (.none) (.none) (.none) none (.none) (.none) 0), #[]⟩
noncomputable def o436 (P : Params) : Obj := ⟨.type "code", none, .fields [.str "clear_sliding_window" 842, .str "MemoryStorage.clear_sliding_window" 843, .str "/claim/cut.py" 844, .int 295 0, .int 3 0, .int 0 0, .int 0 0, .int 3 0, .ref 431, .bool true, .int 181 0, .ref 432, .none, .ref 433, .ref 434, .ref 435, .int 851 0, .int 295 0, .str "/claim/cut.py" 852].toArray, #[]⟩
noncomputable def o437 (P : Params) : Obj := ⟨.type "function", none, .func (fn (f2 16 13) "clear_sliding_window" "MemoryStorage.clear_sliding_window" 3 [] (.none) (.none) (.none) (.str "limits.storage.memory" 691) none (.ref 436) (.none) 0), #[]⟩
noncomputable def o438 (P : Params) : Obj := ⟨.type "tuple", none, .seq [].toArray 0, #[]⟩
noncomputable def o439 (P : Params) : Obj := ⟨.none, none, .fields [].toArray, #[]⟩
noncomputable def o440 (P : Params) : Obj := ⟨.type "tuple", none, .seq [.str "self" 857].toArray 0, #[]⟩
noncomputable def o441 (P : Params) : Obj := ⟨.type "tuple", none, .seq [].toArray 0, #[]⟩
noncomputable def o442 (P : Params) : Obj := ⟨.none, none, .func (fn (f2 16 14) "check" "MemoryStorage.check" 0 [] (.none) (.none) (.none) (.none) none (.none) (.none) 0), #[]⟩
noncomputable def o443 (P : Params) : Obj := ⟨.type "code", none, .fields [.str "check" 854, .str "MemoryStorage.check" 855, .str "/claim/cut.py" 856, .int 301 0, .int 1 0, .int 0 0, .int 0 0, .int 3 0, .ref 438, .bool true, .int 181 0, .ref 439, .none, .ref 440, .ref 441, .ref 442, .int 858 0, .int 301 0, .str "/claim/cut.py" 859].toArray, #[]⟩
noncomputable def o444 (P : Params) : Obj := ⟨.type "function", none, .func (fn (f2 16 14) "check" "MemoryStorage.check" 3 [] (.none) (.none) (.none) (.str "limits.storage.memory" 691) none (.ref 443) (.none) 0), #[]⟩
noncomputable def o445 (P : Params) : Obj := ⟨.type "tuple", none, .seq [].toArray 0, #[]⟩
noncomputable def o446 (P : Params) : Obj := ⟨.none, none, .fields [].toArray, #[]⟩
noncomputable def o447 (P : Params) : Obj := ⟨.type "tuple", none, .seq [.str "self" 864, .str "num_items" 865].toArray 0, #[]⟩
noncomputable def o448 (P : Params) : Obj := ⟨.type "tuple", none, .seq [].toArray 0, #[]⟩
noncomputable def o449 (P : Params) : Obj := ⟨.none, none, .func (fn (f2 16 15) "reset" "MemoryStorage.reset" 0 [] (.none) (.none) (.none) (.none) none (.none) (.none) 0), #[]⟩
noncomputable def o450 (P : Params) : Obj := ⟨.type "code", none, .fields [.str "reset" 861, .str "MemoryStorage.reset" 862, .str "/claim/cut.py" 863, .int 304 0, .int 1 0, .int 0 0, .int 0 0, .int 3 0, .ref 445, .bool true, .int 181 0, .ref 446, .none, .ref 447, .ref 448, .ref 449, .int 866 0, .int 304 0, .str "/claim/cut.py" 867].toArray, #[]⟩
noncomputable def o451 (P : Params) : Obj := ⟨.type "function", none, .func (fn (f2 16 15) "reset" "MemoryStorage.reset" 3 [] (.none) (.none) (.none) (.str "limits.storage.memory" 691) none (.ref 450) (.none) 0), #[]⟩
noncomputable def o452 (P : Params) : Obj := ⟨.type "tuple", none, .seq [.str "clock" 869, .str "events" 870, .str "expirations" 871, .str "storage" 872].toArray 0, #[]⟩
noncomputable def o453 (P : Params) : Obj := ⟨.type "dict", none, .dict [e P "__module__" 700 (.str "limits.storage.memory" 691), e P "__firstlineno__" 704 (.int 192 703), e P "__doc__" 706 (.str (d1 16) 705), e P "__init__" 715 (.ref 349), e P "expire_events" 722 (.ref 356), e P "incr" 734 (.ref 364), e P "decr" 745 (.ref 372), e P "get" 754 (.ref 379), e P "clear" 763 (.ref 386), e P "acquire_entry" 775 (.ref 394), e P "get_expiry" 784 (.ref 401), e P "get_moving_window" 794 (.ref 408), e P "acquire_sliding_window_entry" 814 (.ref 416), e P "_get_sliding_window_info" 829 (.ref 423), e P "get_sliding_window" 841 (.ref 430), e P "clear_sliding_window" 853 (.ref 437), e P "check" 860 (.ref 444), e P "reset" 868 (.ref 451), e P "__static_attributes__" 873 (.ref 452)].toArray 1, #[]⟩
noncomputable def o454 (P : Params) : Obj := ⟨.type "type", none, .cls ⟨"MemoryStorage", [.ref 331], [.ref 454, .ref 331, .type "object"], 453, "MemoryStorage", true, [], [], false, none, false⟩, #[some (.ref 336), none, some (.str "MemoryStorage" 693), some (.str "MemoryStorage" 701), some (.builtin "object.__new__"), some (.bool true)]⟩
noncomputable def o455 (P : Params) : Obj := ⟨.type "super", none, .fields [.ref 454, .ref 454, .ref 454].toArray, #[]⟩
noncomputable def o456 (P : Params) : Obj := ⟨.type "builtin_function_or_method", none, .fields [.builtin "object.__init_subclass__", .ref 454].toArray, #[]⟩
noncomputable def t7 (P : Params) : BT := (n (boot_o_0 P) (n (boot_o_1 P) (n (o3v7 P) (n (boot_o_7 P) (n (o15 P) (n (o31 P) (n (o63 P) (n (o127 P) (l (o255 P)) (l (o383 P))) (n (o191 P) (l (o319 P)) (l (o447 P)))) (n (o95 P) (n (o159 P) (l (o287 P)) (l (o415 P))) (n (o223 P) (l (o351 P)) z))) (n (o47 P) (n (o79 P) (n (o143 P) (l (o271 P)) (l (o399 P))) (n (o207 P) (l (o335 P)) z)) (n (o111 P) (n (o175 P) (l (o303 P)) (l (o431 P))) (n (o239 P) (l (o367 P)) z)))) (n (o23 P) (n (o39 P) (n (o71 P) (n (o135 P) (l (o263 P)) (l (o391 P))) (n (o199 P) (l (o327 P)) (l (o455 P)))) (n (o103 P) (n (o167 P) (l (o295 P)) (l (o423 P))) (n (o231 P) (l (o359 P)) z))) (n (o55 P) (n (o87 P) (n (o151 P) (l (o279 P)) (l (o407 P))) (n (o215 P) (l (o343 P)) z)) (n (o119 P) (n (o183 P) (l (o311 P)) (l (o439 P))) (n (o247 P) (l (o375 P)) z))))) (n (o11 P) (n (o19 P) (n (o35 P) (n (o67 P) (n (o131 P) (l (o259 P)) (l (o387 P))) (n (o195 P) (l (o323 P)) (l (o451 P)))) (n (o99 P) (n (o163 P) (l (o291 P)) (l (o419 P))) (n (o227 P) (l (o355 P)) z))) (n (o51 P) (n (o83 P) (n (o147 P) (l (o275 P)) (l (o403 P))) (n (o211 P) (l (o339 P)) z)) (n (o115 P) (n (o179 P) (l (o307 P)) (l (o435 P))) (n (o243 P) (l (o371 P)) z)))) (n (o27 P) (n (o43 P) (n (o75 P) (n (o139 P) (l (o267 P)) (l (o395 P))) (n (o203 P) (l (o331v1 P)) z)) (n (o107 P) (n (o171 P) (l (o299 P)) (l (o427 P))) (n (o235 P) (l (o363 P)) z))) (n (o59 P) (n (o91 P) (n (o155 P) (l (o283 P)) (l (o411 P))) (n (o219 P) (l (o347 P)) z)) (n (o123 P) (n (o187 P) (l (o315 P)) (l (o443 P))) (n (o251 P) (l (o379 P)) z)))))) (n (boot_o_5 P) (n (boot_o_9 P) (n (o17 P) (n (o33 P) (n (o65 P) (n (o129 P) (l (o257 P)) (l (o385 P))) (n (o193 P) (l (o321 P)) (l (o449 P)))) (n (o97 P) (n (o161 P) (l (o289 P)) (l (o417 P))) (n (o225 P) (l (o353 P)) z))) (n (o49 P) (n (o81 P) (n (o145 P) (l (o273 P)) (l (o401 P))) (n (o209 P) (l (o337 P)) z)) (n (o113 P) (n (o177 P) (l (o305 P)) (l (o433 P))) (n (o241 P) (l (o369 P)) z)))) (n (o25 P) (n (o41 P) (n (o73 P) (n (o137 P) (l (o265 P)) (l (o393 P))) (n (o201 P) (l (o329 P)) z)) (n (o105 P) (n (o169 P) (l (o297 P)) (l (o425 P))) (n (o233 P) (l (o361 P)) z))) (n (o57 P) (n (o89 P) (n (o153 P) (l (o281 P)) (l (o409 P))) (n (o217 P) (l (o345 P)) z)) (n (o121 P) (n (o185 P) (l (o313 P)) (l (o441 P))) (n (o249 P) (l (o377 P)) z))))) (n (o13 P) (n (o21 P) (n (o37 P) (n (o69 P) (n (o133 P) (l (o261 P)) (l (o389 P))) (n (o197 P) (l (o325 P)) (l (o453 P)))) (n (o101 P) (n (o165 P) (l (o293 P)) (l (o421 P))) (n (o229 P) (l (o357 P)) z))) (n (o53 P) (n (o85 P) (n (o149 P) (l (o277 P)) (l (o405 P))) (n (o213 P) (l (o341 P)) z)) (n (o117 P) (n (o181 P) (l (o309 P)) (l (o437 P))) (n (o245 P) (l (o373 P)) z)))) (n (o29 P) (n (o45 P) (n (o77 P) (n (o141 P) (l (o269 P)) (l (o397 P))) (n (o205v3 P) (l (o333 P)) z)) (n (o109 P) (n (o173 P) (l (o301 P)) (l (o429 P))) (n (o237 P) (l (o365 P)) z))) (n (o61 P) (n (o93 P) (n (o157 P) (l (o285 P)) (l (o413 P))) (n (o221 P) (l (o349 P)) z)) (n (o125 P) (n (o189 P) (l (o317 P)) (l (o445 P))) (n (o253 P) (l (o381 P)) z))))))) (n (boot_o_2 P) (n (boot_o_4 P) (n (boot_o_8 P) (n (o16 P) (n (o32 P) (n (o64 P) (n (o128 P) (l (o256 P)) (l (o384 P))) (n (o192 P) (l (o320 P)) (l (o448 P)))) (n (o96 P) (n (o160 P) (l (o288 P)) (l (o416 P))) (n (o224 P) (l (o352 P)) z))) (n (o48 P) (n (o80 P) (n (o144 P) (l (o272 P)) (l (o400 P))) (n (o208 P) (l (o336 P)) z)) (n (o112 P) (n (o176 P) (l (o304 P)) (l (o432 P))) (n (o240 P) (l (o368 P)) z)))) (n (o24 P) (n (o40 P) (n (o72 P) (n (o136 P) (l (o264 P)) (l (o392 P))) (n (o200 P) (l (o328 P)) (l (o456 P)))) (n (o104 P) (n (o168 P) (l (o296 P)) (l (o424 P))) (n (o232 P) (l (o360 P)) z))) (n (o56 P) (n (o88 P) (n (o152 P) (l (o280 P)) (l (o408 P))) (n (o216 P) (l (o344 P)) z)) (n (o120 P) (n (o184 P) (l (o312 P)) (l (o440 P))) (n (o248 P) (l (o376 P)) z))))) (n (o12v7 P) (n (o20 P) (n (o36 P) (n (o68 P) (n (o132 P) (l (o260 P)) (l (o388 P))) (n (o196 P) (l (o324 P)) (l (o452 P)))) (n (o100 P) (n (o164 P) (l (o292 P)) (l (o420 P))) (n (o228 P) (l (o356 P)) z))) (n (o52 P) (n (o84 P) (n (o148 P) (l (o276 P)) (l (o404 P))) (n (o212 P) (l (o340 P)) z)) (n (o116 P) (n (o180 P) (l (o308 P)) (l (o436 P))) (n (o244 P) (l (o372 P)) z)))) (n (o28 P) (n (o44 P) (n (o76 P) (n (o140 P) (l (o268 P)) (l (o396 P))) (n (o204 P) (l (o332 P)) z)) (n (o108 P) (n (o172 P) (l (o300 P)) (l (o428 P))) (n (o236 P) (l (o364 P)) z))) (n (o60 P) (n (o92 P) (n (o156 P) (l (o284 P)) (l (o412 P))) (n (o220 P) (l (o348 P)) z)) (n (o124 P) (n (o188 P) (l (o316 P)) (l (o444 P))) (n (o252 P) (l (o380 P)) z)))))) (n (boot_o_6 P) (n (boot_o_10 P) (n (o18 P) (n (o34 P) (n (o66 P) (n (o130 P) (l (o258 P)) (l (o386 P))) (n (o194 P) (l (o322 P)) (l (o450 P)))) (n (o98 P) (n (o162 P) (l (o290 P)) (l (o418 P))) (n (o226 P) (l (o354 P)) z))) (n (o50 P) (n (o82 P) (n (o146 P) (l (o274 P)) (l (o402 P))) (n (o210 P) (l (o338 P)) z)) (n (o114 P) (n (o178 P) (l (o306 P)) (l (o434 P))) (n (o242 P) (l (o370 P)) z)))) (n (o26 P) (n (o42 P) (n (o74 P) (n (o138 P) (l (o266 P)) (l (o394 P))) (n (o202 P) (l (o330 P)) z)) (n (o106 P) (n (o170 P) (l (o298 P)) (l (o426 P))) (n (o234 P) (l (o362 P)) z))) (n (o58 P) (n (o90 P) (n (o154 P) (l (o282 P)) (l (o410 P))) (n (o218 P) (l (o346 P)) z)) (n (o122 P) (n (o186 P) (l (o314 P)) (l (o442 P))) (n (o250 P) (l (o378 P)) z))))) (n (o14 P) (n (o22 P) (n (o38 P) (n (o70 P) (n (o134 P) (l (o262 P)) (l (o390 P))) (n (o198 P) (l (o326 P)) (l (o454 P)))) (n (o102 P) (n (o166 P) (l (o294 P)) (l (o422 P))) (n (o230 P) (l (o358 P)) z))) (n (o54 P) (n (o86 P) (n (o150 P) (l (o278 P)) (l (o406 P))) (n (o214 P) (l (o342 P)) z)) (n (o118 P) (n (o182 P) (l (o310 P)) (l (o438 P))) (n (o246 P) (l (o374 P)) z)))) (n (o30 P) (n (o46 P) (n (o78 P) (n (o142 P) (l (o270 P)) (l (o398 P))) (n (o206 P) (l (o334 P)) z)) (n (o110 P) (n (o174 P) (l (o302 P)) (l (o430 P))) (n (o238 P) (l (o366 P)) z))) (n (o62 P) (n (o94 P) (n (o158 P) (l (o286 P)) (l (o414 P))) (n (o222 P) (l (o350 P)) z)) (n (o126 P) (n (o190 P) (l (o318 P)) (l (o446 P))) (n (o254 P) (l (o382 P)) z))))))))
abbrev S7 (w : World) (os : OsState) : SharedT := ⟨t7 w.params, 457, {}, #[], {}, 878, os⟩
noncomputable def o3v8 (P : Params) : Obj := ⟨.type "dict", none, .dict [e P "__name__" 165 (.str "limits.util" 876), e P "__doc__" 166 (.none), e P "__package__" 167 (.none), e P "__loader__" 168 (.builtin "__main__.__loader__#opaque"), e P "__spec__" 169 (.none), e P "__annotations__" 170 (.ref 6), e P "__builtins__" 171 (.ref 4), e P "__file__" 173 (.str "/claim/cut.py" 172), e P "__cached__" 174 (.none), e P "_wall" 193 (.ref 21), e P "_tuplegetter" 252 (.ref 495), e P "tuplegetter_limits" 253 (.ref 60), e P "safe_string" 261 (.ref 71), e P "Granularity" 376 (.ref 139), e P "RateLimitItem" 474 (.ref 205), e P "RateLimitItemPerYear" 502 (.ref 224), e P "RateLimitItemPerMonth" 530 (.ref 241), e P "RateLimitItemPerDay" 558 (.ref 258), e P "RateLimitItemPerHour" 586 (.ref 275), e P "RateLimitItemPerMinute" 614 (.ref 292), e P "RateLimitItemPerSecond" 642 (.ref 309), e P "TimestampedSlidingWindow" 690 (.ref 331), e P "MemoryStorage" 875 (.ref 454), e P "tuplegetter_util" 935 (.ref 495), e P "BLANKS" 937 (.str " \t\n\x0b\x0c\x0d\x1c\x1d\x1e\x1f" 936), e P "DIGITS" 939 (.str "0123456789" 938), e P "LETTERS" 941 (.str "abcdefghijklmnopqrstuvwxyz" 940), e P "skip" 951 (.ref 506), e P "read_limit" 963 (.ref 513), e P "read_limits" 974 (.ref 520)].toArray 30, #[]⟩
noncomputable def o12v8 (P : Params) : Obj := ⟨.none, none, .fields [.int 1 0, .int 0 0, .ref 20, .int 5 0, .int 0 0, .ref 27, .int 24 0, .int 0 0, .ref 70, .int 31 0, .int 0 0, .ref 78, .int 73 0, .int 0 0, .ref 148, .int 128 0, .int 0 0, .ref 215, .int 134 0, .int 0 0, .ref 232, .int 140 0, .int 0 0, .ref 249, .int 146 0, .int 0 0, .ref 266, .int 152 0, .int 0 0, .ref 283, .int 158 0, .int 0 0, .ref 300, .int 165 0, .int 0 0, .ref 317, .int 192 0, .int 0 0, .ref 341, .int 311 0, .int 0 0, .ref 462, .int 333 0, .int 0 0, .ref 505, .int 338 0, .int 0 0, .ref 512, .int 360 0, .int 0 0, .ref 519].toArray, #[]⟩
noncomputable def o457 (P : Params) : Obj := ⟨.type "tuple", none, .seq [].toArray 0, #[]⟩
noncomputable def o458 (P : Params) : Obj := ⟨.type "builtin_function_or_method", none, .fields [.builtin "type.__prepare__", .type "type"].toArray, #[]⟩
noncomputable def o459 (P : Params) : Obj := ⟨.type "dict", none, .dict [e P "__module__" 885 (.str "limits.util" 876), e P "__qualname__" 887 (.str "_tuplegetter" 886), e P "__firstlineno__" 889 (.int 311 888), e P "__init__" 898 (.ref 470), e P "__get__" 907 (.ref 478), e P "__set__" 916 (.ref 485), e P "__delete__" 924 (.ref 492), e P "__static_attributes__" 927 (.ref 493)].toArray 8, #[]⟩
noncomputable def o460 (P : Params) : Obj := ⟨.type "tuple", none, .seq [].toArray 0, #[]⟩
noncomputable def o461 (P : Params) : Obj := ⟨.none, none, .fields [.int 313 0, .int 4 0, .ref 469, .int 317 0, .int 4 0, .ref 477, .int 324 0, .int 4 0, .ref 484, .int 327 0, .int 4 0, .ref 491].toArray, #[]⟩
noncomputable def o462 (P : Params) : Obj := ⟨.type "code", none, .fields [.str "_tuplegetter" 880, .str "_tuplegetter" 881, .str "/claim/cut.py" 882, .int 311 0, .int 0 0, .int 0 0, .int 0 0, .int 0 0, .ref 460, .bool false, .int 181 0, .ref 461, .none, .none, .none, .none, .int 883 0, .int 311 0, .str "/claim/cut.py" 884].toArray, #[]⟩
noncomputable def o463 (P : Params) : Obj := ⟨.type "frame", none, .plain, #[some (.ref 462), some (.ref 3), some (.ref 459), none, some (.str "limits.util" 876), none, some (.ref 0)]⟩
noncomputable def o464 (P : Params) : Obj := ⟨.type "tuple", none, .seq [].toArray 0, #[]⟩
noncomputable def o465 (P : Params) : Obj := ⟨.none, none, .fields [].toArray, #[]⟩
noncomputable def o466 (P : Params) : Obj := ⟨.type "tuple", none, .seq [.str "self" 893, .str "index" 894, .str "doc" 895].toArray 0, #[]⟩
noncomputable def o467 (P : Params) : Obj := ⟨.type "tuple", none, .seq [].toArray 0, #[]⟩
noncomputable def o468 (P : Params) : Obj := ⟨.none, none, .func (fn (f2 18 0) "__init__" "_tuplegetter.__init__" 0 [] (.none) (.none) (.none) (.none) none (.none) (.none) 0), #[]⟩
noncomputable def o469 (P : Params) : Obj := ⟨.type "code", none, .fields [.str "__init__" 890, .str "_tuplegetter.__init__" 891, .str "/claim/cut.py" 892, .int 313 0, .int 3 0, .int 0 0, .int 0 0, .int 3 0, .ref 464, .bool true, .int 181 0, .ref 465, .none, .ref 466, .ref 467, .ref 468, .int 896 0, .int 313 0, .str "/claim/cut.py" 897].toArray, #[]⟩
noncomputable def o470 (P : Params) : Obj := ⟨.type "function", none, .func (fn (f2 18 0) "__init__" "_tuplegetter.__init__" 3 [] (.none) (.none) (.none) (.str "limits.util" 876) none (.ref 469) (.none) 0), #[]⟩
noncomputable def o471 (P : Params) : Obj := ⟨.type "tuple", none, .seq [.none].toArray 0, #[]⟩
noncomputable def o472 (P : Params) : Obj := ⟨.type "tuple", none, .seq [].toArray 0, #[]⟩
noncomputable def o473 (P : Params) : Obj := ⟨.none, none, .fields [].toArray, #[]⟩
noncomputable def o474 (P : Params) : Obj := ⟨.type "tuple", none, .seq [.str "self" 902, .str "obj" 903, .str "objtype" 904].toArray 0, #[]⟩
noncomputable def o475 (P : Params) : Obj := ⟨.type "tuple", none, .seq [].toArray 0, #[]⟩
noncomputable def o476 (P : Params) : Obj := ⟨.none, none, .func (fn (f2 18 1) "__get__" "_tuplegetter.__get__" 0 [] (.none) (.none) (.none) (.none) none (.none) (.none) 0), #[]⟩
noncomputable def o477 (P : Params) : Obj := ⟨.type "code", none, .fields [.str "__get__" 899, .str "_tuplegetter.__get__" 900, .str "/claim/cut.py" 901, .int 317 0, .int 3 0, .int 0 0, .int 0 0, .int 3 0, .ref 472, .bool true, .int 181 0, .ref 473, .none, .ref 474, .ref 475, .ref 476, .int 905 0, .int 317 0, .str "/claim/cut.py" 906].toArray, #[]⟩
noncomputable def o478 (P : Params) : Obj := ⟨.type "function", none, .func (fn (f2 18 1) "__get__" "_tuplegetter.__get__" 3 [] (.ref 471) (.none) (.none) (.str "limits.util" 876) none (.ref 477) (.none) 0), #[]⟩
noncomputable def o479 (P : Params) : Obj := ⟨.type "tuple", none, .seq [].toArray 0, #[]⟩
noncomputable def o480 (P : Params) : Obj := ⟨.none, none, .fields [].toArray, #[]⟩
noncomputable def o481 (P : Params) : Obj := ⟨.type "tuple", none, .seq [.str "self" 911, .str "obj" 912, .str "value" 913].toArray 0, #[]⟩
noncomputable def o482 (P : Params) : Obj := ⟨.type "tuple", none, .seq [].toArray 0, #[]⟩
noncomputable def o483 (P : Params) : Obj := ⟨.none, none, .func (fn (f2 18 2) "__set__" "_tuplegetter.__set__" 0 [] (.none) (.none) (.none) (.none) none (.none) (.none) 0), #[]⟩
noncomputable def o484 (P : Params) : Obj := ⟨.type "code", none, .fields [.str "__set__" 908, .str "_tuplegetter.__set__" 909, .str "/claim/cut.py" 910, .int 324 0, .int 3 0, .int 0 0, .int 0 0, .int 3 0, .ref 479, .bool true, .int 181 0, .ref 480, .none, .ref 481, .ref 482, .ref 483, .int 914 0, .int 324 0, .str "/claim/cut.py" 915].toArray, #[]⟩
noncomputable def o485 (P : Params) : Obj := ⟨.type "function", none, .func (fn (f2 18 2) "__set__" "_tuplegetter.__set__" 3 [] (.none) (.none) (.none) (.str "limits.util" 876) none (.ref 484) (.none) 0), #[]⟩
noncomputable def o486 (P : Params) : Obj := ⟨.type "tuple", none, .seq [].toArray 0, #[]⟩
noncomputable def o487 (P : Params) : Obj := ⟨.none, none, .fields [].toArray, #[]⟩
noncomputable def o488 (P : Params) : Obj := ⟨.type "tuple", none, .seq [.str "self" 920, .str "obj" 921].toArray 0, #[]⟩
noncomputable def o489 (P : Params) : Obj := ⟨.type "tuple", none, .seq [].toArray 0, #[]⟩
noncomputable def o490 (P : Params) : Obj := ⟨.none, none, .func (fn (f2 18 3) "__delete__" "_tuplegetter.__delete__" 0 [] (.none) (.none) (.none) (.none) none (.none) (.none) 0), #[]⟩
noncomputable def o491 (P : Params) : Obj := ⟨.type "code", none, .fields [.str "__delete__" 917, .str "_tuplegetter.__delete__" 918, .str "/claim/cut.py" 919, .int 327 0, .int 2 0, .int 0 0, .int 0 0, .int 3 0, .ref 486, .bool true, .int 181 0, .ref 487, .none, .ref 488, .ref 489, .ref 490, .int 922 0, .int 327 0, .str "/claim/cut.py" 923].toArray, #[]⟩
noncomputable def o492 (P : Params) : Obj := ⟨.type "function", none, .func (fn (f2 18 3) "__delete__" "_tuplegetter.__delete__" 3 [] (.none) (.none) (.none) (.str "limits.util" 876) none (.ref 491) (.none) 0), #[]⟩
noncomputable def o493 (P : Params) : Obj := ⟨.type "tuple", none, .seq [.str "__doc__" 925, .str "index" 926].toArray 0, #[]⟩
noncomputable def o494 (P : Params) : Obj := ⟨.type "dict", none, .dict [e P "__module__" 885 (.str "limits.util" 876), e P "__firstlineno__" 889 (.int 311 888), e P "__init__" 898 (.ref 470), e P "__get__" 907 (.ref 478), e P "__set__" 916 (.ref 485), e P "__delete__" 924 (.ref 492), e P "__static_attributes__" 927 (.ref 493), e P "__dict__" 929 (.ref 496), e P "__weakref__" 931 (.ref 497), e P "__doc__" 932 (.none)].toArray 4, #[]⟩
noncomputable def o495 (P : Params) : Obj := ⟨.type "type", none, .cls ⟨"_tuplegetter", [.type "object"], [.ref 495, .type "object"], 494, "_tuplegetter", true, [], [], false, none, false⟩, #[none, none, some (.str "_tuplegetter" 878), some (.str "_tuplegetter" 886), some (.builtin "object.__new__"), some (.bool true)]⟩
noncomputable def o496 (P : Params) : Obj := ⟨.type "getset_descriptor", none, .fields [.str "__dict__" 928, .ref 495, .builtin "function.__dict__", .builtin "function.__dict__#set"].toArray, #[]⟩
noncomputable def o497 (P : Params) : Obj := ⟨.type "getset_descriptor", none, .fields [.str "__weakref__" 930, .ref 495, .builtin "ExceptionGroup.__weakref__", .none].toArray, #[]⟩
noncomputable def o498 (P : Params) : Obj := ⟨.type "super", none, .fields [.ref 495, .ref 495, .ref 495].toArray, #[]⟩
noncomputable def o499 (P : Params) : Obj := ⟨.type "builtin_function_or_method", none, .fields [.builtin "object.__init_subclass__", .ref 495].toArray, #[]⟩
noncomputable def o500 (P : Params) : Obj := ⟨.type "tuple", none, .seq [].toArray 0, #[]⟩
noncomputable def o501 (P : Params) : Obj := ⟨.none, none, .fields [].toArray, #[]⟩
noncomputable def o502 (P : Params) : Obj := ⟨.type "tuple", none, .seq [.str "text" 945, .str "place" 946, .str "signs" 947].toArray 0, #[]⟩
noncomputable def o503 (P : Params) : Obj := ⟨.type "tuple", none, .seq [].toArray 0, #[]⟩
noncomputable def o504 (P : Params) : Obj := ⟨.none, none, .func (fn (f1 23) "skip" "skip" 0 [] (.none) (.none) (.none) (.none) none (.none) (.none) 0), #[]⟩
noncomputable def o505 (P : Params) : Obj := ⟨.type "code", none, .fields [.str "skip" 942, .str "skip" 943, .str "/claim/cut.py" 944, .int 333 0, .int 3 0, .int 0 0, .int 0 0, .int 3 0, .ref 500, .bool true, .int 181 0, .ref 501, .none, .ref 502, .ref 503, .ref 504, .int 948 0, .int 333 0, .str "/claim/cut.py" 949].toArray, #[]⟩
noncomputable def o506 (P : Params) : Obj := ⟨.type "function", none, .func (fn (f1 23) "skip" "skip" 3 [] (.none) (.none) (.str (d1 23) 950) (.str "limits.util" 876) none (.ref 505) (.none) 0), #[]⟩
noncomputable def o507 (P : Params) : Obj := ⟨.type "tuple", none, .seq [].toArray 0, #[]⟩
noncomputable def o508 (P : Params) : Obj := ⟨.none, none, .fields [].toArray, #[]⟩
noncomputable def o509 (P : Params) : Obj := ⟨.type "tuple", none, .seq [.str "text" 955, .str "place" 956, .str "start" 957, .str "amount" 958, .str "multiples" 959].toArray 0, #[]⟩
noncomputable def o510 (P : Params) : Obj := ⟨.type "tuple", none, .seq [].toArray 0, #[]⟩
noncomputable def o511 (P : Params) : Obj := ⟨.none, none, .func (fn (f1 24) "read_limit" "read_limit" 0 [] (.none) (.none) (.none) (.none) none (.none) (.none) 0), #[]⟩
noncomputable def o512 (P : Params) : Obj := ⟨.type "code", none, .fields [.str "read_limit" 952, .str "read_limit" 953, .str "/claim/cut.py" 954, .int 338 0, .int 2 0, .int 0 0, .int 0 0, .int 3 0, .ref 507, .bool true, .int 181 0, .ref 508, .none, .ref 509, .ref 510, .ref 511, .int 960 0, .int 338 0, .str "/claim/cut.py" 961].toArray, #[]⟩
noncomputable def o513 (P : Params) : Obj := ⟨.type "function", none, .func (fn (f1 24) "read_limit" "read_limit" 3 [] (.none) (.none) (.str (d1 24) 962) (.str "limits.util" 876) none (.ref 512) (.none) 0), #[]⟩
noncomputable def o514 (P : Params) : Obj := ⟨.type "tuple", none, .seq [].toArray 0, #[]⟩
noncomputable def o515 (P : Params) : Obj := ⟨.none, none, .fields [].toArray, #[]⟩
noncomputable def o516 (P : Params) : Obj := ⟨.type "tuple", none, .seq [.str "text" 967, .str "rows" 968, .str "found" 969, .str "place" 970].toArray 0, #[]⟩
noncomputable def o517 (P : Params) : Obj := ⟨.type "tuple", none, .seq [].toArray 0, #[]⟩
noncomputable def o518 (P : Params) : Obj := ⟨.none, none, .func (fn (f1 25) "read_limits" "read_limits" 0 [] (.none) (.none) (.none) (.none) none (.none) (.none) 0), #[]⟩
noncomputable def o519 (P : Params) : Obj := ⟨.type "code", none, .fields [.str "read_limits" 964, .str "read_limits" 965, .str "/claim/cut.py" 966, .int 360 0, .int 1 0, .int 0 0, .int 0 0, .int 3 0, .ref 514, .bool true, .int 181 0, .ref 515, .none, .ref 516, .ref 517, .ref 518, .int 971 0, .int 360 0, .str "/claim/cut.py" 972].toArray, #[]⟩
noncomputable def o520 (P : Params) : Obj := ⟨.type "function", none, .func (fn (f1 25) "read_limits" "read_limits" 3 [] (.none) (.none) (.str (d1 25) 973) (.str "limits.util" 876) none (.ref 519) (.none) 0), #[]⟩
noncomputable def t8 (P : Params) : BT := (n (boot_o_0 P) (n (boot_o_1 P) (n (o3v8 P) (n (boot_o_7 P) (n (o15 P) (n (o31 P) (n (o63 P) (n (o127 P) (n (o255 P) (l (o511 P)) z) (l (o383 P))) (n (o191 P) (l (o319 P)) (l (o447 P)))) (n (o95 P) (n (o159 P) (l (o287 P)) (l (o415 P))) (n (o223 P) (l (o351 P)) (l (o479 P))))) (n (o47 P) (n (o79 P) (n (o143 P) (l (o271 P)) (l (o399 P))) (n (o207 P) (l (o335 P)) (l (o463 P)))) (n (o111 P) (n (o175 P) (l (o303 P)) (l (o431 P))) (n (o239 P) (l (o367 P)) (l (o495 P)))))) (n (o23 P) (n (o39 P) (n (o71 P) (n (o135 P) (n (o263 P) (l (o519 P)) z) (l (o391 P))) (n (o199 P) (l (o327 P)) (l (o455 P)))) (n (o103 P) (n (o167 P) (l (o295 P)) (l (o423 P))) (n (o231 P) (l (o359 P)) (l (o487 P))))) (n (o55 P) (n (o87 P) (n (o151 P) (l (o279 P)) (l (o407 P))) (n (o215 P) (l (o343 P)) (l (o471 P)))) (n (o119 P) (n (o183 P) (l (o311 P)) (l (o439 P))) (n (o247 P) (l (o375 P)) (l (o503 P))))))) (n (o11 P) (n (o19 P) (n (o35 P) (n (o67 P) (n (o131 P) (n (o259 P) (l (o515 P)) z) (l (o387 P))) (n (o195 P) (l (o323 P)) (l (o451 P)))) (n (o99 P) (n (o163 P) (l (o291 P)) (l (o419 P))) (n (o227 P) (l (o355 P)) (l (o483 P))))) (n (o51 P) (n (o83 P) (n (o147 P) (l (o275 P)) (l (o403 P))) (n (o211 P) (l (o339 P)) (l (o467 P)))) (n (o115 P) (n (o179 P) (l (o307 P)) (l (o435 P))) (n (o243 P) (l (o371 P)) (l (o499 P)))))) (n (o27 P) (n (o43 P) (n (o75 P) (n (o139 P) (l (o267 P)) (l (o395 P))) (n (o203 P) (l (o331v1 P)) (l (o459 P)))) (n (o107 P) (n (o171 P) (l (o299 P)) (l (o427 P))) (n (o235 P) (l (o363 P)) (l (o491 P))))) (n (o59 P) (n (o91 P) (n (o155 P) (l (o283 P)) (l (o411 P))) (n (o219 P) (l (o347 P)) (l (o475 P)))) (n (o123 P) (n (o187 P) (l (o315 P)) (l (o443 P))) (n (o251 P) (l (o379 P)) (l (o507 P)))))))) (n (boot_o_5 P) (n (boot_o_9 P) (n (o17 P) (n (o33 P) (n (o65 P) (n (o129 P) (n (o257 P) (l (o513 P)) z) (l (o385 P))) (n (o193 P) (l (o321 P)) (l (o449 P)))) (n (o97 P) (n (o161 P) (l (o289 P)) (l (o417 P))) (n (o225 P) (l (o353 P)) (l (o481 P))))) (n (o49 P) (n (o81 P) (n (o145 P) (l (o273 P)) (l (o401 P))) (n (o209 P) (l (o337 P)) (l (o465 P)))) (n (o113 P) (n (o177 P) (l (o305 P)) (l (o433 P))) (n (o241 P) (l (o369 P)) (l (o497 P)))))) (n (o25 P) (n (o41 P) (n (o73 P) (n (o137 P) (l (o265 P)) (l (o393 P))) (n (o201 P) (l (o329 P)) (l (o457 P)))) (n (o105 P) (n (o169 P) (l (o297 P)) (l (o425 P))) (n (o233 P) (l (o361 P)) (l (o489 P))))) (n (o57 P) (n (o89 P) (n (o153 P) (l (o281 P)) (l (o409 P))) (n (o217 P) (l (o345 P)) (l (o473 P)))) (n (o121 P) (n (o185 P) (l (o313 P)) (l (o441 P))) (n (o249 P) (l (o377 P)) (l (o505 P))))))) (n (o13 P) (n (o21 P) (n (o37 P) (n (o69 P) (n (o133 P) (n (o261 P) (l (o517 P)) z) (l (o389 P))) (n (o197 P) (l (o325 P)) (l (o453 P)))) (n (o101 P) (n (o165 P) (l (o293 P)) (l (o421 P))) (n (o229 P) (l (o357 P)) (l (o485 P))))) (n (o53 P) (n (o85 P) (n (o149 P) (l (o277 P)) (l (o405 P))) (n (o213 P) (l (o341 P)) (l (o469 P)))) (n (o117 P) (n (o181 P) (l (o309 P)) (l (o437 P))) (n (o245 P) (l (o373 P)) (l (o501 P)))))) (n (o29 P) (n (o45 P) (n (o77 P) (n (o141 P) (l (o269 P)) (l (o397 P))) (n (o205v3 P) (l (o333 P)) (l (o461 P)))) (n (o109 P) (n (o173 P) (l (o301 P)) (l (o429 P))) (n (o237 P) (l (o365 P)) (l (o493 P))))) (n (o61 P) (n (o93 P) (n (o157 P) (l (o285 P)) (l (o413 P))) (n (o221 P) (l (o349 P)) (l (o477 P)))) (n (o125 P) (n (o189 P) (l (o317 P)) (l (o445 P))) (n (o253 P) (l (o381 P)) (l (o509 P))))))))) (n (boot_o_2 P) (n (boot_o_4 P) (n (boot_o_8 P) (n (o16 P) (n (o32 P) (n (o64 P) (n (o128 P) (n (o256 P) (l (o512 P)) z) (l (o384 P))) (n (o192 P) (l (o320 P)) (l (o448 P)))) (n (o96 P) (n (o160 P) (l (o288 P)) (l (o416 P))) (n (o224 P) (l (o352 P)) (l (o480 P))))) (n (o48 P) (n (o80 P) (n (o144 P) (l (o272 P)) (l (o400 P))) (n (o208 P) (l (o336 P)) (l (o464 P)))) (n (o112 P) (n (o176 P) (l (o304 P)) (l (o432 P))) (n (o240 P) (l (o368 P)) (l (o496 P)))))) (n (o24 P) (n (o40 P) (n (o72 P) (n (o136 P) (n (o264 P) (l (o520 P)) z) (l (o392 P))) (n (o200 P) (l (o328 P)) (l (o456 P)))) (n (o104 P) (n (o168 P) (l (o296 P)) (l (o424 P))) (n (o232 P) (l (o360 P)) (l (o488 P))))) (n (o56 P) (n (o88 P) (n (o152 P) (l (o280 P)) (l (o408 P))) (n (o216 P) (l (o344 P)) (l (o472 P)))) (n (o120 P) (n (o184 P) (l (o312 P)) (l (o440 P))) (n (o248 P) (l (o376 P)) (l (o504 P))))))) (n (o12v8 P) (n (o20 P) (n (o36 P) (n (o68 P) (n (o132 P) (n (o260 P) (l (o516 P)) z) (l (o388 P))) (n (o196 P) (l (o324 P)) (l (o452 P)))) (n (o100 P) (n (o164 P) (l (o292 P)) (l (o420 P))) (n (o228 P) (l (o356 P)) (l (o484 P))))) (n (o52 P) (n (o84 P) (n (o148 P) (l (o276 P)) (l (o404 P))) (n (o212 P) (l (o340 P)) (l (o468 P)))) (n (o116 P) (n (o180 P) (l (o308 P)) (l (o436 P))) (n (o244 P) (l (o372 P)) (l (o500 P)))))) (n (o28 P) (n (o44 P) (n (o76 P) (n (o140 P) (l (o268 P)) (l (o396 P))) (n (o204 P) (l (o332 P)) (l (o460 P)))) (n (o108 P) (n (o172 P) (l (o300 P)) (l (o428 P))) (n (o236 P) (l (o364 P)) (l (o492 P))))) (n (o60 P) (n (o92 P) (n (o156 P) (l (o284 P)) (l (o412 P))) (n (o220 P) (l (o348 P)) (l (o476 P)))) (n (o124 P) (n (o188 P) (l (o316 P)) (l (o444 P))) (n (o252 P) (l (o380 P)) (l (o508 P)))))))) (n (boot_o_6 P) (n (boot_o_10 P) (n (o18 P) (n (o34 P) (n (o66 P) (n (o130 P) (n (o258 P) (l (o514 P)) z) (l (o386 P))) (n (o194 P) (l (o322 P)) (l (o450 P)))) (n (o98 P) (n (o162 P) (l (o290 P)) (l (o418 P))) (n (o226 P) (l (o354 P)) (l (o482 P))))) (n (o50 P) (n (o82 P) (n (o146 P) (l (o274 P)) (l (o402 P))) (n (o210 P) (l (o338 P)) (l (o466 P)))) (n (o114 P) (n (o178 P) (l (o306 P)) (l (o434 P))) (n (o242 P) (l (o370 P)) (l (o498 P)))))) (n (o26 P) (n (o42 P) (n (o74 P) (n (o138 P) (l (o266 P)) (l (o394 P))) (n (o202 P) (l (o330 P)) (l (o458 P)))) (n (o106 P) (n (o170 P) (l (o298 P)) (l (o426 P))) (n (o234 P) (l (o362 P)) (l (o490 P))))) (n (o58 P) (n (o90 P) (n (o154 P) (l (o282 P)) (l (o410 P))) (n (o218 P) (l (o346 P)) (l (o474 P)))) (n (o122 P) (n (o186 P) (l (o314 P)) (l (o442 P))) (n (o250 P) (l (o378 P)) (l (o506 P))))))) (n (o14 P) (n (o22 P) (n (o38 P) (n (o70 P) (n (o134 P) (n (o262 P) (l (o518 P)) z) (l (o390 P))) (n (o198 P) (l (o326 P)) (l (o454 P)))) (n (o102 P) (n (o166 P) (l (o294 P)) (l (o422 P))) (n (o230 P) (l (o358 P)) (l (o486 P))))) (n (o54 P) (n (o86 P) (n (o150 P) (l (o278 P)) (l (o406 P))) (n (o214 P) (l (o342 P)) (l (o470 P)))) (n (o118 P) (n (o182 P) (l (o310 P)) (l (o438 P))) (n (o246 P) (l (o374 P)) (l (o502 P)))))) (n (o30 P) (n (o46 P) (n (o78 P) (n (o142 P) (l (o270 P)) (l (o398 P))) (n (o206 P) (l (o334 P)) (l (o462 P)))) (n (o110 P) (n (o174 P) (l (o302 P)) (l (o430 P))) (n (o238 P) (l (o366 P)) (l (o494 P))))) (n (o62 P) (n (o94 P) (n (o158 P) (l (o286 P)) (l (o414 P))) (n (o222 P) (l (o350 P)) (l (o478 P)))) (n (o126 P) (n (o190 P) (l (o318 P)) (l (o446 P))) (n (o254 P) (l (o382 P)) (l (o510 P))))))))))
abbrev S8 (w : World) (os : OsState) : SharedT := ⟨t8 w.params, 521, {}, #[], {}, 975, os⟩
noncomputable def o3v9 (P : Params) : Obj := ⟨.type "dict", none, .dict [e P "__name__" 165 (.str "limits.util" 876), e P "__doc__" 166 (.none), e P "__package__" 167 (.none), e P "__loader__" 168 (.builtin "__main__.__loader__#opaque"), e P "__spec__" 169 (.none), e P "__annotations__" 170 (.ref 6), e P "__builtins__" 171 (.ref 4), e P "__file__" 173 (.str "/claim/cut.py" 172), e P "__cached__" 174 (.none), e P "_wall" 193 (.ref 21), e P "_tuplegetter" 252 (.ref 495), e P "tuplegetter_limits" 253 (.ref 60), e P "safe_string" 261 (.ref 71), e P "Granularity" 376 (.ref 139), e P "RateLimitItem" 474 (.ref 205), e P "RateLimitItemPerYear" 502 (.ref 224), e P "RateLimitItemPerMonth" 530 (.ref 241), e P "RateLimitItemPerDay" 558 (.ref 258), e P "RateLimitItemPerHour" 586 (.ref 275), e P "RateLimitItemPerMinute" 614 (.ref 292), e P "RateLimitItemPerSecond" 642 (.ref 309), e P "TimestampedSlidingWindow" 690 (.ref 331), e P "MemoryStorage" 875 (.ref 454), e P "tuplegetter_util" 935 (.ref 495), e P "BLANKS" 937 (.str " \t\n\x0b\x0c\x0d\x1c\x1d\x1e\x1f" 936), e P "DIGITS" 939 (.str "0123456789" 938), e P "LETTERS" 941 (.str "abcdefghijklmnopqrstuvwxyz" 940), e P "skip" 951 (.ref 506), e P "read_limit" 963 (.ref 513), e P "read_limits" 974 (.ref 520), e P "WindowStats" 1089 (.ref 588), e P "parse_many" 1103 (.ref 598)].toArray 32, #[]⟩
noncomputable def o12v9 (P : Params) : Obj := ⟨.none, none, .fields [.int 1 0, .int 0 0, .ref 20, .int 5 0, .int 0 0, .ref 27, .int 24 0, .int 0 0, .ref 70, .int 31 0, .int 0 0, .ref 78, .int 73 0, .int 0 0, .ref 148, .int 128 0, .int 0 0, .ref 215, .int 134 0, .int 0 0, .ref 232, .int 140 0, .int 0 0, .ref 249, .int 146 0, .int 0 0, .ref 266, .int 152 0, .int 0 0, .ref 283, .int 158 0, .int 0 0, .ref 300, .int 165 0, .int 0 0, .ref 317, .int 192 0, .int 0 0, .ref 341, .int 311 0, .int 0 0, .ref 462, .int 333 0, .int 0 0, .ref 505, .int 338 0, .int 0 0, .ref 512, .int 360 0, .int 0 0, .ref 519, .int 375 0, .int 0 0, .ref 527, .int 417 0, .int 0 0, .ref 597].toArray, #[]⟩
noncomputable def o521 (P : Params) : Obj := ⟨.type "tuple", none, .seq [.type "tuple"].toArray 0, #[]⟩
noncomputable def o522 (P : Params) : Obj := ⟨.type "builtin_function_or_method", none, .fields [.builtin "type.__prepare__", .type "type"].toArray, #[]⟩
noncomputable def o523 (P : Params) : Obj := ⟨.type "dict", none, .dict [e P "__module__" 982 (.str "limits.util" 876), e P "__qualname__" 984 (.str "WindowStats" 983), e P "__firstlineno__" 986 (.int 375 985), e P "__doc__" 988 (.str (d1 26) 987), e P "__slots__" 990 (.ref 529), e P "_fields" 993 (.ref 530), e P "_field_defaults" 994 (.ref 531), e P "__new__" 1004 (.ref 538), e P "_make" 1026 (.ref 547), e P "_replace" 1037 (.ref 556), e P "__replace__" 1038 (.ref 556), e P "__repr__" 1046 (.ref 563), e P "_asdict" 1053 (.ref 570), e P "__getnewargs__" 1061 (.ref 577), e P "__match_args__" 1064 (.ref 578), e P "reset_time" 1074 (.ref 580), e P "remaining" 1084 (.ref 583), e P "__static_attributes__" 1085 (.ref 585), e P "__classcell__" 1086 (.ref 524)].toArray 19, #[]⟩
noncomputable def o524 (P : Params) : Obj := ⟨.type "cell", none, .cell (some (.ref 588)), #[]⟩
noncomputable def o525 (P : Params) : Obj := ⟨.type "tuple", none, .seq [].toArray 0, #[]⟩
noncomputable def o526 (P : Params) : Obj := ⟨.none, none, .fields [.int 381 0, .int 4 0, .ref 537, .int 386 0, .int 4 0, .ref 544, .int 393 0, .int 4 0, .ref 555, .int 404 0, .int 4 0, .ref 562, .int 408 0, .int 4 0, .ref 569, .int 411 0, .int 4 0, .ref 576].toArray, #[]⟩
noncomputable def o527 (P : Params) : Obj := ⟨.type "code", none, .fields [.str "WindowStats" 977, .str "WindowStats" 978, .str "/claim/cut.py" 979, .int 375 0, .int 0 0, .int 0 0, .int 0 0, .int 0 0, .ref 525, .bool false, .int 181 0, .ref 526, .none, .none, .none, .none, .int 980 0, .int 375 0, .str "/claim/cut.py" 981].toArray, #[]⟩
noncomputable def o528 (P : Params) : Obj := ⟨.type "frame", none, .plain, #[some (.ref 527), some (.ref 3), some (.ref 523), none, some (.str "limits.util" 876), none, some (.ref 0)]⟩
noncomputable def o529 (P : Params) : Obj := ⟨.type "tuple", none, .seq [].toArray 0, #[]⟩
noncomputable def o530 (P : Params) : Obj := ⟨.type "tuple", none, .seq [.str "reset_time" 991, .str "remaining" 992].toArray 0, #[]⟩
noncomputable def o531 (P : Params) : Obj := ⟨.type "dict", none, .dict [].toArray 0, #[]⟩
noncomputable def o532 (P : Params) : Obj := ⟨.type "tuple", none, .seq [].toArray 0, #[]⟩
noncomputable def o533 (P : Params) : Obj := ⟨.none, none, .fields [].toArray, #[]⟩
noncomputable def o534 (P : Params) : Obj := ⟨.type "tuple", none, .seq [.str "_cls" 998, .str "reset_time" 999, .str "remaining" 1000].toArray 0, #[]⟩
noncomputable def o535 (P : Params) : Obj := ⟨.type "tuple", none, .seq [].toArray 0, #[]⟩
noncomputable def o536 (P : Params) : Obj := ⟨.none, none, .func (fn (f2 26 4) "__new__" "WindowStats.__new__" 0 [] (.none) (.none) (.none) (.none) none (.none) (.none) 0), #[]⟩
noncomputable def o537 (P : Params) : Obj := ⟨.type "code", none, .fields [.str "__new__" 995, .str "WindowStats.__new__" 996, .str "/claim/cut.py" 997, .int 381 0, .int 3 0, .int 0 0, .int 0 0, .int 3 0, .ref 532, .bool true, .int 181 0, .ref 533, .none, .ref 534, .ref 535, .ref 536, .int 1001 0, .int 381 0, .str "/claim/cut.py" 1002].toArray, #[]⟩
noncomputable def o538 (P : Params) : Obj := ⟨.type "function", none, .func (fn (f2 26 4) "__new__" "WindowStats.__new__" 3 [] (.none) (.none) (.str (d2 26 4) 1003) (.str "limits.util" 876) none (.ref 537) (.none) 0), #[]⟩
noncomputable def o539 (P : Params) : Obj := ⟨.type "tuple", none, .seq [].toArray 0, #[]⟩
noncomputable def o540 (P : Params) : Obj := ⟨.none, none, .fields [].toArray, #[]⟩
noncomputable def o541 (P : Params) : Obj := ⟨.type "tuple", none, .seq [.str "cls" 1008, .str "iterable" 1009, .str "result" 1010].toArray 0, #[]⟩
noncomputable def o542 (P : Params) : Obj := ⟨.type "tuple", none, .seq [].toArray 0, #[]⟩
noncomputable def o543 (P : Params) : Obj := ⟨.none, none, .func (fn (f2 26 5) "_make" "WindowStats._make" 0 [] (.none) (.none) (.none) (.none) none (.none) (.none) 0), #[]⟩
noncomputable def o544 (P : Params) : Obj := ⟨.type "code", none, .fields [.str "_make" 1005, .str "WindowStats._make" 1006, .str "/claim/cut.py" 1007, .int 385 0, .int 2 0, .int 0 0, .int 0 0, .int 3 0, .ref 539, .bool true, .int 181 0, .ref 540, .none, .ref 541, .ref 542, .ref 543, .int 1011 0, .int 385 0, .str "/claim/cut.py" 1012].toArray, #[]⟩
noncomputable def o545 (P : Params) : Obj := ⟨.type "function", none, .func (fn (f2 26 5) "_make" "WindowStats._make" 3 [] (.none) (.none) (.str (d2 26 5) 1013) (.str "limits.util" 876) (some 548) (.ref 544) (.none) 0), #[]⟩
noncomputable def o546 (P : Params) : Obj := ⟨.type "dict", none, .dict [e P "__module__" 1015 (.str "limits.util" 876), e P "__name__" 1018 (.str "_make" 1017), e P "__qualname__" 1021 (.str "WindowStats._make" 1020), e P "__doc__" 1023 (.str (d2 26 5) 1013), e P "__annotations__" 1025 (.ref 548)].toArray 5, #[]⟩
noncomputable def o547 (P : Params) : Obj := ⟨.type "classmethod", some 546, .fields [.ref 545, .bool false].toArray, #[]⟩
noncomputable def o548 (P : Params) : Obj := ⟨.type "dict", none, .dict [].toArray 0, #[]⟩
noncomputable def o549 (P : Params) : Obj := ⟨.type "tuple", none, .seq [.ref 524].toArray 0, #[]⟩
noncomputable def o550 (P : Params) : Obj := ⟨.type "tuple", none, .seq [.str "__class__" 1030].toArray 0, #[]⟩
noncomputable def o551 (P : Params) : Obj := ⟨.none, none, .fields [].toArray, #[]⟩
noncomputable def o552 (P : Params) : Obj := ⟨.type "tuple", none, .seq [.str "self" 1031, .str "kwds" 1032, .str "result" 1033].toArray 0, #[]⟩
noncomputable def o553 (P : Params) : Obj := ⟨.type "tuple", none, .seq [].toArray 0, #[]⟩
noncomputable def o554 (P : Params) : Obj := ⟨.none, none, .func (fn (f2 26 6) "_replace" "WindowStats._replace" 0 [] (.none) (.none) (.none) (.none) none (.none) (.none) 0), #[]⟩
noncomputable def o555 (P : Params) : Obj := ⟨.type "code", none, .fields [.str "_replace" 1027, .str "WindowStats._replace" 1028, .str "/claim/cut.py" 1029, .int 393 0, .int 1 0, .int 1 0, .int 0 0, .int 11 0, .ref 550, .bool true, .int 181 0, .ref 551, .none, .ref 552, .ref 553, .ref 554, .int 1034 0, .int 393 0, .str "/claim/cut.py" 1035].toArray, #[]⟩
noncomputable def o556 (P : Params) : Obj := ⟨.type "function", none, .func (fn (f2 26 6) "_replace" "WindowStats._replace" 3 [("__class__", 524)] (.none) (.none) (.str (d2 26 6) 1036) (.str "limits.util" 876) none (.ref 555) (.ref 549) 0), #[]⟩
noncomputable def o557 (P : Params) : Obj := ⟨.type "tuple", none, .seq [].toArray 0, #[]⟩
noncomputable def o558 (P : Params) : Obj := ⟨.none, none, .fields [].toArray, #[]⟩
noncomputable def o559 (P : Params) : Obj := ⟨.type "tuple", none, .seq [.str "self" 1042].toArray 0, #[]⟩
noncomputable def o560 (P : Params) : Obj := ⟨.type "tuple", none, .seq [].toArray 0, #[]⟩
noncomputable def o561 (P : Params) : Obj := ⟨.none, none, .func (fn (f2 26 8) "__repr__" "WindowStats.__repr__" 0 [] (.none) (.none) (.none) (.none) none (.none) (.none) 0), #[]⟩
noncomputable def o562 (P : Params) : Obj := ⟨.type "code", none, .fields [.str "__repr__" 1039, .str "WindowStats.__repr__" 1040, .str "/claim/cut.py" 1041, .int 404 0, .int 1 0, .int 0 0, .int 0 0, .int 3 0, .ref 557, .bool true, .int 181 0, .ref 558, .none, .ref 559, .ref 560, .ref 561, .int 1043 0, .int 404 0, .str "/claim/cut.py" 1044].toArray, #[]⟩
noncomputable def o563 (P : Params) : Obj := ⟨.type "function", none, .func (fn (f2 26 8) "__repr__" "WindowStats.__repr__" 3 [] (.none) (.none) (.str (d2 5 8) 1045) (.str "limits.util" 876) none (.ref 562) (.none) 0), #[]⟩
noncomputable def o564 (P : Params) : Obj := ⟨.type "tuple", none, .seq [].toArray 0, #[]⟩
noncomputable def o565 (P : Params) : Obj := ⟨.none, none, .fields [].toArray, #[]⟩
noncomputable def o566 (P : Params) : Obj := ⟨.type "tuple", none, .seq [.str "self" 1050].toArray 0, #[]⟩
noncomputable def o567 (P : Params) : Obj := ⟨.type "tuple", none, .seq [].toArray 0, #[]⟩
noncomputable def o568 (P : Params) : Obj := ⟨.none, none, .func (fn (f2 26 9) "_asdict" "WindowStats._asdict" 0 [] (.none) (.none) (.none) (.none) none (.none) (.none) 0), #[]⟩
noncomputable def o569 (P : Params) : Obj := ⟨.type "code", none, .fields [.str "_asdict" 1047, .str "WindowStats._asdict" 1048, .str "/claim/cut.py" 1049, .int 408 0, .int 1 0, .int 0 0, .int 0 0, .int 3 0, .ref 564, .bool true, .int 181 0, .ref 565, .none, .ref 566, .ref 567, .ref 568, .int 1051 0, .int 408 0, .str "/claim/cut.py" 1052].toArray, #[]⟩
noncomputable def o570 (P : Params) : Obj := ⟨.type "function", none, .func (fn (f2 26 9) "_asdict" "WindowStats._asdict" 3 [] (.none) (.none) (.none) (.str "limits.util" 876) none (.ref 569) (.none) 0), #[]⟩
noncomputable def o571 (P : Params) : Obj := ⟨.type "tuple", none, .seq [].toArray 0, #[]⟩
noncomputable def o572 (P : Params) : Obj := ⟨.none, none, .fields [].toArray, #[]⟩
noncomputable def o573 (P : Params) : Obj := ⟨.type "tuple", none, .seq [.str "self" 1057].toArray 0, #[]⟩
noncomputable def o574 (P : Params) : Obj := ⟨.type "tuple", none, .seq [].toArray 0, #[]⟩
noncomputable def o575 (P : Params) : Obj := ⟨.none, none, .func (fn (f2 26 10) "__getnewargs__" "WindowStats.__getnewargs__" 0 [] (.none) (.none) (.none) (.none) none (.none) (.none) 0), #[]⟩
noncomputable def o576 (P : Params) : Obj := ⟨.type "code", none, .fields [.str "__getnewargs__" 1054, .str "WindowStats.__getnewargs__" 1055, .str "/claim/cut.py" 1056, .int 411 0, .int 1 0, .int 0 0, .int 0 0, .int 3 0, .ref 571, .bool true, .int 181 0, .ref 572, .none, .ref 573, .ref 574, .ref 575, .int 1058 0, .int 411 0, .str "/claim/cut.py" 1059].toArray, #[]⟩
noncomputable def o577 (P : Params) : Obj := ⟨.type "function", none, .func (fn (f2 26 10) "__getnewargs__" "WindowStats.__getnewargs__" 3 [] (.none) (.none) (.str (d2 5 10) 1060) (.str "limits.util" 876) none (.ref 576) (.none) 0), #[]⟩
noncomputable def o578 (P : Params) : Obj := ⟨.type "tuple", none, .seq [.str "reset_time" 1062, .str "remaining" 1063].toArray 0, #[]⟩
noncomputable def o579 (P : Params) : Obj := ⟨.type "dict", none, .dict [e P "index" 1071 (.int 0 1065), e P "__doc__" 1073 (.str "Alias for field number 0" 1066)].toArray 2, #[]⟩
noncomputable def o580 (P : Params) : Obj := ⟨.ref 495, some 579, .plain, #[]⟩
noncomputable def o581 (P : Params) : Obj := ⟨.type "frame", none, .dict [e P "self" 1067 (.ref 580), e P "index" 1068 (.int 0 1065), e P "doc" 1069 (.str "Alias for field number 0" 1066)].toArray 3, #[]⟩
noncomputable def o582 (P : Params) : Obj := ⟨.type "dict", none, .dict [e P "index" 1081 (.int 1 1075), e P "__doc__" 1083 (.str "Alias for field number 1" 1076)].toArray 2, #[]⟩
noncomputable def o583 (P : Params) : Obj := ⟨.ref 495, some 582, .plain, #[]⟩
noncomputable def o584 (P : Params) : Obj := ⟨.type "frame", none, .dict [e P "self" 1077 (.ref 583), e P "index" 1078 (.int 1 1075), e P "doc" 1079 (.str "Alias for field number 1" 1076)].toArray 3, #[]⟩
noncomputable def o585 (P : Params) : Obj := ⟨.type "tuple", none, .seq [].toArray 0, #[]⟩
noncomputable def o586 (P : Params) : Obj := ⟨.type "list", none, .seq [].toArray 0, #[]⟩
noncomputable def o587 (P : Params) : Obj := ⟨.type "dict", none, .dict [e P "__module__" 982 (.str "limits.util" 876), e P "__firstlineno__" 986 (.int 375 985), e P "__doc__" 988 (.str (d1 26) 987), e P "__slots__" 990 (.ref 529), e P "_fields" 993 (.ref 530), e P "_field_defaults" 994 (.ref 531), e P "__new__" 1004 (.ref 589), e P "_make" 1026 (.ref 547), e P "_replace" 1037 (.ref 556), e P "__replace__" 1038 (.ref 556), e P "__repr__" 1046 (.ref 563), e P "_asdict" 1053 (.ref 570), e P "__getnewargs__" 1061 (.ref 577), e P "__match_args__" 1064 (.ref 578), e P "reset_time" 1074 (.ref 580), e P "remaining" 1084 (.ref 583), e P "__static_attributes__" 1085 (.ref 585)].toArray 2, #[]⟩
noncomputable def o588 (P : Params) : Obj := ⟨.type "type", none, .cls ⟨"WindowStats", [.type "tuple"], [.ref 588, .type "tuple", .type "object"], 587, "WindowStats", false, [], [], false, none, false⟩, #[some (.ref 521), none, some (.str "WindowStats" 975), some (.str "WindowStats" 983), some (.none), some (.bool false)]⟩
noncomputable def o589 (P : Params) : Obj := ⟨.type "staticmethod", none, .fields [.ref 538].toArray, #[]⟩
noncomputable def o590 (P : Params) : Obj := ⟨.type "super", none, .fields [.ref 588, .ref 588, .ref 588].toArray, #[]⟩
noncomputable def o591 (P : Params) : Obj := ⟨.type "builtin_function_or_method", none, .fields [.builtin "object.__init_subclass__", .ref 588].toArray, #[]⟩
noncomputable def o592 (P : Params) : Obj := ⟨.type "tuple", none, .seq [].toArray 0, #[]⟩
noncomputable def o593 (P : Params) : Obj := ⟨.none, none, .fields [].toArray, #[]⟩
noncomputable def o594 (P : Params) : Obj := ⟨.type "tuple", none, .seq [.str "limit_string" 1093, .str "rows" 1094, .str "limits" 1095, .str "amount" 1096, .str "multiples" 1097, .str "granularity_string" 1098, .str "_" 1099].toArray 0, #[]⟩
noncomputable def o595 (P : Params) : Obj := ⟨.type "tuple", none, .seq [].toArray 0, #[]⟩
noncomputable def o596 (P : Params) : Obj := ⟨.none, none, .func (fn (f1 27) "parse_many" "parse_many" 0 [] (.none) (.none) (.none) (.none) none (.none) (.none) 0), #[]⟩
noncomputable def o597 (P : Params) : Obj := ⟨.type "code", none, .fields [.str "parse_many" 1090, .str "parse_many" 1091, .str "/claim/cut.py" 1092, .int 417 0, .int 1 0, .int 0 0, .int 0 0, .int 3 0, .ref 592, .bool true, .int 181 0, .ref 593, .none, .ref 594, .ref 595, .ref 596, .int 1100 0, .int 417 0, .str "/claim/cut.py" 1101].toArray, #[]⟩
noncomputable def o598 (P : Params) : Obj := ⟨.type "function", none, .func (fn (f1 27) "parse_many" "parse_many" 3 [] (.none) (.none) (.str (d1 27) 1102) (.str "limits.util" 876) none (.ref 597) (.none) 0), #[]⟩
noncomputable def t9 (P : Params) : BT := (n (boot_o_0 P) (n (boot_o_1 P) (n (o3v9 P) (n (boot_o_7 P) (n (o15 P) (n (o31 P) (n (o63 P) (n (o127 P) (n (o255 P) (l (o511 P)) z) (l (o383 P))) (n (o191 P) (n (o319 P) (l (o575 P)) z) (l (o447 P)))) (n (o95 P) (n (o159 P) (n (o287 P) (l (o543 P)) z) (l (o415 P))) (n (o223 P) (l (o351 P)) (l (o479 P))))) (n (o47 P) (n (o79 P) (n (o143 P) (n (o271 P) (l (o527 P)) z) (l (o399 P))) (n (o207 P) (n (o335 P) (l (o591 P)) z) (l (o463 P)))) (n (o111 P) (n (o175 P) (n (o303 P) (l (o559 P)) z) (l (o431 P))) (n (o239 P) (l (o367 P)) (l (o495 P)))))) (n (o23 P) (n (o39 P) (n (o71 P) (n (o135 P) (n (o263 P) (l (o519 P)) z) (l (o391 P))) (n (o199 P) (n (o327 P) (l (o583 P)) z) (l (o455 P)))) (n (o103 P) (n (o167 P) (n (o295 P) (l (o551 P)) z) (l (o423 P))) (n (o231 P) (l (o359 P)) (l (o487 P))))) (n (o55 P) (n (o87 P) (n (o151 P) (n (o279 P) (l (o535 P)) z) (l (o407 P))) (n (o215 P) (l (o343 P)) (l (o471 P)))) (n (o119 P) (n (o183 P) (n (o311 P) (l (o567 P)) z) (l (o439 P))) (n (o247 P) (l (o375 P)) (l (o503 P))))))) (n (o11 P) (n (o19 P) (n (o35 P) (n (o67 P) (n (o131 P) (n (o259 P) (l (o515 P)) z) (l (o387 P))) (n (o195 P) (n (o323 P) (l (o579 P)) z) (l (o451 P)))) (n (o99 P) (n (o163 P) (n (o291 P) (l (o547 P)) z) (l (o419 P))) (n (o227 P) (l (o355 P)) (l (o483 P))))) (n (o51 P) (n (o83 P) (n (o147 P) (n (o275 P) (l (o531 P)) z) (l (o403 P))) (n (o211 P) (n (o339 P) (l (o595 P)) z) (l (o467 P)))) (n (o115 P) (n (o179 P) (n (o307 P) (l (o563 P)) z) (l (o435 P))) (n (o243 P) (l (o371 P)) (l (o499 P)))))) (n (o27 P) (n (o43 P) (n (o75 P) (n (o139 P) (n (o267 P) (l (o523 P)) z) (l (o395 P))) (n (o203 P) (n (o331v1 P) (l (o587 P)) z) (l (o459 P)))) (n (o107 P) (n (o171 P) (n (o299 P) (l (o555 P)) z) (l (o427 P))) (n (o235 P) (l (o363 P)) (l (o491 P))))) (n (o59 P) (n (o91 P) (n (o155 P) (n (o283 P) (l (o539 P)) z) (l (o411 P))) (n (o219 P) (l (o347 P)) (l (o475 P)))) (n (o123 P) (n (o187 P) (n (o315 P) (l (o571 P)) z) (l (o443 P))) (n (o251 P) (l (o379 P)) (l (o507 P)))))))) (n (boot_o_5 P) (n (boot_o_9 P) (n (o17 P) (n (o33 P) (n (o65 P) (n (o129 P) (n (o257 P) (l (o513 P)) z) (l (o385 P))) (n (o193 P) (n (o321 P) (l (o577 P)) z) (l (o449 P)))) (n (o97 P) (n (o161 P) (n (o289 P) (l (o545 P)) z) (l (o417 P))) (n (o225 P) (l (o353 P)) (l (o481 P))))) (n (o49 P) (n (o81 P) (n (o145 P) (n (o273 P) (l (o529 P)) z) (l (o401 P))) (n (o209 P) (n (o337 P) (l (o593 P)) z) (l (o465 P)))) (n (o113 P) (n (o177 P) (n (o305 P) (l (o561 P)) z) (l (o433 P))) (n (o241 P) (l (o369 P)) (l (o497 P)))))) (n (o25 P) (n (o41 P) (n (o73 P) (n (o137 P) (n (o265 P) (l (o521 P)) z) (l (o393 P))) (n (o201 P) (n (o329 P) (l (o585 P)) z) (l (o457 P)))) (n (o105 P) (n (o169 P) (n (o297 P) (l (o553 P)) z) (l (o425 P))) (n (o233 P) (l (o361 P)) (l (o489 P))))) (n (o57 P) (n (o89 P) (n (o153 P) (n (o281 P) (l (o537 P)) z) (l (o409 P))) (n (o217 P) (l (o345 P)) (l (o473 P)))) (n (o121 P) (n (o185 P) (n (o313 P) (l (o569 P)) z) (l (o441 P))) (n (o249 P) (l (o377 P)) (l (o505 P))))))) (n (o13 P) (n (o21 P) (n (o37 P) (n (o69 P) (n (o133 P) (n (o261 P) (l (o517 P)) z) (l (o389 P))) (n (o197 P) (n (o325 P) (l (o581 P)) z) (l (o453 P)))) (n (o101 P) (n (o165 P) (n (o293 P) (l (o549 P)) z) (l (o421 P))) (n (o229 P) (l (o357 P)) (l (o485 P))))) (n (o53 P) (n (o85 P) (n (o149 P) (n (o277 P) (l (o533 P)) z) (l (o405 P))) (n (o213 P) (n (o341 P) (l (o597 P)) z) (l (o469 P)))) (n (o117 P) (n (o181 P) (n (o309 P) (l (o565 P)) z) (l (o437 P))) (n (o245 P) (l (o373 P)) (l (o501 P)))))) (n (o29 P) (n (o45 P) (n (o77 P) (n (o141 P) (n (o269 P) (l (o525 P)) z) (l (o397 P))) (n (o205v3 P) (n (o333 P) (l (o589 P)) z) (l (o461 P)))) (n (o109 P) (n (o173 P) (n (o301 P) (l (o557 P)) z) (l (o429 P))) (n (o237 P) (l (o365 P)) (l (o493 P))))) (n (o61 P) (n (o93 P) (n (o157 P) (n (o285 P) (l (o541 P)) z) (l (o413 P))) (n (o221 P) (l (o349 P)) (l (o477 P)))) (n (o125 P) (n (o189 P) (n (o317 P) (l (o573 P)) z) (l (o445 P))) (n (o253 P) (l (o381 P)) (l (o509 P))))))))) (n (boot_o_2 P) (n (boot_o_4 P) (n (boot_o_8 P) (n (o16 P) (n (o32 P) (n (o64 P) (n (o128 P) (n (o256 P) (l (o512 P)) z) (l (o384 P))) (n (o192 P) (n (o320 P) (l (o576 P)) z) (l (o448 P)))) (n (o96 P) (n (o160 P) (n (o288 P) (l (o544 P)) z) (l (o416 P))) (n (o224 P) (l (o352 P)) (l (o480 P))))) (n (o48 P) (n (o80 P) (n (o144 P) (n (o272 P) (l (o528 P)) z) (l (o400 P))) (n (o208 P) (n (o336 P) (l (o592 P)) z) (l (o464 P)))) (n (o112 P) (n (o176 P) (n (o304 P) (l (o560 P)) z) (l (o432 P))) (n (o240 P) (l (o368 P)) (l (o496 P)))))) (n (o24 P) (n (o40 P) (n (o72 P) (n (o136 P) (n (o264 P) (l (o520 P)) z) (l (o392 P))) (n (o200 P) (n (o328 P) (l (o584 P)) z) (l (o456 P)))) (n (o104 P) (n (o168 P) (n (o296 P) (l (o552 P)) z) (l (o424 P))) (n (o232 P) (l (o360 P)) (l (o488 P))))) (n (o56 P) (n (o88 P) (n (o152 P) (n (o280 P) (l (o536 P)) z) (l (o408 P))) (n (o216 P) (l (o344 P)) (l (o472 P)))) (n (o120 P) (n (o184 P) (n (o312 P) (l (o568 P)) z) (l (o440 P))) (n (o248 P) (l (o376 P)) (l (o504 P))))))) (n (o12v9 P) (n (o20 P) (n (o36 P) (n (o68 P) (n (o132 P) (n (o260 P) (l (o516 P)) z) (l (o388 P))) (n (o196 P) (n (o324 P) (l (o580 P)) z) (l (o452 P)))) (n (o100 P) (n (o164 P) (n (o292 P) (l (o548 P)) z) (l (o420 P))) (n (o228 P) (l (o356 P)) (l (o484 P))))) (n (o52 P) (n (o84 P) (n (o148 P) (n (o276 P) (l (o532 P)) z) (l (o404 P))) (n (o212 P) (n (o340 P) (l (o596 P)) z) (l (o468 P)))) (n (o116 P) (n (o180 P) (n (o308 P) (l (o564 P)) z) (l (o436 P))) (n (o244 P) (l (o372 P)) (l (o500 P)))))) (n (o28 P) (n (o44 P) (n (o76 P) (n (o140 P) (n (o268 P) (l (o524 P)) z) (l (o396 P))) (n (o204 P) (n (o332 P) (l (o588 P)) z) (l (o460 P)))) (n (o108 P) (n (o172 P) (n (o300 P) (l (o556 P)) z) (l (o428 P))) (n (o236 P) (l (o364 P)) (l (o492 P))))) (n (o60 P) (n (o92 P) (n (o156 P) (n (o284 P) (l (o540 P)) z) (l (o412 P))) (n (o220 P) (l (o348 P)) (l (o476 P)))) (n (o124 P) (n (o188 P) (n (o316 P) (l (o572 P)) z) (l (o444 P))) (n (o252 P) (l (o380 P)) (l (o508 P)))))))) (n (boot_o_6 P) (n (boot_o_10 P) (n (o18 P) (n (o34 P) (n (o66 P) (n (o130 P) (n (o258 P) (l (o514 P)) z) (l (o386 P))) (n (o194 P) (n (o322 P) (l (o578 P)) z) (l (o450 P)))) (n (o98 P) (n (o162 P) (n (o290 P) (l (o546 P)) z) (l (o418 P))) (n (o226 P) (l (o354 P)) (l (o482 P))))) (n (o50 P) (n (o82 P) (n (o146 P) (n (o274 P) (l (o530 P)) z) (l (o402 P))) (n (o210 P) (n (o338 P) (l (o594 P)) z) (l (o466 P)))) (n (o114 P) (n (o178 P) (n (o306 P) (l (o562 P)) z) (l (o434 P))) (n (o242 P) (l (o370 P)) (l (o498 P)))))) (n (o26 P) (n (o42 P) (n (o74 P) (n (o138 P) (n (o266 P) (l (o522 P)) z) (l (o394 P))) (n (o202 P) (n (o330 P) (l (o586 P)) z) (l (o458 P)))) (n (o106 P) (n (o170 P) (n (o298 P) (l (o554 P)) z) (l (o426 P))) (n (o234 P) (l (o362 P)) (l (o490 P))))) (n (o58 P) (n (o90 P) (n (o154 P) (n (o282 P) (l (o538 P)) z) (l (o410 P))) (n (o218 P) (l (o346 P)) (l (o474 P)))) (n (o122 P) (n (o186 P) (n (o314 P) (l (o570 P)) z) (l (o442 P))) (n (o250 P) (l (o378 P)) (l (o506 P))))))) (n (o14 P) (n (o22 P) (n (o38 P) (n (o70 P) (n (o134 P) (n (o262 P) (l (o518 P)) z) (l (o390 P))) (n (o198 P) (n (o326 P) (l (o582 P)) z) (l (o454 P)))) (n (o102 P) (n (o166 P) (n (o294 P) (l (o550 P)) z) (l (o422 P))) (n (o230 P) (l (o358 P)) (l (o486 P))))) (n (o54 P) (n (o86 P) (n (o150 P) (n (o278 P) (l (o534 P)) z) (l (o406 P))) (n (o214 P) (n (o342 P) (l (o598 P)) z) (l (o470 P)))) (n (o118 P) (n (o182 P) (n (o310 P) (l (o566 P)) z) (l (o438 P))) (n (o246 P) (l (o374 P)) (l (o502 P)))))) (n (o30 P) (n (o46 P) (n (o78 P) (n (o142 P) (n (o270 P) (l (o526 P)) z) (l (o398 P))) (n (o206 P) (n (o334 P) (l (o590 P)) z) (l (o462 P)))) (n (o110 P) (n (o174 P) (n (o302 P) (l (o558 P)) z) (l (o430 P))) (n (o238 P) (l (o366 P)) (l (o494 P))))) (n (o62 P) (n (o94 P) (n (o158 P) (n (o286 P) (l (o542 P)) z) (l (o414 P))) (n (o222 P) (l (o350 P)) (l (o478 P)))) (n (o126 P) (n (o190 P) (n (o318 P) (l (o574 P)) z) (l (o446 P))) (n (o254 P) (l (o382 P)) (l (o510 P))))))))))
abbrev S9 (w : World) (os : OsState) : SharedT := ⟨t9 w.params, 599, {}, #[], {}, 1104, os⟩
noncomputable def o3v10 (P : Params) : Obj := ⟨.type "dict", none, .dict [e P "__name__" 165 (.str "law_ji0061_01" 1242), e P "__doc__" 166 (.none), e P "__package__" 167 (.none), e P "__loader__" 168 (.builtin "__main__.__loader__#opaque"), e P "__spec__" 169 (.none), e P "__annotations__" 170 (.ref 6), e P "__builtins__" 171 (.ref 4), e P "__file__" 173 (.str "/claim/cut.py" 172), e P "__cached__" 174 (.none), e P "_wall" 193 (.ref 21), e P "_tuplegetter" 252 (.ref 495), e P "tuplegetter_limits" 253 (.ref 60), e P "safe_string" 261 (.ref 71), e P "Granularity" 376 (.ref 139), e P "RateLimitItem" 474 (.ref 205), e P "RateLimitItemPerYear" 502 (.ref 224), e P "RateLimitItemPerMonth" 530 (.ref 241), e P "RateLimitItemPerDay" 558 (.ref 258), e P "RateLimitItemPerHour" 586 (.ref 275), e P "RateLimitItemPerMinute" 614 (.ref 292), e P "RateLimitItemPerSecond" 642 (.ref 309), e P "TimestampedSlidingWindow" 690 (.ref 331), e P "MemoryStorage" 875 (.ref 454), e P "tuplegetter_util" 935 (.ref 495), e P "BLANKS" 937 (.str " \t\n\x0b\x0c\x0d\x1c\x1d\x1e\x1f" 936), e P "DIGITS" 939 (.str "0123456789" 938), e P "LETTERS" 941 (.str "abcdefghijklmnopqrstuvwxyz" 940), e P "skip" 951 (.ref 506), e P "read_limit" 963 (.ref 513), e P "read_limits" 974 (.ref 520), e P "WindowStats" 1089 (.ref 588), e P "parse_many" 1103 (.ref 598), e P "parse" 1111 (.ref 605), e P "granularity_from_string" 1121 (.ref 612), e P "RateLimiter" 1161 (.ref 638), e P "SlidingWindowCounterRateLimiter" 1241 (.ref 695), e P "_law_NAMES" 1250 (.ref 698), e P "_law_CHAIN" 1257 (.ref 699), e P "_law_GIVEN" 1261 (.ref 700), e P "_law_MEANT" 1266 (.ref 701), e P "_law_WHO" 1274 (.ref 707), e P "_law_PARTS" 1282 (.ref 713), e P "_law_limit" 1292 (.ref 720), e P "_law_often" 1302 (.ref 727)].toArray 44, #[]⟩
noncomputable def o12v10 (P : Params) : Obj := ⟨.none, none, .fields [.int 1 0, .int 0 0, .ref 20, .int 5 0, .int 0 0, .ref 27, .int 24 0, .int 0 0, .ref 70, .int 31 0, .int 0 0, .ref 78, .int 73 0, .int 0 0, .ref 148, .int 128 0, .int 0 0, .ref 215, .int 134 0, .int 0 0, .ref 232, .int 140 0, .int 0 0, .ref 249, .int 146 0, .int 0 0, .ref 266, .int 152 0, .int 0 0, .ref 283, .int 158 0, .int 0 0, .ref 300, .int 165 0, .int 0 0, .ref 317, .int 192 0, .int 0 0, .ref 341, .int 311 0, .int 0 0, .ref 462, .int 333 0, .int 0 0, .ref 505, .int 338 0, .int 0 0, .ref 512, .int 360 0, .int 0 0, .ref 519, .int 375 0, .int 0 0, .ref 527, .int 417 0, .int 0 0, .ref 597, .int 433 0, .int 0 0, .ref 604, .int 443 0, .int 0 0, .ref 611, .int 463 0, .int 0 0, .ref 618, .int 470 0, .int 0 0, .ref 648, .int 528 0, .int 0 0, .ref 719, .int 540 0, .int 0 0, .ref 726].toArray, #[]⟩
noncomputable def o599 (P : Params) : Obj := ⟨.type "tuple", none, .seq [].toArray 0, #[]⟩
noncomputable def o600 (P : Params) : Obj := ⟨.none, none, .fields [].toArray, #[]⟩
noncomputable def o601 (P : Params) : Obj := ⟨.type "tuple", none, .seq [.str "limit_string" 1107].toArray 0, #[]⟩
noncomputable def o602 (P : Params) : Obj := ⟨.type "tuple", none, .seq [].toArray 0, #[]⟩
noncomputable def o603 (P : Params) : Obj := ⟨.none, none, .func (fn (f1 28) "parse" "parse" 0 [] (.none) (.none) (.none) (.none) none (.none) (.none) 0), #[]⟩
noncomputable def o604 (P : Params) : Obj := ⟨.type "code", none, .fields [.str "parse" 1104, .str "parse" 1105, .str "/claim/cut.py" 1106, .int 433 0, .int 1 0, .int 0 0, .int 0 0, .int 3 0, .ref 599, .bool true, .int 181 0, .ref 600, .none, .ref 601, .ref 602, .ref 603, .int 1108 0, .int 433 0, .str "/claim/cut.py" 1109].toArray, #[]⟩
noncomputable def o605 (P : Params) : Obj := ⟨.type "function", none, .func (fn (f1 28) "parse" "parse" 3 [] (.none) (.none) (.str (d1 28) 1110) (.str "limits.util" 876) none (.ref 604) (.none) 0), #[]⟩
noncomputable def o606 (P : Params) : Obj := ⟨.type "tuple", none, .seq [].toArray 0, #[]⟩
noncomputable def o607 (P : Params) : Obj := ⟨.none, none, .fields [].toArray, #[]⟩
noncomputable def o608 (P : Params) : Obj := ⟨.type "tuple", none, .seq [.str "granularity_string" 1115, .str "amount" 1116, .str "multiples" 1117].toArray 0, #[]⟩
noncomputable def o609 (P : Params) : Obj := ⟨.type "tuple", none, .seq [].toArray 0, #[]⟩
noncomputable def o610 (P : Params) : Obj := ⟨.none, none, .func (fn (f1 29) "granularity_from_string" "granularity_from_string" 0 [] (.none) (.none) (.none) (.none) none (.none) (.none) 0), #[]⟩
noncomputable def o611 (P : Params) : Obj := ⟨.type "code", none, .fields [.str "granularity_from_string" 1112, .str "granularity_from_string" 1113, .str "/claim/cut.py" 1114, .int 443 0, .int 3 0, .int 0 0, .int 0 0, .int 3 0, .ref 606, .bool true, .int 181 0, .ref 607, .none, .ref 608, .ref 609, .ref 610, .int 1118 0, .int 443 0, .str "/claim/cut.py" 1119].toArray, #[]⟩
noncomputable def o612 (P : Params) : Obj := ⟨.type "function", none, .func (fn (f1 29) "granularity_from_string" "granularity_from_string" 3 [] (.none) (.none) (.str (d1 29) 1120) (.str "limits.util" 876) none (.ref 611) (.none) 0), #[]⟩
noncomputable def o613 (P : Params) : Obj := ⟨.type "tuple", none, .seq [].toArray 0, #[]⟩
noncomputable def o614 (P : Params) : Obj := ⟨.type "builtin_function_or_method", none, .fields [.builtin "type.__prepare__", .type "type"].toArray, #[]⟩
noncomputable def o615 (P : Params) : Obj := ⟨.type "dict", none, .dict [e P "__module__" 1131 (.str "limits.strategies" 1122), e P "__qualname__" 1133 (.str "RateLimiter" 1132), e P "__firstlineno__" 1135 (.int 463 1134), e P "__init__" 1143 (.ref 626), e P "clear" 1152 (.ref 635), e P "__static_attributes__" 1154 (.ref 636)].toArray 6, #[]⟩
noncomputable def o616 (P : Params) : Obj := ⟨.type "tuple", none, .seq [].toArray 0, #[]⟩
noncomputable def o617 (P : Params) : Obj := ⟨.none, none, .fields [.int 465 0, .int 4 0, .ref 625, .int 468 0, .int 4 0, .ref 634].toArray, #[]⟩
noncomputable def o618 (P : Params) : Obj := ⟨.type "code", none, .fields [.str "RateLimiter" 1126, .str "RateLimiter" 1127, .str "/claim/cut.py" 1128, .int 463 0, .int 0 0, .int 0 0, .int 0 0, .int 0 0, .ref 616, .bool false, .int 181 0, .ref 617, .none, .none, .none, .none, .int 1129 0, .int 463 0, .str "/claim/cut.py" 1130].toArray, #[]⟩
noncomputable def o619 (P : Params) : Obj := ⟨.type "frame", none, .plain, #[some (.ref 618), some (.ref 3), some (.ref 615), none, some (.str "limits.strategies" 1122), none, some (.ref 0)]⟩
noncomputable def o620 (P : Params) : Obj := ⟨.type "tuple", none, .seq [].toArray 0, #[]⟩
noncomputable def o621 (P : Params) : Obj := ⟨.none, none, .fields [].toArray, #[]⟩
noncomputable def o622 (P : Params) : Obj := ⟨.type "tuple", none, .seq [.str "self" 1139, .str "storage" 1140].toArray 0, #[]⟩
noncomputable def o623 (P : Params) : Obj := ⟨.type "tuple", none, .seq [].toArray 0, #[]⟩
noncomputable def o624 (P : Params) : Obj := ⟨.none, none, .func (fn (f2 31 0) "__init__" "RateLimiter.__init__" 0 [] (.none) (.none) (.none) (.none) none (.none) (.none) 0), #[]⟩
noncomputable def o625 (P : Params) : Obj := ⟨.type "code", none, .fields [.str "__init__" 1136, .str "RateLimiter.__init__" 1137, .str "/claim/cut.py" 1138, .int 465 0, .int 2 0, .int 0 0, .int 0 0, .int 3 0, .ref 620, .bool true, .int 181 0, .ref 621, .none, .ref 622, .ref 623, .ref 624, .int 1141 0, .int 465 0, .str "/claim/cut.py" 1142].toArray, #[]⟩
noncomputable def o626 (P : Params) : Obj := ⟨.type "function", none, .func (fn (f2 31 0) "__init__" "RateLimiter.__init__" 3 [] (.none) (.none) (.none) (.str "limits.strategies" 1122) none (.ref 625) (.none) 0), #[]⟩
noncomputable def o627 (P : Params) : Obj := ⟨.type "tuple", none, .seq [].toArray 0, #[]⟩
noncomputable def o628 (P : Params) : Obj := ⟨.type "tuple", none, .seq [.ref 627].toArray 0, #[]⟩
noncomputable def o629 (P : Params) : Obj := ⟨.type "tuple", none, .seq [].toArray 0, #[]⟩
noncomputable def o630 (P : Params) : Obj := ⟨.none, none, .fields [].toArray, #[]⟩
noncomputable def o631 (P : Params) : Obj := ⟨.type "tuple", none, .seq [.str "self" 1147, .str "item" 1148, .str "identifiers" 1149].toArray 0, #[]⟩
noncomputable def o632 (P : Params) : Obj := ⟨.type "tuple", none, .seq [].toArray 0, #[]⟩
noncomputable def o633 (P : Params) : Obj := ⟨.none, none, .func (fn (f2 31 1) "clear" "RateLimiter.clear" 0 [] (.none) (.none) (.none) (.none) none (.none) (.none) 0), #[]⟩
noncomputable def o634 (P : Params) : Obj := ⟨.type "code", none, .fields [.str "clear" 1144, .str "RateLimiter.clear" 1145, .str "/claim/cut.py" 1146, .int 468 0, .int 3 0, .int 0 0, .int 0 0, .int 3 0, .ref 629, .bool true, .int 181 0, .ref 630, .none, .ref 631, .ref 632, .ref 633, .int 1150 0, .int 468 0, .str "/claim/cut.py" 1151].toArray, #[]⟩
noncomputable def o635 (P : Params) : Obj := ⟨.type "function", none, .func (fn (f2 31 1) "clear" "RateLimiter.clear" 3 [] (.ref 628) (.none) (.none) (.str "limits.strategies" 1122) none (.ref 634) (.none) 0), #[]⟩
noncomputable def o636 (P : Params) : Obj := ⟨.type "tuple", none, .seq [.str "storage" 1153].toArray 0, #[]⟩
noncomputable def o637 (P : Params) : Obj := ⟨.type "dict", none, .dict [e P "__module__" 1131 (.str "limits.strategies" 1122), e P "__firstlineno__" 1135 (.int 463 1134), e P "__init__" 1143 (.ref 626), e P "clear" 1152 (.ref 635), e P "__static_attributes__" 1154 (.ref 636), e P "__dict__" 1156 (.ref 639), e P "__weakref__" 1158 (.ref 640), e P "__doc__" 1159 (.none)].toArray 4, #[]⟩
noncomputable def o638 (P : Params) : Obj := ⟨.type "type", none, .cls ⟨"RateLimiter", [.type "object"], [.ref 638, .type "object"], 637, "RateLimiter", true, [], [.ref 695], false, none, false⟩, #[none, none, some (.str "RateLimiter" 1124), some (.str "RateLimiter" 1132), some (.builtin "object.__new__"), some (.bool true)]⟩
noncomputable def o639 (P : Params) : Obj := ⟨.type "getset_descriptor", none, .fields [.str "__dict__" 1155, .ref 638, .builtin "function.__dict__", .builtin "function.__dict__#set"].toArray, #[]⟩
noncomputable def o640 (P : Params) : Obj := ⟨.type "getset_descriptor", none, .fields [.str "__weakref__" 1157, .ref 638, .builtin "ExceptionGroup.__weakref__", .none].toArray, #[]⟩
noncomputable def o641 (P : Params) : Obj := ⟨.type "super", none, .fields [.ref 638, .ref 638, .ref 638].toArray, #[]⟩
noncomputable def o642 (P : Params) : Obj := ⟨.type "builtin_function_or_method", none, .fields [.builtin "object.__init_subclass__", .ref 638].toArray, #[]⟩
noncomputable def o643 (P : Params) : Obj := ⟨.type "tuple", none, .seq [.ref 638].toArray 0, #[]⟩
noncomputable def o644 (P : Params) : Obj := ⟨.type "builtin_function_or_method", none, .fields [.builtin "type.__prepare__", .type "type"].toArray, #[]⟩
noncomputable def o645 (P : Params) : Obj := ⟨.type "dict", none, .dict [e P "__module__" 1169 (.str "limits.strategies" 1122), e P "__qualname__" 1171 (.str "SlidingWindowCounterRateLimiter" 1170), e P "__firstlineno__" 1173 (.int 470 1172), e P "__doc__" 1175 (.str (d1 32) 1174), e P "_weighted_count" 1188 (.ref 656), e P "hit" 1200 (.ref 665), e P "test" 1211 (.ref 674), e P "get_window_stats" 1229 (.ref 683), e P "clear" 1238 (.ref 692), e P "__static_attributes__" 1239 (.ref 693)].toArray 10, #[]⟩
noncomputable def o646 (P : Params) : Obj := ⟨.type "tuple", none, .seq [].toArray 0, #[]⟩
noncomputable def o647 (P : Params) : Obj := ⟨.none, none, .fields [.int 475 0, .int 4 0, .ref 655, .int 481 0, .int 4 0, .ref 664, .int 494 0, .int 4 0, .ref 673, .int 497 0, .int 4 0, .ref 682, .int 519 0, .int 4 0, .ref 691].toArray, #[]⟩
noncomputable def o648 (P : Params) : Obj := ⟨.type "code", none, .fields [.str "SlidingWindowCounterRateLimiter" 1164, .str "SlidingWindowCounterRateLimiter" 1165, .str "/claim/cut.py" 1166, .int 470 0, .int 0 0, .int 0 0, .int 0 0, .int 0 0, .ref 646, .bool false, .int 181 0, .ref 647, .none, .none, .none, .none, .int 1167 0, .int 470 0, .str "/claim/cut.py" 1168].toArray, #[]⟩
noncomputable def o649 (P : Params) : Obj := ⟨.type "frame", none, .plain, #[some (.ref 648), some (.ref 3), some (.ref 645), none, some (.str "limits.strategies" 1122), none, some (.ref 0)]⟩
noncomputable def o650 (P : Params) : Obj := ⟨.type "tuple", none, .seq [].toArray 0, #[]⟩
noncomputable def o651 (P : Params) : Obj := ⟨.none, none, .fields [].toArray, #[]⟩
noncomputable def o652 (P : Params) : Obj := ⟨.type "tuple", none, .seq [.str "self" 1180, .str "item" 1181, .str "previous_count" 1182, .str "previous_expires_in" 1183, .str "current_count" 1184].toArray 0, #[]⟩
noncomputable def o653 (P : Params) : Obj := ⟨.type "tuple", none, .seq [].toArray 0, #[]⟩
noncomputable def o654 (P : Params) : Obj := ⟨.none, none, .func (fn (f2 32 1) "_weighted_count" "SlidingWindowCounterRateLimiter._weighted_count" 0 [] (.none) (.none) (.none) (.none) none (.none) (.none) 0), #[]⟩
noncomputable def o655 (P : Params) : Obj := ⟨.type "code", none, .fields [.str "_weighted_count" 1177, .str "SlidingWindowCounterRateLimiter._weighted_count" 1178, .str "/claim/cut.py" 1179, .int 475 0, .int 5 0, .int 0 0, .int 0 0, .int 3 0, .ref 650, .bool true, .int 181 0, .ref 651, .none, .ref 652, .ref 653, .ref 654, .int 1185 0, .int 475 0, .str "/claim/cut.py" 1186].toArray, #[]⟩
noncomputable def o656 (P : Params) : Obj := ⟨.type "function", none, .func (fn (f2 32 1) "_weighted_count" "SlidingWindowCounterRateLimiter._weighted_count" 3 [] (.none) (.none) (.str (d2 32 1) 1187) (.str "limits.strategies" 1122) none (.ref 655) (.none) 0), #[]⟩
noncomputable def o657 (P : Params) : Obj := ⟨.type "tuple", none, .seq [].toArray 0, #[]⟩
noncomputable def o658 (P : Params) : Obj := ⟨.type "tuple", none, .seq [.ref 657, .int 1 1189].toArray 0, #[]⟩
noncomputable def o659 (P : Params) : Obj := ⟨.type "tuple", none, .seq [].toArray 0, #[]⟩
noncomputable def o660 (P : Params) : Obj := ⟨.none, none, .fields [].toArray, #[]⟩
noncomputable def o661 (P : Params) : Obj := ⟨.type "tuple", none, .seq [.str "self" 1193, .str "item" 1194, .str "identifiers" 1195, .str "cost" 1196].toArray 0, #[]⟩
noncomputable def o662 (P : Params) : Obj := ⟨.type "tuple", none, .seq [].toArray 0, #[]⟩
noncomputable def o663 (P : Params) : Obj := ⟨.none, none, .func (fn (f2 32 2) "hit" "SlidingWindowCounterRateLimiter.hit" 0 [] (.none) (.none) (.none) (.none) none (.none) (.none) 0), #[]⟩
noncomputable def o664 (P : Params) : Obj := ⟨.type "code", none, .fields [.str "hit" 1190, .str "SlidingWindowCounterRateLimiter.hit" 1191, .str "/claim/cut.py" 1192, .int 481 0, .int 4 0, .int 0 0, .int 0 0, .int 3 0, .ref 659, .bool true, .int 181 0, .ref 660, .none, .ref 661, .ref 662, .ref 663, .int 1197 0, .int 481 0, .str "/claim/cut.py" 1198].toArray, #[]⟩
noncomputable def o665 (P : Params) : Obj := ⟨.type "function", none, .func (fn (f2 32 2) "hit" "SlidingWindowCounterRateLimiter.hit" 3 [] (.ref 658) (.none) (.str (d2 32 2) 1199) (.str "limits.strategies" 1122) none (.ref 664) (.none) 0), #[]⟩
noncomputable def o666 (P : Params) : Obj := ⟨.type "tuple", none, .seq [].toArray 0, #[]⟩
noncomputable def o667 (P : Params) : Obj := ⟨.type "tuple", none, .seq [.ref 666, .int 1 1201].toArray 0, #[]⟩
noncomputable def o668 (P : Params) : Obj := ⟨.type "tuple", none, .seq [].toArray 0, #[]⟩
noncomputable def o669 (P : Params) : Obj := ⟨.none, none, .fields [].toArray, #[]⟩
noncomputable def o670 (P : Params) : Obj := ⟨.type "tuple", none, .seq [.str "self" 1205, .str "item" 1206, .str "identifiers" 1207, .str "cost" 1208].toArray 0, #[]⟩
noncomputable def o671 (P : Params) : Obj := ⟨.type "tuple", none, .seq [].toArray 0, #[]⟩
noncomputable def o672 (P : Params) : Obj := ⟨.none, none, .func (fn (f2 32 3) "test" "SlidingWindowCounterRateLimiter.test" 0 [] (.none) (.none) (.none) (.none) none (.none) (.none) 0), #[]⟩
noncomputable def o673 (P : Params) : Obj := ⟨.type "code", none, .fields [.str "test" 1202, .str "SlidingWindowCounterRateLimiter.test" 1203, .str "/claim/cut.py" 1204, .int 494 0, .int 4 0, .int 0 0, .int 0 0, .int 3 0, .ref 668, .bool true, .int 181 0, .ref 669, .none, .ref 670, .ref 671, .ref 672, .int 1209 0, .int 494 0, .str "/claim/cut.py" 1210].toArray, #[]⟩
noncomputable def o674 (P : Params) : Obj := ⟨.type "function", none, .func (fn (f2 32 3) "test" "SlidingWindowCounterRateLimiter.test" 3 [] (.ref 667) (.none) (.none) (.str "limits.strategies" 1122) none (.ref 673) (.none) 0), #[]⟩
noncomputable def o675 (P : Params) : Obj := ⟨.type "tuple", none, .seq [].toArray 0, #[]⟩
noncomputable def o676 (P : Params) : Obj := ⟨.type "tuple", none, .seq [.ref 675].toArray 0, #[]⟩
noncomputable def o677 (P : Params) : Obj := ⟨.type "tuple", none, .seq [].toArray 0, #[]⟩
noncomputable def o678 (P : Params) : Obj := ⟨.none, none, .fields [].toArray, #[]⟩
noncomputable def o679 (P : Params) : Obj := ⟨.type "tuple", none, .seq [.str "self" 1215, .str "item" 1216, .str "identifiers" 1217, .str "previous_count" 1218, .str "previous_expires_in" 1219, .str "current_count" 1220, .str "current_expires_in" 1221, .str "remaining" 1222, .str "now" 1223, .str "expiry" 1224, .str "reset_in" 1225].toArray 0, #[]⟩
noncomputable def o680 (P : Params) : Obj := ⟨.type "tuple", none, .seq [].toArray 0, #[]⟩
noncomputable def o681 (P : Params) : Obj := ⟨.none, none, .func (fn (f2 32 4) "get_window_stats" "SlidingWindowCounterRateLimiter.get_window_stats" 0 [] (.none) (.none) (.none) (.none) none (.none) (.none) 0), #[]⟩
noncomputable def o682 (P : Params) : Obj := ⟨.type "code", none, .fields [.str "get_window_stats" 1212, .str "SlidingWindowCounterRateLimiter.get_window_stats" 1213, .str "/claim/cut.py" 1214, .int 497 0, .int 3 0, .int 0 0, .int 0 0, .int 3 0, .ref 677, .bool true, .int 181 0, .ref 678, .none, .ref 679, .ref 680, .ref 681, .int 1226 0, .int 497 0, .str "/claim/cut.py" 1227].toArray, #[]⟩
noncomputable def o683 (P : Params) : Obj := ⟨.type "function", none, .func (fn (f2 32 4) "get_window_stats" "SlidingWindowCounterRateLimiter.get_window_stats" 3 [] (.ref 676) (.none) (.str (d2 32 4) 1228) (.str "limits.strategies" 1122) none (.ref 682) (.none) 0), #[]⟩
noncomputable def o684 (P : Params) : Obj := ⟨.type "tuple", none, .seq [].toArray 0, #[]⟩
noncomputable def o685 (P : Params) : Obj := ⟨.type "tuple", none, .seq [.ref 684].toArray 0, #[]⟩
noncomputable def o686 (P : Params) : Obj := ⟨.type "tuple", none, .seq [].toArray 0, #[]⟩
noncomputable def o687 (P : Params) : Obj := ⟨.none, none, .fields [].toArray, #[]⟩
noncomputable def o688 (P : Params) : Obj := ⟨.type "tuple", none, .seq [.str "self" 1233, .str "item" 1234, .str "identifiers" 1235].toArray 0, #[]⟩
noncomputable def o689 (P : Params) : Obj := ⟨.type "tuple", none, .seq [].toArray 0, #[]⟩
noncomputable def o690 (P : Params) : Obj := ⟨.none, none, .func (fn (f2 32 5) "clear" "SlidingWindowCounterRateLimiter.clear" 0 [] (.none) (.none) (.none) (.none) none (.none) (.none) 0), #[]⟩
noncomputable def o691 (P : Params) : Obj := ⟨.type "code", none, .fields [.str "clear" 1230, .str "SlidingWindowCounterRateLimiter.clear" 1231, .str "/claim/cut.py" 1232, .int 519 0, .int 3 0, .int 0 0, .int 0 0, .int 3 0, .ref 686, .bool true, .int 181 0, .ref 687, .none, .ref 688, .ref 689, .ref 690, .int 1236 0, .int 519 0, .str "/claim/cut.py" 1237].toArray, #[]⟩
noncomputable def o692 (P : Params) : Obj := ⟨.type "function", none, .func (fn (f2 32 5) "clear" "SlidingWindowCounterRateLimiter.clear" 3 [] (.ref 685) (.none) (.none) (.str "limits.strategies" 1122) none (.ref 691) (.none) 0), #[]⟩
noncomputable def o693 (P : Params) : Obj := ⟨.type "tuple", none, .seq [].toArray 0, #[]⟩
noncomputable def o694 (P : Params) : Obj := ⟨.type "dict", none, .dict [e P "__module__" 1169 (.str "limits.strategies" 1122), e P "__firstlineno__" 1173 (.int 470 1172), e P "__doc__" 1175 (.str (d1 32) 1174), e P "_weighted_count" 1188 (.ref 656), e P "hit" 1200 (.ref 665), e P "test" 1211 (.ref 674), e P "get_window_stats" 1229 (.ref 683), e P "clear" 1238 (.ref 692), e P "__static_attributes__" 1239 (.ref 693)].toArray 1, #[]⟩
noncomputable def o695 (P : Params) : Obj := ⟨.type "type", none, .cls ⟨"SlidingWindowCounterRateLimiter", [.ref 638], [.ref 695, .ref 638, .type "object"], 694, "SlidingWindowCounterRateLimiter", true, [], [], false, none, false⟩, #[some (.ref 643), none, some (.str "SlidingWindowCounterRateLimiter" 1162), some (.str "SlidingWindowCounterRateLimiter" 1170), some (.builtin "object.__new__"), some (.bool true)]⟩
noncomputable def o696 (P : Params) : Obj := ⟨.type "super", none, .fields [.ref 695, .ref 695, .ref 695].toArray, #[]⟩
noncomputable def o697 (P : Params) : Obj := ⟨.type "builtin_function_or_method", none, .fields [.builtin "object.__init_subclass__", .ref 695].toArray, #[]⟩
noncomputable def o698 (P : Params) : Obj := ⟨.type "tuple", none, .seq [.str "second" 1244, .str "minute" 1245, .str "hour" 1246, .str "day" 1247, .str "month" 1248, .str "year" 1249].toArray 0, #[]⟩
noncomputable def o699 (P : Params) : Obj := ⟨.type "tuple", none, .seq [.int 1 1251, .int 60 1252, .int 60 1253, .int 24 1254, .int 30 1255, .int 12 1256].toArray 0, #[]⟩
noncomputable def o700 (P : Params) : Obj := ⟨.type "tuple", none, .seq [.int 1 1258, .none, .int 2 1259, .int 3 1260].toArray 0, #[]⟩
noncomputable def o701 (P : Params) : Obj := ⟨.type "tuple", none, .seq [.int 1 1262, .int 1 1263, .int 2 1264, .int 3 1265].toArray 0, #[]⟩
noncomputable def o702 (P : Params) : Obj := ⟨.type "tuple", none, .seq [].toArray 0, #[]⟩
noncomputable def o703 (P : Params) : Obj := ⟨.type "tuple", none, .seq [.str "ann" 1267].toArray 0, #[]⟩
noncomputable def o704 (P : Params) : Obj := ⟨.type "tuple", none, .seq [.str "ann" 1268, .str "bob" 1269].toArray 0, #[]⟩
noncomputable def o705 (P : Params) : Obj := ⟨.type "tuple", none, .seq [.bytes #[97, 110, 110] 1270, .int 7 1271].toArray 0, #[]⟩
noncomputable def o706 (P : Params) : Obj := ⟨.type "tuple", none, .seq [.str "ann" 1272, .str "7" 1273].toArray 0, #[]⟩
noncomputable def o707 (P : Params) : Obj := ⟨.type "tuple", none, .seq [.ref 702, .ref 703, .ref 704, .ref 705, .ref 706].toArray 0, #[]⟩
noncomputable def o708 (P : Params) : Obj := ⟨.type "tuple", none, .seq [].toArray 0, #[]⟩
noncomputable def o709 (P : Params) : Obj := ⟨.type "tuple", none, .seq [.str "ann" 1275].toArray 0, #[]⟩
noncomputable def o710 (P : Params) : Obj := ⟨.type "tuple", none, .seq [.str "ann" 1276, .str "bob" 1277].toArray 0, #[]⟩
noncomputable def o711 (P : Params) : Obj := ⟨.type "tuple", none, .seq [.str "ann" 1278, .str "7" 1279].toArray 0, #[]⟩
noncomputable def o712 (P : Params) : Obj := ⟨.type "tuple", none, .seq [.str "ann" 1280, .str "7" 1281].toArray 0, #[]⟩
noncomputable def o713 (P : Params) : Obj := ⟨.type "tuple", none, .seq [.ref 708, .ref 709, .ref 710, .ref 711, .ref 712].toArray 0, #[]⟩
noncomputable def o714 (P : Params) : Obj := ⟨.type "tuple", none, .seq [].toArray 0, #[]⟩
noncomputable def o715 (P : Params) : Obj := ⟨.none, none, .fields [].toArray, #[]⟩
noncomputable def o716 (P : Params) : Obj := ⟨.type "tuple", none, .seq [.str "window" 1286, .str "amount" 1287, .str "many" 1288, .str "space" 1289].toArray 0, #[]⟩
noncomputable def o717 (P : Params) : Obj := ⟨.type "tuple", none, .seq [].toArray 0, #[]⟩
noncomputable def o718 (P : Params) : Obj := ⟨.none, none, .func (fn (f1 40) "_law_limit" "_law_limit" 0 [] (.none) (.none) (.none) (.none) none (.none) (.none) 0), #[]⟩
noncomputable def o719 (P : Params) : Obj := ⟨.type "code", none, .fields [.str "_law_limit" 1283, .str "_law_limit" 1284, .str "/claim/cut.py" 1285, .int 528 0, .int 4 0, .int 0 0, .int 0 0, .int 3 0, .ref 714, .bool true, .int 181 0, .ref 715, .none, .ref 716, .ref 717, .ref 718, .int 1290 0, .int 528 0, .str "/claim/cut.py" 1291].toArray, #[]⟩
noncomputable def o720 (P : Params) : Obj := ⟨.type "function", none, .func (fn (f1 40) "_law_limit" "_law_limit" 3 [] (.none) (.none) (.none) (.str "law_ji0061_01" 1242) none (.ref 719) (.none) 0), #[]⟩
noncomputable def o721 (P : Params) : Obj := ⟨.type "tuple", none, .seq [].toArray 0, #[]⟩
noncomputable def o722 (P : Params) : Obj := ⟨.none, none, .fields [].toArray, #[]⟩
noncomputable def o723 (P : Params) : Obj := ⟨.type "tuple", none, .seq [.str "rows" 1296, .str "wanted" 1297, .str "count" 1298, .str "row" 1299].toArray 0, #[]⟩
noncomputable def o724 (P : Params) : Obj := ⟨.type "tuple", none, .seq [].toArray 0, #[]⟩
noncomputable def o725 (P : Params) : Obj := ⟨.none, none, .func (fn (f1 41) "_law_often" "_law_often" 0 [] (.none) (.none) (.none) (.none) none (.none) (.none) 0), #[]⟩
noncomputable def o726 (P : Params) : Obj := ⟨.type "code", none, .fields [.str "_law_often" 1293, .str "_law_often" 1294, .str "/claim/cut.py" 1295, .int 540 0, .int 2 0, .int 0 0, .int 0 0, .int 3 0, .ref 721, .bool true, .int 181 0, .ref 722, .none, .ref 723, .ref 724, .ref 725, .int 1300 0, .int 540 0, .str "/claim/cut.py" 1301].toArray, #[]⟩
noncomputable def o727 (P : Params) : Obj := ⟨.type "function", none, .func (fn (f1 41) "_law_often" "_law_often" 3 [] (.none) (.none) (.none) (.str "law_ji0061_01" 1242) none (.ref 726) (.none) 0), #[]⟩
noncomputable def t10 (P : Params) : BT := (n (boot_o_0 P) (n (boot_o_1 P) (n (o3v10 P) (n (boot_o_7 P) (n (o15 P) (n (o31 P) (n (o63 P) (n (o127 P) (n (o255 P) (l (o511 P)) z) (n (o383 P) (l (o639 P)) z)) (n (o191 P) (n (o319 P) (l (o575 P)) z) (n (o447 P) (l (o703 P)) z))) (n (o95 P) (n (o159 P) (n (o287 P) (l (o543 P)) z) (n (o415 P) (l (o671 P)) z)) (n (o223 P) (n (o351 P) (l (o607 P)) z) (l (o479 P))))) (n (o47 P) (n (o79 P) (n (o143 P) (n (o271 P) (l (o527 P)) z) (n (o399 P) (l (o655 P)) z)) (n (o207 P) (n (o335 P) (l (o591 P)) z) (n (o463 P) (l (o719 P)) z))) (n (o111 P) (n (o175 P) (n (o303 P) (l (o559 P)) z) (n (o431 P) (l (o687 P)) z)) (n (o239 P) (n (o367 P) (l (o623 P)) z) (l (o495 P)))))) (n (o23 P) (n (o39 P) (n (o71 P) (n (o135 P) (n (o263 P) (l (o519 P)) z) (n (o391 P) (l (o647 P)) z)) (n (o199 P) (n (o327 P) (l (o583 P)) z) (n (o455 P) (l (o711 P)) z))) (n (o103 P) (n (o167 P) (n (o295 P) (l (o551 P)) z) (n (o423 P) (l (o679 P)) z)) (n (o231 P) (n (o359 P) (l (o615 P)) z) (l (o487 P))))) (n (o55 P) (n (o87 P) (n (o151 P) (n (o279 P) (l (o535 P)) z) (n (o407 P) (l (o663 P)) z)) (n (o215 P) (n (o343 P) (l (o599 P)) z) (n (o471 P) (l (o727 P)) z))) (n (o119 P) (n (o183 P) (n (o311 P) (l (o567 P)) z) (n (o439 P) (l (o695 P)) z)) (n (o247 P) (n (o375 P) (l (o631 P)) z) (l (o503 P))))))) (n (o11 P) (n (o19 P) (n (o35 P) (n (o67 P) (n (o131 P) (n (o259 P) (l (o515 P)) z) (n (o387 P) (l (o643 P)) z)) (n (o195 P) (n (o323 P) (l (o579 P)) z) (n (o451 P) (l (o707 P)) z))) (n (o99 P) (n (o163 P) (n (o291 P) (l (o547 P)) z) (n (o419 P) (l (o675 P)) z)) (n (o227 P) (n (o355 P) (l (o611 P)) z) (l (o483 P))))) (n (o51 P) (n (o83 P) (n (o147 P) (n (o275 P) (l (o531 P)) z) (n (o403 P) (l (o659 P)) z)) (n (o211 P) (n (o339 P) (l (o595 P)) z) (n (o467 P) (l (o723 P)) z))) (n (o115 P) (n (o179 P) (n (o307 P) (l (o563 P)) z) (n (o435 P) (l (o691 P)) z)) (n (o243 P) (n (o371 P) (l (o627 P)) z) (l (o499 P)))))) (n (o27 P) (n (o43 P) (n (o75 P) (n (o139 P) (n (o267 P) (l (o523 P)) z) (n (o395 P) (l (o651 P)) z)) (n (o203 P) (n (o331v1 P) (l (o587 P)) z) (n (o459 P) (l (o715 P)) z))) (n (o107 P) (n (o171 P) (n (o299 P) (l (o555 P)) z) (n (o427 P) (l (o683 P)) z)) (n (o235 P) (n (o363 P) (l (o619 P)) z) (l (o491 P))))) (n (o59 P) (n (o91 P) (n (o155 P) (n (o283 P) (l (o539 P)) z) (n (o411 P) (l (o667 P)) z)) (n (o219 P) (n (o347 P) (l (o603 P)) z) (l (o475 P)))) (n (o123 P) (n (o187 P) (n (o315 P) (l (o571 P)) z) (n (o443 P) (l (o699 P)) z)) (n (o251 P) (n (o379 P) (l (o635 P)) z) (l (o507 P)))))))) (n (boot_o_5 P) (n (boot_o_9 P) (n (o17 P) (n (o33 P) (n (o65 P) (n (o129 P) (n (o257 P) (l (o513 P)) z) (n (o385 P) (l (o641 P)) z)) (n (o193 P) (n (o321 P) (l (o577 P)) z) (n (o449 P) (l (o705 P)) z))) (n (o97 P) (n (o161 P) (n (o289 P) (l (o545 P)) z) (n (o417 P) (l (o673 P)) z)) (n (o225 P) (n (o353 P) (l (o609 P)) z) (l (o481 P))))) (n (o49 P) (n (o81 P) (n (o145 P) (n (o273 P) (l (o529 P)) z) (n (o401 P) (l (o657 P)) z)) (n (o209 P) (n (o337 P) (l (o593 P)) z) (n (o465 P) (l (o721 P)) z))) (n (o113 P) (n (o177 P) (n (o305 P) (l (o561 P)) z) (n (o433 P) (l (o689 P)) z)) (n (o241 P) (n (o369 P) (l (o625 P)) z) (l (o497 P)))))) (n (o25 P) (n (o41 P) (n (o73 P) (n (o137 P) (n (o265 P) (l (o521 P)) z) (n (o393 P) (l (o649 P)) z)) (n (o201 P) (n (o329 P) (l (o585 P)) z) (n (o457 P) (l (o713 P)) z))) (n (o105 P) (n (o169 P) (n (o297 P) (l (o553 P)) z) (n (o425 P) (l (o681 P)) z)) (n (o233 P) (n (o361 P) (l (o617 P)) z) (l (o489 P))))) (n (o57 P) (n (o89 P) (n (o153 P) (n (o281 P) (l (o537 P)) z) (n (o409 P) (l (o665 P)) z)) (n (o217 P) (n (o345 P) (l (o601 P)) z) (l (o473 P)))) (n (o121 P) (n (o185 P) (n (o313 P) (l (o569 P)) z) (n (o441 P) (l (o697 P)) z)) (n (o249 P) (n (o377 P) (l (o633 P)) z) (l (o505 P))))))) (n (o13 P) (n (o21 P) (n (o37 P) (n (o69 P) (n (o133 P) (n (o261 P) (l (o517 P)) z) (n (o389 P) (l (o645 P)) z)) (n (o197 P) (n (o325 P) (l (o581 P)) z) (n (o453 P) (l (o709 P)) z))) (n (o101 P) (n (o165 P) (n (o293 P) (l (o549 P)) z) (n (o421 P) (l (o677 P)) z)) (n (o229 P) (n (o357 P) (l (o613 P)) z) (l (o485 P))))) (n (o53 P) (n (o85 P) (n (o149 P) (n (o277 P) (l (o533 P)) z) (n (o405 P) (l (o661 P)) z)) (n (o213 P) (n (o341 P) (l (o597 P)) z) (n (o469 P) (l (o725 P)) z))) (n (o117 P) (n (o181 P) (n (o309 P) (l (o565 P)) z) (n (o437 P) (l (o693 P)) z)) (n (o245 P) (n (o373 P) (l (o629 P)) z) (l (o501 P)))))) (n (o29 P) (n (o45 P) (n (o77 P) (n (o141 P) (n (o269 P) (l (o525 P)) z) (n (o397 P) (l (o653 P)) z)) (n (o205v3 P) (n (o333 P) (l (o589 P)) z) (n (o461 P) (l (o717 P)) z))) (n (o109 P) (n (o173 P) (n (o301 P) (l (o557 P)) z) (n (o429 P) (l (o685 P)) z)) (n (o237 P) (n (o365 P) (l (o621 P)) z) (l (o493 P))))) (n (o61 P) (n (o93 P) (n (o157 P) (n (o285 P) (l (o541 P)) z) (n (o413 P) (l (o669 P)) z)) (n (o221 P) (n (o349 P) (l (o605 P)) z) (l (o477 P)))) (n (o125 P) (n (o189 P) (n (o317 P) (l (o573 P)) z) (n (o445 P) (l (o701 P)) z)) (n (o253 P) (n (o381 P) (l (o637 P)) z) (l (o509 P))))))))) (n (boot_o_2 P) (n (boot_o_4 P) (n (boot_o_8 P) (n (o16 P) (n (o32 P) (n (o64 P) (n (o128 P) (n (o256 P) (l (o512 P)) z) (n (o384 P) (l (o640 P)) z)) (n (o192 P) (n (o320 P) (l (o576 P)) z) (n (o448 P) (l (o704 P)) z))) (n (o96 P) (n (o160 P) (n (o288 P) (l (o544 P)) z) (n (o416 P) (l (o672 P)) z)) (n (o224 P) (n (o352 P) (l (o608 P)) z) (l (o480 P))))) (n (o48 P) (n (o80 P) (n (o144 P) (n (o272 P) (l (o528 P)) z) (n (o400 P) (l (o656 P)) z)) (n (o208 P) (n (o336 P) (l (o592 P)) z) (n (o464 P) (l (o720 P)) z))) (n (o112 P) (n (o176 P) (n (o304 P) (l (o560 P)) z) (n (o432 P) (l (o688 P)) z)) (n (o240 P) (n (o368 P) (l (o624 P)) z) (l (o496 P)))))) (n (o24 P) (n (o40 P) (n (o72 P) (n (o136 P) (n (o264 P) (l (o520 P)) z) (n (o392 P) (l (o648 P)) z)) (n (o200 P) (n (o328 P) (l (o584 P)) z) (n (o456 P) (l (o712 P)) z))) (n (o104 P) (n (o168 P) (n (o296 P) (l (o552 P)) z) (n (o424 P) (l (o680 P)) z)) (n (o232 P) (n (o360 P) (l (o616 P)) z) (l (o488 P))))) (n (o56 P) (n (o88 P) (n (o152 P) (n (o280 P) (l (o536 P)) z) (n (o408 P) (l (o664 P)) z)) (n (o216 P) (n (o344 P) (l (o600 P)) z) (l (o472 P)))) (n (o120 P) (n (o184 P) (n (o312 P) (l (o568 P)) z) (n (o440 P) (l (o696 P)) z)) (n (o248 P) (n (o376 P) (l (o632 P)) z) (l (o504 P))))))) (n (o12v10 P) (n (o20 P) (n (o36 P) (n (o68 P) (n (o132 P) (n (o260 P) (l (o516 P)) z) (n (o388 P) (l (o644 P)) z)) (n (o196 P) (n (o324 P) (l (o580 P)) z) (n (o452 P) (l (o708 P)) z))) (n (o100 P) (n (o164 P) (n (o292 P) (l (o548 P)) z) (n (o420 P) (l (o676 P)) z)) (n (o228 P) (n (o356 P) (l (o612 P)) z) (l (o484 P))))) (n (o52 P) (n (o84 P) (n (o148 P) (n (o276 P) (l (o532 P)) z) (n (o404 P) (l (o660 P)) z)) (n (o212 P) (n (o340 P) (l (o596 P)) z) (n (o468 P) (l (o724 P)) z))) (n (o116 P) (n (o180 P) (n (o308 P) (l (o564 P)) z) (n (o436 P) (l (o692 P)) z)) (n (o244 P) (n (o372 P) (l (o628 P)) z) (l (o500 P)))))) (n (o28 P) (n (o44 P) (n (o76 P) (n (o140 P) (n (o268 P) (l (o524 P)) z) (n (o396 P) (l (o652 P)) z)) (n (o204 P) (n (o332 P) (l (o588 P)) z) (n (o460 P) (l (o716 P)) z))) (n (o108 P) (n (o172 P) (n (o300 P) (l (o556 P)) z) (n (o428 P) (l (o684 P)) z)) (n (o236 P) (n (o364 P) (l (o620 P)) z) (l (o492 P))))) (n (o60 P) (n (o92 P) (n (o156 P) (n (o284 P) (l (o540 P)) z) (n (o412 P) (l (o668 P)) z)) (n (o220 P) (n (o348 P) (l (o604 P)) z) (l (o476 P)))) (n (o124 P) (n (o188 P) (n (o316 P) (l (o572 P)) z) (n (o444 P) (l (o700 P)) z)) (n (o252 P) (n (o380 P) (l (o636 P)) z) (l (o508 P)))))))) (n (boot_o_6 P) (n (boot_o_10 P) (n (o18 P) (n (o34 P) (n (o66 P) (n (o130 P) (n (o258 P) (l (o514 P)) z) (n (o386 P) (l (o642 P)) z)) (n (o194 P) (n (o322 P) (l (o578 P)) z) (n (o450 P) (l (o706 P)) z))) (n (o98 P) (n (o162 P) (n (o290 P) (l (o546 P)) z) (n (o418 P) (l (o674 P)) z)) (n (o226 P) (n (o354 P) (l (o610 P)) z) (l (o482 P))))) (n (o50 P) (n (o82 P) (n (o146 P) (n (o274 P) (l (o530 P)) z) (n (o402 P) (l (o658 P)) z)) (n (o210 P) (n (o338 P) (l (o594 P)) z) (n (o466 P) (l (o722 P)) z))) (n (o114 P) (n (o178 P) (n (o306 P) (l (o562 P)) z) (n (o434 P) (l (o690 P)) z)) (n (o242 P) (n (o370 P) (l (o626 P)) z) (l (o498 P)))))) (n (o26 P) (n (o42 P) (n (o74 P) (n (o138 P) (n (o266 P) (l (o522 P)) z) (n (o394 P) (l (o650 P)) z)) (n (o202 P) (n (o330 P) (l (o586 P)) z) (n (o458 P) (l (o714 P)) z))) (n (o106 P) (n (o170 P) (n (o298 P) (l (o554 P)) z) (n (o426 P) (l (o682 P)) z)) (n (o234 P) (n (o362 P) (l (o618 P)) z) (l (o490 P))))) (n (o58 P) (n (o90 P) (n (o154 P) (n (o282 P) (l (o538 P)) z) (n (o410 P) (l (o666 P)) z)) (n (o218 P) (n (o346 P) (l (o602 P)) z) (l (o474 P)))) (n (o122 P) (n (o186 P) (n (o314 P) (l (o570 P)) z) (n (o442 P) (l (o698 P)) z)) (n (o250 P) (n (o378 P) (l (o634 P)) z) (l (o506 P))))))) (n (o14 P) (n (o22 P) (n (o38 P) (n (o70 P) (n (o134 P) (n (o262 P) (l (o518 P)) z) (n (o390 P) (l (o646 P)) z)) (n (o198 P) (n (o326 P) (l (o582 P)) z) (n (o454 P) (l (o710 P)) z))) (n (o102 P) (n (o166 P) (n (o294 P) (l (o550 P)) z) (n (o422 P) (l (o678 P)) z)) (n (o230 P) (n (o358 P) (l (o614 P)) z) (l (o486 P))))) (n (o54 P) (n (o86 P) (n (o150 P) (n (o278 P) (l (o534 P)) z) (n (o406 P) (l (o662 P)) z)) (n (o214 P) (n (o342 P) (l (o598 P)) z) (n (o470 P) (l (o726 P)) z))) (n (o118 P) (n (o182 P) (n (o310 P) (l (o566 P)) z) (n (o438 P) (l (o694 P)) z)) (n (o246 P) (n (o374 P) (l (o630 P)) z) (l (o502 P)))))) (n (o30 P) (n (o46 P) (n (o78 P) (n (o142 P) (n (o270 P) (l (o526 P)) z) (n (o398 P) (l (o654 P)) z)) (n (o206 P) (n (o334 P) (l (o590 P)) z) (n (o462 P) (l (o718 P)) z))) (n (o110 P) (n (o174 P) (n (o302 P) (l (o558 P)) z) (n (o430 P) (l (o686 P)) z)) (n (o238 P) (n (o366 P) (l (o622 P)) z) (l (o494 P))))) (n (o62 P) (n (o94 P) (n (o158 P) (n (o286 P) (l (o542 P)) z) (n (o414 P) (l (o670 P)) z)) (n (o222 P) (n (o350 P) (l (o606 P)) z) (l (o478 P)))) (n (o126 P) (n (o190 P) (n (o318 P) (l (o574 P)) z) (n (o446 P) (l (o702 P)) z)) (n (o254 P) (n (o382 P) (l (o638 P)) z) (l (o510 P))))))))))
abbrev S10 (w : World) (os : OsState) : SharedT := ⟨t10 w.params, 728, {}, #[], {}, 1303, os⟩
noncomputable def o3v11 (P : Params) : Obj := ⟨.type "dict", none, .dict [e P "__name__" 165 (.str "law_ji0061_01" 1242), e P "__doc__" 166 (.none), e P "__package__" 167 (.none), e P "__loader__" 168 (.builtin "__main__.__loader__#opaque"), e P "__spec__" 169 (.none), e P "__annotations__" 170 (.ref 6), e P "__builtins__" 171 (.ref 4), e P "__file__" 173 (.str "/claim/cut.py" 172), e P "__cached__" 174 (.none), e P "_wall" 193 (.ref 21), e P "_tuplegetter" 252 (.ref 495), e P "tuplegetter_limits" 253 (.ref 60), e P "safe_string" 261 (.ref 71), e P "Granularity" 376 (.ref 139), e P "RateLimitItem" 474 (.ref 205), e P "RateLimitItemPerYear" 502 (.ref 224), e P "RateLimitItemPerMonth" 530 (.ref 241), e P "RateLimitItemPerDay" 558 (.ref 258), e P "RateLimitItemPerHour" 586 (.ref 275), e P "RateLimitItemPerMinute" 614 (.ref 292), e P "RateLimitItemPerSecond" 642 (.ref 309), e P "TimestampedSlidingWindow" 690 (.ref 331), e P "MemoryStorage" 875 (.ref 454), e P "tuplegetter_util" 935 (.ref 495), e P "BLANKS" 937 (.str " \t\n\x0b\x0c\x0d\x1c\x1d\x1e\x1f" 936), e P "DIGITS" 939 (.str "0123456789" 938), e P "LETTERS" 941 (.str "abcdefghijklmnopqrstuvwxyz" 940), e P "skip" 951 (.ref 506), e P "read_limit" 963 (.ref 513), e P "read_limits" 974 (.ref 520), e P "WindowStats" 1089 (.ref 588), e P "parse_many" 1103 (.ref 598), e P "parse" 1111 (.ref 605), e P "granularity_from_string" 1121 (.ref 612), e P "RateLimiter" 1161 (.ref 638), e P "SlidingWindowCounterRateLimiter" 1241 (.ref 695), e P "_law_NAMES" 1250 (.ref 698), e P "_law_CHAIN" 1257 (.ref 699), e P "_law_GIVEN" 1261 (.ref 700), e P "_law_MEANT" 1266 (.ref 701), e P "_law_WHO" 1274 (.ref 707), e P "_law_PARTS" 1282 (.ref 713), e P "_law_limit" 1292 (.ref 720), e P "_law_often" 1302 (.ref 727), e P "_law_alone" 1326 (.ref 734), e P "law" 1354 (.ref 741)].toArray 46, #[]⟩
noncomputable def o12v11 (P : Params) : Obj := ⟨.none, none, .fields [.int 1 0, .int 0 0, .ref 20, .int 5 0, .int 0 0, .ref 27, .int 24 0, .int 0 0, .ref 70, .int 31 0, .int 0 0, .ref 78, .int 73 0, .int 0 0, .ref 148, .int 128 0, .int 0 0, .ref 215, .int 134 0, .int 0 0, .ref 232, .int 140 0, .int 0 0, .ref 249, .int 146 0, .int 0 0, .ref 266, .int 152 0, .int 0 0, .ref 283, .int 158 0, .int 0 0, .ref 300, .int 165 0, .int 0 0, .ref 317, .int 192 0, .int 0 0, .ref 341, .int 311 0, .int 0 0, .ref 462, .int 333 0, .int 0 0, .ref 505, .int 338 0, .int 0 0, .ref 512, .int 360 0, .int 0 0, .ref 519, .int 375 0, .int 0 0, .ref 527, .int 417 0, .int 0 0, .ref 597, .int 433 0, .int 0 0, .ref 604, .int 443 0, .int 0 0, .ref 611, .int 463 0, .int 0 0, .ref 618, .int 470 0, .int 0 0, .ref 648, .int 528 0, .int 0 0, .ref 719, .int 540 0, .int 0 0, .ref 726, .int 546 0, .int 0 0, .ref 733, .int 575 0, .int 0 0, .ref 740].toArray, #[]⟩
noncomputable def o728 (P : Params) : Obj := ⟨.type "tuple", none, .seq [].toArray 0, #[]⟩
noncomputable def o729 (P : Params) : Obj := ⟨.none, none, .fields [].toArray, #[]⟩
noncomputable def o730 (P : Params) : Obj := ⟨.type "tuple", none, .seq [.str "item" 1306, .str "sort" 1307, .str "names" 1308, .str "whole" 1309, .str "clock" 1310, .str "amount" 1311, .str "many" 1312, .str "window" 1313, .str "length" 1314, .str "step" 1315, .str "key" 1316, .str "back" 1317, .str "place" 1318, .str "name" 1319, .str "at" 1320, .str "before" 1321, .str "this" 1322, .str "count" 1323].toArray 0, #[]⟩
noncomputable def o731 (P : Params) : Obj := ⟨.type "tuple", none, .seq [].toArray 0, #[]⟩
noncomputable def o732 (P : Params) : Obj := ⟨.none, none, .func (fn (f1 42) "_law_alone" "_law_alone" 0 [] (.none) (.none) (.none) (.none) none (.none) (.none) 0), #[]⟩
noncomputable def o733 (P : Params) : Obj := ⟨.type "code", none, .fields [.str "_law_alone" 1303, .str "_law_alone" 1304, .str "/claim/cut.py" 1305, .int 546 0, .int 5 0, .int 0 0, .int 0 0, .int 3 0, .ref 728, .bool true, .int 181 0, .ref 729, .none, .ref 730, .ref 731, .ref 732, .int 1324 0, .int 546 0, .str "/claim/cut.py" 1325].toArray, #[]⟩
noncomputable def o734 (P : Params) : Obj := ⟨.type "function", none, .func (fn (f1 42) "_law_alone" "_law_alone" 3 [] (.none) (.none) (.none) (.str "law_ji0061_01" 1242) none (.ref 733) (.none) 0), #[]⟩
noncomputable def o735 (P : Params) : Obj := ⟨.type "tuple", none, .seq [].toArray 0, #[]⟩
noncomputable def o736 (P : Params) : Obj := ⟨.none, none, .fields [].toArray, #[]⟩
noncomputable def o737 (P : Params) : Obj := ⟨.type "tuple", none, .seq [.str "script" 1330, .str "rest" 1331, .str "clock" 1332, .str "rows" 1333, .str "number" 1334, .str "choice" 1335, .str "sort" 1336, .str "space" 1337, .str "who" 1338, .str "item" 1339, .str "whole" 1340, .str "one" 1341, .str "names" 1342, .str "two" 1343, .str "other" 1344, .str "people" 1345, .str "entire" 1346, .str "limiter" 1347, .str "gone" 1348, .str "place" 1349, .str "allowed" 1350].toArray 0, #[]⟩
noncomputable def o738 (P : Params) : Obj := ⟨.type "tuple", none, .seq [.str "moment" 1351].toArray 0, #[]⟩
noncomputable def o739 (P : Params) : Obj := ⟨.none, none, .func (fn (f1 43) "law" "law" 0 [] (.none) (.none) (.none) (.none) none (.none) (.none) 0), #[]⟩
noncomputable def o740 (P : Params) : Obj := ⟨.type "code", none, .fields [.str "law" 1327, .str "law" 1328, .str "/claim/cut.py" 1329, .int 575 0, .int 1 0, .int 0 0, .int 0 0, .int 3 0, .ref 735, .bool true, .int 181 0, .ref 736, .none, .ref 737, .ref 738, .ref 739, .int 1352 0, .int 575 0, .str "/claim/cut.py" 1353].toArray, #[]⟩
noncomputable def o741 (P : Params) : Obj := ⟨.type "function", none, .func (fn (f1 43) "law" "law" 3 [] (.none) (.none) (.none) (.str "law_ji0061_01" 1242) none (.ref 740) (.none) 0), #[]⟩
noncomputable def t11 (P : Params) : BT := (n (boot_o_0 P) (n (boot_o_1 P) (n (o3v11 P) (n (boot_o_7 P) (n (o15 P) (n (o31 P) (n (o63 P) (n (o127 P) (n (o255 P) (l (o511 P)) z) (n (o383 P) (l (o639 P)) z)) (n (o191 P) (n (o319 P) (l (o575 P)) z) (n (o447 P) (l (o703 P)) z))) (n (o95 P) (n (o159 P) (n (o287 P) (l (o543 P)) z) (n (o415 P) (l (o671 P)) z)) (n (o223 P) (n (o351 P) (l (o607 P)) z) (n (o479 P) (l (o735 P)) z)))) (n (o47 P) (n (o79 P) (n (o143 P) (n (o271 P) (l (o527 P)) z) (n (o399 P) (l (o655 P)) z)) (n (o207 P) (n (o335 P) (l (o591 P)) z) (n (o463 P) (l (o719 P)) z))) (n (o111 P) (n (o175 P) (n (o303 P) (l (o559 P)) z) (n (o431 P) (l (o687 P)) z)) (n (o239 P) (n (o367 P) (l (o623 P)) z) (l (o495 P)))))) (n (o23 P) (n (o39 P) (n (o71 P) (n (o135 P) (n (o263 P) (l (o519 P)) z) (n (o391 P) (l (o647 P)) z)) (n (o199 P) (n (o327 P) (l (o583 P)) z) (n (o455 P) (l (o711 P)) z))) (n (o103 P) (n (o167 P) (n (o295 P) (l (o551 P)) z) (n (o423 P) (l (o679 P)) z)) (n (o231 P) (n (o359 P) (l (o615 P)) z) (l (o487 P))))) (n (o55 P) (n (o87 P) (n (o151 P) (n (o279 P) (l (o535 P)) z) (n (o407 P) (l (o663 P)) z)) (n (o215 P) (n (o343 P) (l (o599 P)) z) (n (o471 P) (l (o727 P)) z))) (n (o119 P) (n (o183 P) (n (o311 P) (l (o567 P)) z) (n (o439 P) (l (o695 P)) z)) (n (o247 P) (n (o375 P) (l (o631 P)) z) (l (o503 P))))))) (n (o11 P) (n (o19 P) (n (o35 P) (n (o67 P) (n (o131 P) (n (o259 P) (l (o515 P)) z) (n (o387 P) (l (o643 P)) z)) (n (o195 P) (n (o323 P) (l (o579 P)) z) (n (o451 P) (l (o707 P)) z))) (n (o99 P) (n (o163 P) (n (o291 P) (l (o547 P)) z) (n (o419 P) (l (o675 P)) z)) (n (o227 P) (n (o355 P) (l (o611 P)) z) (n (o483 P) (l (o739 P)) z)))) (n (o51 P) (n (o83 P) (n (o147 P) (n (o275 P) (l (o531 P)) z) (n (o403 P) (l (o659 P)) z)) (n (o211 P) (n (o339 P) (l (o595 P)) z) (n (o467 P) (l (o723 P)) z))) (n (o115 P) (n (o179 P) (n (o307 P) (l (o563 P)) z) (n (o435 P) (l (o691 P)) z)) (n (o243 P) (n (o371 P) (l (o627 P)) z) (l (o499 P)))))) (n (o27 P) (n (o43 P) (n (o75 P) (n (o139 P) (n (o267 P) (l (o523 P)) z) (n (o395 P) (l (o651 P)) z)) (n (o203 P) (n (o331v1 P) (l (o587 P)) z) (n (o459 P) (l (o715 P)) z))) (n (o107 P) (n (o171 P) (n (o299 P) (l (o555 P)) z) (n (o427 P) (l (o683 P)) z)) (n (o235 P) (n (o363 P) (l (o619 P)) z) (l (o491 P))))) (n (o59 P) (n (o91 P) (n (o155 P) (n (o283 P) (l (o539 P)) z) (n (o411 P) (l (o667 P)) z)) (n (o219 P) (n (o347 P) (l (o603 P)) z) (n (o475 P) (l (o731 P)) z))) (n (o123 P) (n (o187 P) (n (o315 P) (l (o571 P)) z) (n (o443 P) (l (o699 P)) z)) (n (o251 P) (n (o379 P) (l (o635 P)) z) (l (o507 P)))))))) (n (boot_o_5 P) (n (boot_o_9 P) (n (o17 P) (n (o33 P) (n (o65 P) (n (o129 P) (n (o257 P) (l (o513 P)) z) (n (o385 P) (l (o641 P)) z)) (n (o193 P) (n (o321 P) (l (o577 P)) z) (n (o449 P) (l (o705 P)) z))) (n (o97 P) (n (o161 P) (n (o289 P) (l (o545 P)) z) (n (o417 P) (l (o673 P)) z)) (n (o225 P) (n (o353 P) (l (o609 P)) z) (n (o481 P) (l (o737 P)) z)))) (n (o49 P) (n (o81 P) (n (o145 P) (n (o273 P) (l (o529 P)) z) (n (o401 P) (l (o657 P)) z)) (n (o209 P) (n (o337 P) (l (o593 P)) z) (n (o465 P) (l (o721 P)) z))) (n (o113 P) (n (o177 P) (n (o305 P) (l (o561 P)) z) (n (o433 P) (l (o689 P)) z)) (n (o241 P) (n (o369 P) (l (o625 P)) z) (l (o497 P)))))) (n (o25 P) (n (o41 P) (n (o73 P) (n (o137 P) (n (o265 P) (l (o521 P)) z) (n (o393 P) (l (o649 P)) z)) (n (o201 P) (n (o329 P) (l (o585 P)) z) (n (o457 P) (l (o713 P)) z))) (n (o105 P) (n (o169 P) (n (o297 P) (l (o553 P)) z) (n (o425 P) (l (o681 P)) z)) (n (o233 P) (n (o361 P) (l (o617 P)) z) (l (o489 P))))) (n (o57 P) (n (o89 P) (n (o153 P) (n (o281 P) (l (o537 P)) z) (n (o409 P) (l (o665 P)) z)) (n (o217 P) (n (o345 P) (l (o601 P)) z) (n (o473 P) (l (o729 P)) z))) (n (o121 P) (n (o185 P) (n (o313 P) (l (o569 P)) z) (n (o441 P) (l (o697 P)) z)) (n (o249 P) (n (o377 P) (l (o633 P)) z) (l (o505 P))))))) (n (o13 P) (n (o21 P) (n (o37 P) (n (o69 P) (n (o133 P) (n (o261 P) (l (o517 P)) z) (n (o389 P) (l (o645 P)) z)) (n (o197 P) (n (o325 P) (l (o581 P)) z) (n (o453 P) (l (o709 P)) z))) (n (o101 P) (n (o165 P) (n (o293 P) (l (o549 P)) z) (n (o421 P) (l (o677 P)) z)) (n (o229 P) (n (o357 P) (l (o613 P)) z) (n (o485 P) (l (o741 P)) z)))) (n (o53 P) (n (o85 P) (n (o149 P) (n (o277 P) (l (o533 P)) z) (n (o405 P) (l (o661 P)) z)) (n (o213 P) (n (o341 P) (l (o597 P)) z) (n (o469 P) (l (o725 P)) z))) (n (o117 P) (n (o181 P) (n (o309 P) (l (o565 P)) z) (n (o437 P) (l (o693 P)) z)) (n (o245 P) (n (o373 P) (l (o629 P)) z) (l (o501 P)))))) (n (o29 P) (n (o45 P) (n (o77 P) (n (o141 P) (n (o269 P) (l (o525 P)) z) (n (o397 P) (l (o653 P)) z)) (n (o205v3 P) (n (o333 P) (l (o589 P)) z) (n (o461 P) (l (o717 P)) z))) (n (o109 P) (n (o173 P) (n (o301 P) (l (o557 P)) z) (n (o429 P) (l (o685 P)) z)) (n (o237 P) (n (o365 P) (l (o621 P)) z) (l (o493 P))))) (n (o61 P) (n (o93 P) (n (o157 P) (n (o285 P) (l (o541 P)) z) (n (o413 P) (l (o669 P)) z)) (n (o221 P) (n (o349 P) (l (o605 P)) z) (n (o477 P) (l (o733 P)) z))) (n (o125 P) (n (o189 P) (n (o317 P) (l (o573 P)) z) (n (o445 P) (l (o701 P)) z)) (n (o253 P) (n (o381 P) (l (o637 P)) z) (l (o509 P))))))))) (n (boot_o_2 P) (n (boot_o_4 P) (n (boot_o_8 P) (n (o16 P) (n (o32 P) (n (o64 P) (n (o128 P) (n (o256 P) (l (o512 P)) z) (n (o384 P) (l (o640 P)) z)) (n (o192 P) (n (o320 P) (l (o576 P)) z) (n (o448 P) (l (o704 P)) z))) (n (o96 P) (n (o160 P) (n (o288 P) (l (o544 P)) z) (n (o416 P) (l (o672 P)) z)) (n (o224 P) (n (o352 P) (l (o608 P)) z) (n (o480 P) (l (o736 P)) z)))) (n (o48 P) (n (o80 P) (n (o144 P) (n (o272 P) (l (o528 P)) z) (n (o400 P) (l (o656 P)) z)) (n (o208 P) (n (o336 P) (l (o592 P)) z) (n (o464 P) (l (o720 P)) z))) (n (o112 P) (n (o176 P) (n (o304 P) (l (o560 P)) z) (n (o432 P) (l (o688 P)) z)) (n (o240 P) (n (o368 P) (l (o624 P)) z) (l (o496 P)))))) (n (o24 P) (n (o40 P) (n (o72 P) (n (o136 P) (n (o264 P) (l (o520 P)) z) (n (o392 P) (l (o648 P)) z)) (n (o200 P) (n (o328 P) (l (o584 P)) z) (n (o456 P) (l (o712 P)) z))) (n (o104 P) (n (o168 P) (n (o296 P) (l (o552 P)) z) (n (o424 P) (l (o680 P)) z)) (n (o232 P) (n (o360 P) (l (o616 P)) z) (l (o488 P))))) (n (o56 P) (n (o88 P) (n (o152 P) (n (o280 P) (l (o536 P)) z) (n (o408 P) (l (o664 P)) z)) (n (o216 P) (n (o344 P) (l (o600 P)) z) (n (o472 P) (l (o728 P)) z))) (n (o120 P) (n (o184 P) (n (o312 P) (l (o568 P)) z) (n (o440 P) (l (o696 P)) z)) (n (o248 P) (n (o376 P) (l (o632 P)) z) (l (o504 P))))))) (n (o12v11 P) (n (o20 P) (n (o36 P) (n (o68 P) (n (o132 P) (n (o260 P) (l (o516 P)) z) (n (o388 P) (l (o644 P)) z)) (n (o196 P) (n (o324 P) (l (o580 P)) z) (n (o452 P) (l (o708 P)) z))) (n (o100 P) (n (o164 P) (n (o292 P) (l (o548 P)) z) (n (o420 P) (l (o676 P)) z)) (n (o228 P) (n (o356 P) (l (o612 P)) z) (n (o484 P) (l (o740 P)) z)))) (n (o52 P) (n (o84 P) (n (o148 P) (n (o276 P) (l (o532 P)) z) (n (o404 P) (l (o660 P)) z)) (n (o212 P) (n (o340 P) (l (o596 P)) z) (n (o468 P) (l (o724 P)) z))) (n (o116 P) (n (o180 P) (n (o308 P) (l (o564 P)) z) (n (o436 P) (l (o692 P)) z)) (n (o244 P) (n (o372 P) (l (o628 P)) z) (l (o500 P)))))) (n (o28 P) (n (o44 P) (n (o76 P) (n (o140 P) (n (o268 P) (l (o524 P)) z) (n (o396 P) (l (o652 P)) z)) (n (o204 P) (n (o332 P) (l (o588 P)) z) (n (o460 P) (l (o716 P)) z))) (n (o108 P) (n (o172 P) (n (o300 P) (l (o556 P)) z) (n (o428 P) (l (o684 P)) z)) (n (o236 P) (n (o364 P) (l (o620 P)) z) (l (o492 P))))) (n (o60 P) (n (o92 P) (n (o156 P) (n (o284 P) (l (o540 P)) z) (n (o412 P) (l (o668 P)) z)) (n (o220 P) (n (o348 P) (l (o604 P)) z) (n (o476 P) (l (o732 P)) z))) (n (o124 P) (n (o188 P) (n (o316 P) (l (o572 P)) z) (n (o444 P) (l (o700 P)) z)) (n (o252 P) (n (o380 P) (l (o636 P)) z) (l (o508 P)))))))) (n (boot_o_6 P) (n (boot_o_10 P) (n (o18 P) (n (o34 P) (n (o66 P) (n (o130 P) (n (o258 P) (l (o514 P)) z) (n (o386 P) (l (o642 P)) z)) (n (o194 P) (n (o322 P) (l (o578 P)) z) (n (o450 P) (l (o706 P)) z))) (n (o98 P) (n (o162 P) (n (o290 P) (l (o546 P)) z) (n (o418 P) (l (o674 P)) z)) (n (o226 P) (n (o354 P) (l (o610 P)) z) (n (o482 P) (l (o738 P)) z)))) (n (o50 P) (n (o82 P) (n (o146 P) (n (o274 P) (l (o530 P)) z) (n (o402 P) (l (o658 P)) z)) (n (o210 P) (n (o338 P) (l (o594 P)) z) (n (o466 P) (l (o722 P)) z))) (n (o114 P) (n (o178 P) (n (o306 P) (l (o562 P)) z) (n (o434 P) (l (o690 P)) z)) (n (o242 P) (n (o370 P) (l (o626 P)) z) (l (o498 P)))))) (n (o26 P) (n (o42 P) (n (o74 P) (n (o138 P) (n (o266 P) (l (o522 P)) z) (n (o394 P) (l (o650 P)) z)) (n (o202 P) (n (o330 P) (l (o586 P)) z) (n (o458 P) (l (o714 P)) z))) (n (o106 P) (n (o170 P) (n (o298 P) (l (o554 P)) z) (n (o426 P) (l (o682 P)) z)) (n (o234 P) (n (o362 P) (l (o618 P)) z) (l (o490 P))))) (n (o58 P) (n (o90 P) (n (o154 P) (n (o282 P) (l (o538 P)) z) (n (o410 P) (l (o666 P)) z)) (n (o218 P) (n (o346 P) (l (o602 P)) z) (n (o474 P) (l (o730 P)) z))) (n (o122 P) (n (o186 P) (n (o314 P) (l (o570 P)) z) (n (o442 P) (l (o698 P)) z)) (n (o250 P) (n (o378 P) (l (o634 P)) z) (l (o506 P))))))) (n (o14 P) (n (o22 P) (n (o38 P) (n (o70 P) (n (o134 P) (n (o262 P) (l (o518 P)) z) (n (o390 P) (l (o646 P)) z)) (n (o198 P) (n (o326 P) (l (o582 P)) z) (n (o454 P) (l (o710 P)) z))) (n (o102 P) (n (o166 P) (n (o294 P) (l (o550 P)) z) (n (o422 P) (l (o678 P)) z)) (n (o230 P) (n (o358 P) (l (o614 P)) z) (l (o486 P))))) (n (o54 P) (n (o86 P) (n (o150 P) (n (o278 P) (l (o534 P)) z) (n (o406 P) (l (o662 P)) z)) (n (o214 P) (n (o342 P) (l (o598 P)) z) (n (o470 P) (l (o726 P)) z))) (n (o118 P) (n (o182 P) (n (o310 P) (l (o566 P)) z) (n (o438 P) (l (o694 P)) z)) (n (o246 P) (n (o374 P) (l (o630 P)) z) (l (o502 P)))))) (n (o30 P) (n (o46 P) (n (o78 P) (n (o142 P) (n (o270 P) (l (o526 P)) z) (n (o398 P) (l (o654 P)) z)) (n (o206 P) (n (o334 P) (l (o590 P)) z) (n (o462 P) (l (o718 P)) z))) (n (o110 P) (n (o174 P) (n (o302 P) (l (o558 P)) z) (n (o430 P) (l (o686 P)) z)) (n (o238 P) (n (o366 P) (l (o622 P)) z) (l (o494 P))))) (n (o62 P) (n (o94 P) (n (o158 P) (n (o286 P) (l (o542 P)) z) (n (o414 P) (l (o670 P)) z)) (n (o222 P) (n (o350 P) (l (o606 P)) z) (n (o478 P) (l (o734 P)) z))) (n (o126 P) (n (o190 P) (n (o318 P) (l (o574 P)) z) (n (o446 P) (l (o702 P)) z)) (n (o254 P) (n (o382 P) (l (o638 P)) z) (l (o510 P))))))))))
abbrev S11 (w : World) (os : OsState) : SharedT := ⟨t11 w.params, 742, {}, #[], {}, 1355, os⟩
noncomputable def lastObjs (P : Params) : List Obj := [(boot_o_0 P), (boot_o_1 P), (boot_o_2 P), (o3v11 P), (boot_o_4 P), (boot_o_5 P), (boot_o_6 P), (boot_o_7 P), (boot_o_8 P), (boot_o_9 P), (boot_o_10 P), (o11 P), (o12v11 P), (o13 P), (o14 P), (o15 P), (o16 P), (o17 P), (o18 P), (o19 P), (o20 P), (o21 P), (o22 P), (o23 P), (o24 P), (o25 P), (o26 P), (o27 P), (o28 P), (o29 P), (o30 P), (o31 P), (o32 P), (o33 P), (o34 P), (o35 P), (o36 P), (o37 P), (o38 P), (o39 P), (o40 P), (o41 P), (o42 P), (o43 P), (o44 P), (o45 P), (o46 P), (o47 P), (o48 P), (o49 P), (o50 P), (o51 P), (o52 P), (o53 P), (o54 P), (o55 P), (o56 P), (o57 P), (o58 P), (o59 P), (o60 P), (o61 P), (o62 P), (o63 P), (o64 P), (o65 P), (o66 P), (o67 P), (o68 P), (o69 P), (o70 P), (o71 P), (o72 P), (o73 P), (o74 P), (o75 P), (o76 P), (o77 P), (o78 P), (o79 P), (o80 P), (o81 P), (o82 P), (o83 P), (o84 P), (o85 P), (o86 P), (o87 P), (o88 P), (o89 P), (o90 P), (o91 P), (o92 P), (o93 P), (o94 P), (o95 P), (o96 P), (o97 P), (o98 P), (o99 P), (o100 P), (o101 P), (o102 P), (o103 P), (o104 P), (o105 P), (o106 P), (o107 P), (o108 P), (o109 P), (o110 P), (o111 P), (o112 P), (o113 P), (o114 P), (o115 P), (o116 P), (o117 P), (o118 P), (o119 P), (o120 P), (o121 P), (o122 P), (o123 P), (o124 P), (o125 P), (o126 P), (o127 P), (o128 P), (o129 P), (o130 P), (o131 P), (o132 P), (o133 P), (o134 P), (o135 P), (o136 P), (o137 P), (o138 P), (o139 P), (o140 P), (o141 P), (o142 P), (o143 P), (o144 P), (o145 P), (o146 P), (o147 P), (o148 P), (o149 P), (o150 P), (o151 P), (o152 P), (o153 P), (o154 P), (o155 P), (o156 P), (o157 P), (o158 P), (o159 P), (o160 P), (o161 P), (o162 P), (o163 P), (o164 P), (o165 P), (o166 P), (o167 P), (o168 P), (o169 P), (o170 P), (o171 P), (o172 P), (o173 P), (o174 P), (o175 P), (o176 P), (o177 P), (o178 P), (o179 P), (o180 P), (o181 P), (o182 P), (o183 P), (o184 P), (o185 P), (o186 P), (o187 P), (o188 P), (o189 P), (o190 P), (o191 P), (o192 P), (o193 P), (o194 P), (o195 P), (o196 P), (o197 P), (o198 P), (o199 P), (o200 P), (o201 P), (o202 P), (o203 P), (o204 P), (o205v3 P), (o206 P), (o207 P), (o208 P), (o209 P), (o210 P), (o211 P), (o212 P), (o213 P), (o214 P), (o215 P), (o216 P), (o217 P), (o218 P), (o219 P), (o220 P), (o221 P), (o222 P), (o223 P), (o224 P), (o225 P), (o226 P), (o227 P), (o228 P), (o229 P), (o230 P), (o231 P), (o232 P), (o233 P), (o234 P), (o235 P), (o236 P), (o237 P), (o238 P), (o239 P), (o240 P), (o241 P), (o242 P), (o243 P), (o244 P), (o245 P), (o246 P), (o247 P), (o248 P), (o249 P), (o250 P), (o251 P), (o252 P), (o253 P), (o254 P), (o255 P), (o256 P), (o257 P), (o258 P), (o259 P), (o260 P), (o261 P), (o262 P), (o263 P), (o264 P), (o265 P), (o266 P), (o267 P), (o268 P), (o269 P), (o270 P), (o271 P), (o272 P), (o273 P), (o274 P), (o275 P), (o276 P), (o277 P), (o278 P), (o279 P), (o280 P), (o281 P), (o282 P), (o283 P), (o284 P), (o285 P), (o286 P), (o287 P), (o288 P), (o289 P), (o290 P), (o291 P), (o292 P), (o293 P), (o294 P), (o295 P), (o296 P), (o297 P), (o298 P), (o299 P), (o300 P), (o301 P), (o302 P), (o303 P), (o304 P), (o305 P), (o306 P), (o307 P), (o308 P), (o309 P), (o310 P), (o311 P), (o312 P), (o313 P), (o314 P), (o315 P), (o316 P), (o317 P), (o318 P), (o319 P), (o320 P), (o321 P), (o322 P), (o323 P), (o324 P), (o325 P), (o326 P), (o327 P), (o328 P), (o329 P), (o330 P), (o331v1 P), (o332 P), (o333 P), (o334 P), (o335 P), (o336 P), (o337 P), (o338 P), (o339 P), (o340 P), (o341 P), (o342 P), (o343 P), (o344 P), (o345 P), (o346 P), (o347 P), (o348 P), (o349 P), (o350 P), (o351 P), (o352 P), (o353 P), (o354 P), (o355 P), (o356 P), (o357 P), (o358 P), (o359 P), (o360 P), (o361 P), (o362 P), (o363 P), (o364 P), (o365 P), (o366 P), (o367 P), (o368 P), (o369 P), (o370 P), (o371 P), (o372 P), (o373 P), (o374 P), (o375 P), (o376 P), (o377 P), (o378 P), (o379 P), (o380 P), (o381 P), (o382 P), (o383 P), (o384 P), (o385 P), (o386 P), (o387 P), (o388 P), (o389 P), (o390 P), (o391 P), (o392 P), (o393 P), (o394 P), (o395 P), (o396 P), (o397 P), (o398 P), (o399 P), (o400 P), (o401 P), (o402 P), (o403 P), (o404 P), (o405 P), (o406 P), (o407 P), (o408 P), (o409 P), (o410 P), (o411 P), (o412 P), (o413 P), (o414 P), (o415 P), (o416 P), (o417 P), (o418 P), (o419 P), (o420 P), (o421 P), (o422 P), (o423 P), (o424 P), (o425 P), (o426 P), (o427 P), (o428 P), (o429 P), (o430 P), (o431 P), (o432 P), (o433 P), (o434 P), (o435 P), (o436 P), (o437 P), (o438 P), (o439 P), (o440 P), (o441 P), (o442 P), (o443 P), (o444 P), (o445 P), (o446 P), (o447 P), (o448 P), (o449 P), (o450 P), (o451 P), (o452 P), (o453 P), (o454 P), (o455 P), (o456 P), (o457 P), (o458 P), (o459 P), (o460 P), (o461 P), (o462 P), (o463 P), (o464 P), (o465 P), (o466 P), (o467 P), (o468 P), (o469 P), (o470 P), (o471 P), (o472 P), (o473 P), (o474 P), (o475 P), (o476 P), (o477 P), (o478 P), (o479 P), (o480 P), (o481 P), (o482 P), (o483 P), (o484 P), (o485 P), (o486 P), (o487 P), (o488 P), (o489 P), (o490 P), (o491 P), (o492 P), (o493 P), (o494 P), (o495 P), (o496 P), (o497 P), (o498 P), (o499 P), (o500 P), (o501 P), (o502 P), (o503 P), (o504 P), (o505 P), (o506 P), (o507 P), (o508 P), (o509 P), (o510 P), (o511 P), (o512 P), (o513 P), (o514 P), (o515 P), (o516 P), (o517 P), (o518 P), (o519 P), (o520 P), (o521 P), (o522 P), (o523 P), (o524 P), (o525 P), (o526 P), (o527 P), (o528 P), (o529 P), (o530 P), (o531 P), (o532 P), (o533 P), (o534 P), (o535 P), (o536 P), (o537 P), (o538 P), (o539 P), (o540 P), (o541 P), (o542 P), (o543 P), (o544 P), (o545 P), (o546 P), (o547 P), (o548 P), (o549 P), (o550 P), (o551 P), (o552 P), (o553 P), (o554 P), (o555 P), (o556 P), (o557 P), (o558 P), (o559 P), (o560 P), (o561 P), (o562 P), (o563 P), (o564 P), (o565 P), (o566 P), (o567 P), (o568 P), (o569 P), (o570 P), (o571 P), (o572 P), (o573 P), (o574 P), (o575 P), (o576 P), (o577 P), (o578 P), (o579 P), (o580 P), (o581 P), (o582 P), (o583 P), (o584 P), (o585 P), (o586 P), (o587 P), (o588 P), (o589 P), (o590 P), (o591 P), (o592 P), (o593 P), (o594 P), (o595 P), (o596 P), (o597 P), (o598 P), (o599 P), (o600 P), (o601 P), (o602 P), (o603 P), (o604 P), (o605 P), (o606 P), (o607 P), (o608 P), (o609 P), (o610 P), (o611 P), (o612 P), (o613 P), (o614 P), (o615 P), (o616 P), (o617 P), (o618 P), (o619 P), (o620 P), (o621 P), (o622 P), (o623 P), (o624 P), (o625 P), (o626 P), (o627 P), (o628 P), (o629 P), (o630 P), (o631 P), (o632 P), (o633 P), (o634 P), (o635 P), (o636 P), (o637 P), (o638 P), (o639 P), (o640 P), (o641 P), (o642 P), (o643 P), (o644 P), (o645 P), (o646 P), (o647 P), (o648 P), (o649 P), (o650 P), (o651 P), (o652 P), (o653 P), (o654 P), (o655 P), (o656 P), (o657 P), (o658 P), (o659 P), (o660 P), (o661 P), (o662 P), (o663 P), (o664 P), (o665 P), (o666 P), (o667 P), (o668 P), (o669 P), (o670 P), (o671 P), (o672 P), (o673 P), (o674 P), (o675 P), (o676 P), (o677 P), (o678 P), (o679 P), (o680 P), (o681 P), (o682 P), (o683 P), (o684 P), (o685 P), (o686 P), (o687 P), (o688 P), (o689 P), (o690 P), (o691 P), (o692 P), (o693 P), (o694 P), (o695 P), (o696 P), (o697 P), (o698 P), (o699 P), (o700 P), (o701 P), (o702 P), (o703 P), (o704 P), (o705 P), (o706 P), (o707 P), (o708 P), (o709 P), (o710 P), (o711 P), (o712 P), (o713 P), (o714 P), (o715 P), (o716 P), (o717 P), (o718 P), (o719 P), (o720 P), (o721 P), (o722 P), (o723 P), (o724 P), (o725 P), (o726 P), (o727 P), (o728 P), (o729 P), (o730 P), (o731 P), (o732 P), (o733 P), (o734 P), (o735 P), (o736 P), (o737 P), (o738 P), (o739 P), (o740 P), (o741 P)]
theorem p1 (w : World) : (fun os => qRun qTab pw w 11 ann 1 402 (S0 w os) (piecesOf (cut 0 5) env cE ⟨0, 0, 0, 0⟩ B)) = fun os => some (.next, S1 w os, cE, ⟨24, 0, 30, 21⟩) := by kernel_rfl
theorem p2 (w : World) : (fun os => qRun qTab pw w 11 ann 1 900 (S1 w os) (piecesOf (cut 5 1) env cE ⟨24, 0, 30, 21⟩ B)) = fun os => some (.next, S2 w os, cE, ⟨31, 0, 72, 60⟩) := by kernel_rfl
theorem p3 (w : World) : (fun os => qRun qTab pw w 11 ann 1 926 (S2 w os) (piecesOf (cut 6 2) env cE ⟨31, 0, 72, 60⟩ B)) = fun os => some (.next, S3 w os, cE, ⟨128, 0, 133, 12⟩) := by kernel_rfl
theorem p4 (w : World) : (fun os => qRun qTab pw w 11 ann 1 721 (S3 w os) (piecesOf (cut 8 2) env cE ⟨128, 0, 133, 12⟩ B)) = fun os => some (.next, S4 w os, cE, ⟨140, 0, 145, 11⟩) := by kernel_rfl
theorem p5 (w : World) : (fun os => qRun qTab pw w 11 ann 1 721 (S4 w os) (piecesOf (cut 10 2) env cE ⟨140, 0, 145, 11⟩ B)) = fun os => some (.next, S5 w os, cE, ⟨152, 0, 157, 14⟩) := by kernel_rfl
theorem p6 (w : World) : (fun os => qRun qTab pw w 11 ann 1 740 (S5 w os) (piecesOf (cut 12 4) env cE ⟨152, 0, 157, 14⟩ B)) = fun os => some (.next, S6 w os, cE, ⟨191, 0, 191, 8⟩) := by kernel_rfl
theorem p7 (w : World) : (fun os => qRun qTab pw w 11 ann 1 755 (S6 w os) (piecesOf (cut 16 2) env cE ⟨191, 0, 191, 8⟩ B)) = fun os => some (.next, S7 w os, cE, ⟨310, 0, 310, 8⟩) := by kernel_rfl
theorem p8 (w : World) : (fun os => qRun qTab pw w 11 ann 1 460 (S7 w os) (piecesOf (cut 18 8) env cE ⟨310, 0, 310, 8⟩ B)) = fun os => some (.next, S8 w os, cE, ⟨360, 0, 374, 15⟩) := by kernel_rfl
theorem p9 (w : World) : (fun os => qRun qTab pw w 11 ann 1 936 (S8 w os) (piecesOf (cut 26 2) env cE ⟨360, 0, 374, 15⟩ B)) = fun os => some (.next, S9 w os, cE, ⟨417, 0, 432, 17⟩) := by kernel_rfl
theorem p10 (w : World) : (fun os => qRun qTab pw w 11 ann 1 926 (S9 w os) (piecesOf (cut 28 14) env cE ⟨417, 0, 432, 17⟩ B)) = fun os => some (.next, S10 w os, cE, ⟨540, 0, 545, 16⟩) := by kernel_rfl
theorem p11 (w : World) : (fun os => qRun qTab pw w 11 ann 1 97 (S10 w os) (piecesOf (cut 42 2) env cE ⟨540, 0, 545, 16⟩ B)) = fun os => some (.next, S11 w os, cE, ⟨575, 0, 612, 15⟩) := by kernel_rfl

noncomputable def H1 (P : Params) : Heap := ⟨⟨lastObjs P⟩, {}⟩
theorem size0 (w : World) : ((boot_heap w.params).isNs mainGlobals && (#[] : Array GenState).size == 0, (boot_heap w.params).objs.size, (boot_heap w.params).nsMap mainGlobals "__annotations__") = (true, 11, some (.ref 6)) := by kernel_rfl
theorem pre0 (w : World) : (fun os => topGo treeTable pw w 11 (some (.ref 6)) 12 ⟨boot_heap w.params, #[], boot_drawn, boot_toks, os⟩ (topStub pw)) = fun os => some ((S0 w os).abs, ⟨denote treeTable cE, cE, ⟨0, 0, 0, 0⟩, B⟩) := by kernel_rfl
theorem block0 (w : World) : (fun os => segRun treeTable pw w 11 (some (.ref 6)) 1 1 (S0 w os).abs (blockOf bE env cE ⟨0, 0, 0, 0⟩ B)) = fun os => some (.next, (S0 w os).abs, cE, ⟨0, 0, 0, 0⟩) := by kernel_rfl
theorem fin0 (w : World) : (fun os => topRun treeTable pw w 11 (some (.ref 6)) 2 (S11 w os).abs ⟨doneF .next, cE, ⟨575, 0, 612, 15⟩, B⟩) = fun os => some ⟨H1 w.params, #[], {}, 1355, os⟩ := by kernel_rfl
theorem qEq : @segRunT = qRun := PySem.W.Fast.te10110043849684766642
theorem tEq : treeTable = qTab := PySem.W.Fast.te14364793385576792824
theorem piece {w : World} {k : Nat} {s s' : OsState → SharedT} {st : List Stmt} {p p' : Pos} (h : (fun os => qRun qTab pw w 11 (some (.ref 6)) 1 k (s os) (piecesOf st env cE p B)) = fun os => some (.next, s' os, cE, p')) (os : OsState) :
    segRun treeTable pw w 11 (some (.ref 6)) 1 k (s os).abs (piecesOf st env cE p B) = some (.next, (s' os).abs, cE, p') := by
  refine segRun_of ?_
  rw [qEq, tEq]
  exact congrFun h os
theorem bodyEq : bE = cut 0 5 ++ (cut 5 1 ++ (cut 6 2 ++ (cut 8 2 ++ (cut 10 2 ++ (cut 12 4 ++ (cut 16 2 ++ (cut 18 8 ++ (cut 26 2 ++ (cut 28 14 ++ (cut 42 2 ++ [])))))))))) := by kernel_rfl
noncomputable def steps : Nat := (12 + (1 + (402 + (900 + (926 + (721 + (721 + (740 + (755 + (460 + (936 + (926 + (97 + 2)))))))))))))
theorem run0 (w : World) (os : OsState) : topRun treeTable pw w 11 (some (.ref 6)) steps ⟨boot_heap w.params, #[], boot_drawn, boot_toks, os⟩ (topStub pw) = some ⟨H1 w.params, #[], {}, 1355, os⟩ :=
  go_top (congrFun (pre0 w) os) (piece_block (congrFun (block0 w) os) ((congrArg (fun b => topRun treeTable pw w 11 (some (.ref 6)) _ (S0 w os).abs (restOf b env cE ⟨0, 0, 0, 0⟩ B)) bodyEq).trans
    (piece_app (piece (p1 w) os) (piece_app (piece (p2 w) os) (piece_app (piece (p3 w) os) (piece_app (piece (p4 w) os) (piece_app (piece (p5 w) os) (piece_app (piece (p6 w) os) (piece_app (piece (p7 w) os) (piece_app (piece (p8 w) os) (piece_app (piece (p9 w) os) (piece_app (piece (p10 w) os) (piece_app (piece (p11 w) os) (congrFun (fin0 w) os))))))))))))))
end Lw
end
noncomputable section
namespace Lw
open PySem PySem.W PySem.Calls PyProof.Rows
abbrev row : OpenRow := PySem.Challenge.rw_ji0061_01.row
noncomputable def loose : List Str := ["_tuplegetter", "tuplegetter_limits", "Granularity", "RateLimitItem", "RateLimitItemPerYear", "RateLimitItemPerMonth", "RateLimitItemPerDay", "RateLimitItemPerHour", "RateLimitItemPerMinute", "RateLimitItemPerSecond", "TimestampedSlidingWindow", "MemoryStorage", "tuplegetter_util", "WindowStats", "RateLimiter", "SlidingWindowCounterRateLimiter"]
noncomputable def keep : List Nat := [0, 2, 3, 4, 5, 6, 7, 8, 9, 10, 11, 12, 14, 16, 18, 19, 20, 21, 22, 23, 24, 25, 26, 27, 28, 29, 31, 32, 34, 35, 36, 37, 38, 39, 40, 41, 42, 43]
noncomputable def vw : Program := view pw keep
noncomputable def Xt (s : Shared) : Bool := xlAt vw [] s && recOk (RowW.records row.toRowW) s
theorem said0 : PySem.Challenge.rw_ji0061_01.wellSaid = true := by
  have e : @OpenLaw.wellSaid = @PySem.W.Fast.tw9446332074065402090 := PySem.W.Fast.te9446332074065402090
  rw [e]; kernel_rfl
theorem lookA (w : World) : (fun os : OsState => (staticsOk (importedModules pw.main.body) (boot_heap w.params) (H1 w.params) && namesBound pw (H1 w.params) && gensDone ⟨H1 w.params, #[], {}, 1355, os⟩ && laidKept (boot_heap w.params) (H1 w.params))) = fun _ => true := by kernel_rfl
theorem lookB (w : World) : (fun os : OsState => openSeen vw loose (importedModules pw.main.body) Xt true ⟨H1 w.params, #[], {}, 1355, os⟩) = fun _ => openGood vw loose := by
  have e : @openSeen = @PySem.W.Fast.tw4187177175401517315 := PySem.W.Fast.te4187177175401517315
  rw [e]; kernel_rfl
theorem left0 {α : Type} {Yf : Shared → α} {Ya : World → α} (h : ∀ w : World, (fun os : OsState => Yf ⟨H1 w.params, #[], {}, 1355, os⟩) = fun _ => Ya w) : LeftO pw vw loose Xt Yf Ya 15272 :=
  LeftO.of_pieces (H₀ := boot_heap) (H₁ := H1) (gs₀ := #[]) (gs₁ := #[]) (d₀ := boot_drawn) (d₁ := {}) (k₀ := boot_toks) (k₁ := 1355) (m₀ := 11) (ann := some (.ref 6)) (M := steps)
    (boot_open (by kernel_rfl) (by decide) (fun _ => by kernel_rfl)) size0 run0 (by decide +kernel) fun w => funext fun os => Prod.ext (congrFun (lookA w) os) (Prod.ext (congrFun (lookB w) os) (congrFun (h w) os))
end Lw
end
namespace Lw
section
open PySem PySem.W PySem.Calls PyProof.Rows
local macro_rules | `(tactic| o_law) => `(tactic| refine holds_law Lw.said0 fun said => ?_)
local macro_rules | `(tactic| o_head $H:term) => `(tactic| refine holds_open (r := Lw.row) (q := Lw.vw) (loose := Lw.loose) (Xt := Lw.Xt) (XP := XL Lw.vw []) (Yf := Hook.obs $H) (Ya := Hook.val $H) (YP := Hook.says $H) (N := 15272) (Lw.left0 (fun w => by kernel_rfl)) (Hook.of $H) (Hook.keeps $H) (fun s e => xl_of s (Bool.and_eq_true_iff.mp e).1) XL.keeps (by rfl) (by rfl) (by rfl) (fun s e => recFacts_of (Bool.and_eq_true_iff.mp e).2) (by rfl) (by assumption) (by decide +kernel) ⟨rfl, rfl, rfl, rfl, rfl, by decide +kernel⟩ ?hw ?hc)
set_option maxRecDepth 100000 in
set_option maxHeartbeats 8000000 in
open_top hd for PySem.Challenge.rw_ji0061_01
end
end Lw
open PySem PySem.W PyProof.Rows PySem.Calls PySem.Spec
set_option Elab.async false
set_option linter.all false
set_option maxHeartbeats 0
set_option maxRecDepth 100000
-- the entry of a def of ours: as the kit's ktr_enter, with defaults

-- the lines that k_with lays are asked ahead of the kit's
local macro_rules | `(tactic| walk_at $s:str) => `(tactic| k_extra $s)
section
theorem Lw.lay1 : True := by
  w_top off
  k_with_none
  k_with "ktr_enter" => (refine' code_def ?zk1 ?zk2 ?zk3 ?zk4 ?zk5 ?zkA ?zkF ?zkK ?zk6 ?zk7 ?zk8 ?zk9 ?zkB ?_ ?zc2 ?zc3 ?zc4 ?zc5; (case zkA => exact rfl); (case zkF => exact rfl); (case zkK => first | exact rfl | assumption); (case zk1 => k_asm); (case zk2 => k_asm); (case zk3 => k_asm); (case zk4 => k_asm); (case zk5 => k_asm); (case zk6 => k_is); (case zk7 => k_is); (case zk8 => ktr_room); (case zk9 => first | exact BindsTo.of_eq rfl | exact binds_K (by k_in) rfl (by k_is) rfl rfl rfl); (case zc5 => decide); (case zkB => exact locs rfl); (case zc2 => exact rfl); (case zc3 => exact rfl); (case zc4 => exact rfl); k_whole; intro g' L' h' FG' F' N' B' X' T'; (try dsimp only); (try k_fold))
  k_with "f_raise1" => ((case zB => k_asm); (case zF => k_asm); (case zX => k_asm); (case zN => k_asm); (case zT => k_asm); (case zhk => first | exact rfl | assumption); (case zd => ktr_room); (case zu => ktr_units))
  k_with "f_meansF" => (k_whole; intro t9 h9 tk9 F9 N9; (try dsimp only); (try k_fold))
  k_with "f_raise2" => ((case zF => k_asm); (case zX => k_asm); (case zN => k_asm); (case zI => exact Lw.ItemIn.mono (by assumption) (fun _ h => by (repeat (first | exact h | refine List.Mem.tail _ ?_)))))
  k_with "callWith ref" => (k_here; k_dflt (refine' callWith_K ?zk1 ?zk2 ?_; (case zk1 => k_asm); (case zk2 => k_is); k_whole))
  trivial
/-! a tuple of an own subclass: its type, issubclass, tuple.__getitem__ -/
namespace Lw
section
variable {prog : Program} {w : World} {M : Model} {A : Around} {E : Value → Shared → Prop} {s : Shared} {K : Frag} {x C : Addr} {ox : Obj} {od : Option Obj} {h : Heap} {items : Array Value} {n : Nat}
theorem check_sub {id owner nm : String} {self t : Value} {rest : List Value} (hsplit : splitId id = some (owner, nm))
    (hkind : (Manifest.find? owner).bind (·.attrs.lookup nm) = some .slot) (ht : Looks M h (typeOf self) t) (hs : Looks M h (isSubtype t (.type owner)) true) (ha : argsOk id ⟨self :: rest, []⟩) :
    Looks M h (checkBuiltinCall id ⟨self :: rest, []⟩) () := by
  intro A Q E s k q
  have hk : builtinKind id = some .slot := by simp only [builtinKind, hsplit]; exact hkind
  simp only [checkBuiltinCall, hk, hsplit]
  have hi : Looks M h (isInstance self (.type owner)) true := by unfold isInstance; exact ht.andThen hs
  refine wpAny_bind ?_
  refine hi A _ E s k ?_
  simp only [Bool.not_true, Bool.false_eq_true, if_false]
  cases hsig : Manifest.signature? id with
  | none => exact wpAny_pure q
  | some sig =>
    simp only [argsOk, hsig] at ha
    have h2 : Bind.checkArgs id sig ⟨self :: rest, []⟩ = pure () := ha
    show wpAny M A (Bind.checkArgs id sig ⟨self :: rest, []⟩) Q E s
    rw [h2]; exact wpAny_pure q
theorem getitem_sub {i : Int} {u : Tok} {k : Nat} {y : Value} {Q : Value → Shared → Prop} (X : K.In s.heap) (I : InstAt s.heap x ox C od) (hd : ox.data = .seq items n) (hm : mroIn K C (.type "tuple") = some true)
    (hlo : -(2 ^ 63) ≤ i) (hhi : i < 2 ^ 63) (hk : seqIndex? i items.size = some k) (hy : items[k]? = some y) (h : Q y s) :
    wpAny (model prog w) A (call (.builtin "tuple.__getitem__") [.ref x, .int i u]) Q E s := by
  obtain ⟨hh, g, d, t, os⟩ := s
  have L0 := I.type (M := model prog w)
  have L1 := looks_mroIn (M := model prog w) X hm
  have hx := I.at_
  dsimp only at hx L0 L1
  have LC : Looks (model prog w) hh (checkBuiltinCall "tuple.__getitem__" ⟨[.ref x, .int i u], []⟩) () := check_sub (id := "tuple.__getitem__") (self := .ref x) (rest := [.int i u]) (owner := "tuple") (nm := "__getitem__") (by decide +kernel) (by decide +kernel) L0 L1 (args_tuple_getitem (.ref x) (.int i u))
  refine wpAny_call ?_
  refine codeAny_call_builtin (id := "tuple.__getitem__") (args := ⟨[.ref x, .int i u], []⟩) (b := Builtin.«tuple.__getitem__») slot_tuple_getitem.plain entry_tuple_getitem ?_
  refine Looks.at LC ?_
  have L2 : Looks (model prog w) hh (seqItems? (.ref x)) (some items) := by
    intro A Q E s k q
    unfold seqItems?
    refine wpAny_bind (wpAny_loadPart (k _ _ hx) ?_)
    rw [hd]; exact wpAny_pure q
  unfold Builtin.«tuple.__getitem__» Builtin.Tuple.tupleItemsOf
  have f1 := PySem.AutoSeq1.idx_int
  have hf : ¬ (decide (i < -2 ^ 63) || decide (i ≥ 2 ^ 63)) = true := by simp; omega
  repeat lk
  rw [if_neg hf]
  simp only [hk, Option.bind_some, hy]
  repeat lk
  exact h
theorem meta_tuple : typeOf (.type "tuple") = pure (.type "type") := by kernel_rfl
theorem issub_nested {Q : Fin → Shared → Prop} {dep : Int} {tk : Tok} (X : K.In s.heap) (hc : (clsIn K C).isSome = true) (hm : mroIn K C (.type "tuple") = some true) (h : Q (.done (.ret (.bool true))) s) :
    wpAny (model prog w) A (Builtin.«issubclass.nested» ⟨[.ref C, .type "tuple", .int dep tk], []⟩) Q E s := by
  obtain ⟨hh, g, d, t, os⟩ := s
  have L1 := looks_mroIn (M := model prog w) X hm
  dsimp only at L1
  unfold clsIn at hc
  split at hc
  · rename_i q
    have ho := X _ _ q
    dsimp only at ho
    have LT := Looks.of_pure (M := model prog w) (h := hh) meta_tuple
    unfold Builtin.«issubclass.nested»
    repeat lk
    exact h
  · cases hc
theorem issub_tuple {Q : Value → Shared → Prop} (X : K.In s.heap) (hc : isClsIn K C = true) (hm : mroIn K C (.type "tuple") = some true) (h : Q (.bool true) s) :
    wpAny (model prog w) A (call (.builtin "issubclass") [.ref C, .type "tuple"]) Q E s :=
  call_issubclass (S := fun _ R s => K.In s.heap ∧ R (.ok (.ret (.bool true))) s) (fun _ _ _ _ _ hs => issubclass_outer (issub_nested hs.1 hc hm hs.2)) ⟨X, h⟩
end
end Lw
end
section
theorem Lw.lay2 : True := by
  w_top off
  k_with_none
  k_with "ktr_enter" => (refine' code_def ?zk1 ?zk2 ?zk3 ?zk4 ?zk5 ?zkA ?zkF ?zkK ?zk6 ?zk7 ?zk8 ?zk9 ?zkB ?_ ?zc2 ?zc3 ?zc4 ?zc5; (case zkA => exact rfl); (case zkF => exact rfl); (case zkK => first | exact rfl | assumption); (case zk1 => k_asm); (case zk2 => k_asm); (case zk3 => k_asm); (case zk4 => k_asm); (case zk5 => k_asm); (case zk6 => k_is); (case zk7 => k_is); (case zk8 => ktr_room); (case zk9 => first | exact BindsTo.of_eq rfl | exact binds_K (by k_in) rfl (by k_is) rfl rfl rfl); (case zc5 => decide); (case zkB => exact locs rfl); (case zc2 => exact rfl); (case zc3 => exact rfl); (case zc4 => exact rfl); k_whole; intro g' L' h' FG' F' N' B' X' T'; (try dsimp only); (try k_fold))
  k_with "f_raise1" => ((case zB => k_asm); (case zF => k_asm); (case zX => k_asm); (case zN => k_asm); (case zT => k_asm); (case zhk => first | exact rfl | assumption); (case zd => ktr_room); (case zu => ktr_units))
  k_with "f_meansF" => (k_whole; intro t9 h9 tk9 F9 N9; (try dsimp only); (try k_fold))
  k_with "f_raise2" => ((case zF => k_asm); (case zX => k_asm); (case zN => k_asm); (case zI => exact Lw.ItemIn.mono (by assumption) (fun _ h => by (repeat (first | exact h | refine List.Mem.tail _ ?_)))))
  k_with "callWith ref" => (k_here; k_dflt (refine' callWith_K ?zk1 ?zk2 ?_; (case zk1 => k_asm); (case zk2 => k_is); k_whole))
  trivial
namespace Lw
section
variable {prog : Program} {w : World} {A : Around} {E : Value → Shared → Prop} {s : Shared} {K : Frag} {x C : Addr} {ox : Obj} {od : Option Obj} {name : Str} {expr : Bool} {Q : Value → Shared → Prop}
theorem get_bind_tup {f : Addr} {a : Value} (X : K.In s.heap) (I : InstAt s.heap x ox C od) (hm : mroIn K C (.type "tuple") = some true) (hga : findIn K (.ref C) "__getattribute__" = some (some (.builtin "tuple.__getattribute__")))
    (hf : findObj K C od name = some (.bind (.ref f) a)) (hk : findIn K (.ref C) "__getattr__" = some none)
    (h : wpAny (model prog w) A.in1 (call (.ref f) [a, .ref x, .ref C]) (fun v s' => wpAny (model prog w) A (handedOut v) Q E s') (fun _ _ => False) { s with toks := s.toks + 1 }) :
    wpAny (model prog w) A (getAttr (.ref x) name expr) Q E s := by
  obtain ⟨hh, gg, d, t, os⟩ := s
  have L0 := I.type (M := model prog w)
  have L1 := looks_findIn (M := model prog w) X hga
  have L2 := looks_find (M := model prog w) X I hf
  have L3 := looks_findIn (M := model prog w) X hk
  have L4 := looks_mroIn (M := model prog w) X hm
  dsimp only at L0 L1 L2 L3 L4 h
  have LC : Looks (model prog w) hh (checkBuiltinCall "tuple.__getattribute__" ⟨[.ref x, .str name t], []⟩) () := check_sub (id := "tuple.__getattribute__") (self := .ref x) (rest := [.str name t]) (owner := "tuple") (nm := "__getattribute__") (by decide +kernel) (by decide +kernel) L0 L4 (F.args_tuple_getattribute_2 (.ref x) (.str name t))
  unfold getAttr getAttrBy
  refine wpAny_bind (wpAny_mkText (wpAny_holding ?_))
  refine wpAny_bind ?_
  refine L0.at ?_
  refine wpAny_bind ?_
  refine L1.at ?_
  show wpAny _ _ (getAttrByItsOwn _ _ _ _ _ _) _ _ _
  unfold getAttrByItsOwn
  refine wpAny_bind ?_
  show wpAny _ _ (typeLookup (.ref C) "__getattr__") _ _ _
  refine L3.at ?_
  refine wpAny_bind (wpAny_attempt ?_)
  refine wpAny_holding ?_
  have e0 : (expr && onTheHeap (.builtin "tuple.__getattribute__")) = false := by cases expr <;> rfl
  unfold callGetattribute
  rw [e0]
  show wpAny _ _ (boundAndCalled _ _ _) _ _ _
  unfold boundAndCalled
  rw [F.slot_tuple_getattribute.bind (.ref x)]
  refine wpAny_bind (wpAny_pure ?_)
  show wpAny _ _ (call (.builtin "tuple.__getattribute__") [.ref x, .str name t]) _ _ _
  refine wpAny_call ?_
  refine codeAny_call_builtin (id := "tuple.__getattribute__") (args := ⟨[.ref x, .str name t], []⟩) (b := Builtin.«object.__getattribute__») F.slot_tuple_getattribute.plain F.entry_tuple_ga ?_
  refine LC.at ?_
  unfold Builtin.«object.__getattribute__» Builtin.ObjectAttr.attrName slotArgs
  refine wpAny_bind (wpAny_pure ?_)
  refine wpAny_bind (wpAny_pure ?_)
  refine wpAny_bind ?_
  refine L0.at ?_
  refine wpAny_bind ?_
  refine L2.at ?_
  show wpAny _ _ (holding [a] (call (.ref f) [a, .ref x, .ref C]) >>= ret) _ _ _
  exact wpAny_bind (wpAny_holding (wpAny_mono h (fun v s' z => wpAny_pure z) fun _ _ z => z.elim))
end
end Lw
end
section
theorem Lw.lay3 : True := by
  w_top off
  k_with_none
  k_with "ktr_enter" => (refine' code_def ?zk1 ?zk2 ?zk3 ?zk4 ?zk5 ?zkA ?zkF ?zkK ?zk6 ?zk7 ?zk8 ?zk9 ?zkB ?_ ?zc2 ?zc3 ?zc4 ?zc5; (case zkA => exact rfl); (case zkF => exact rfl); (case zkK => first | exact rfl | assumption); (case zk1 => k_asm); (case zk2 => k_asm); (case zk3 => k_asm); (case zk4 => k_asm); (case zk5 => k_asm); (case zk6 => k_is); (case zk7 => k_is); (case zk8 => ktr_room); (case zk9 => first | exact BindsTo.of_eq rfl | exact binds_K (by k_in) rfl (by k_is) rfl rfl rfl); (case zc5 => decide); (case zkB => exact locs rfl); (case zc2 => exact rfl); (case zc3 => exact rfl); (case zc4 => exact rfl); k_whole; intro g' L' h' FG' F' N' B' X' T'; (try dsimp only); (try k_fold))
  k_with "f_raise1" => ((case zB => k_asm); (case zF => k_asm); (case zX => k_asm); (case zN => k_asm); (case zT => k_asm); (case zhk => first | exact rfl | assumption); (case zd => ktr_room); (case zu => ktr_units))
  k_with "f_meansF" => (k_whole; intro t9 h9 tk9 F9 N9; (try dsimp only); (try k_fold))
  k_with "f_raise2" => ((case zF => k_asm); (case zX => k_asm); (case zN => k_asm); (case zI => exact Lw.ItemIn.mono (by assumption) (fun _ h => by (repeat (first | exact h | refine List.Mem.tail _ ?_)))))
  k_with "callWith ref" => (k_here; k_dflt (refine' callWith_K ?zk1 ?zk2 ?_; (case zk1 => k_asm); (case zk2 => k_is); k_whole))
  trivial
namespace Lw
theorem inst_ks {K : Frag} {h : Heap} {x C dx : Addr} {od : Obj} {its : Array Value} {n : Nat} {sl : Array (Option Value)} (X : K.In h) (h1 : K.lookup x = some ⟨.ref C, some dx, .seq its n, sl⟩) (h2 : K.lookup dx = some od) :
    InstAt h x ⟨.ref C, some dx, .seq its n, sl⟩ C (some od) := ⟨X _ _ h1, rfl, rfl, X _ _ h2⟩
theorem inst_ns {h₀ h : Heap} {L x C dx : Addr} {news : List (Addr × Obj)} {od : Obj} {its : Array Value} {n : Nat} {sl : Array (Option Value)} (N : News h₀ L h news) (h1 : (x, (⟨.ref C, some dx, .seq its n, sl⟩ : Obj)) ∈ news) (h2 : (dx, od) ∈ news) :
    InstAt h x ⟨.ref C, some dx, .seq its n, sl⟩ C (some od) := ⟨(N _ h1).1, rfl, rfl, (N _ h2).1⟩
end Lw
local macro_rules | `(tactic| k_inst) => `(tactic| k_extra "k_inst")
theorem Lw.lay4 : True := by
  w_top off
  k_with_none
  k_with "ktr_enter" => (refine' code_def ?zk1 ?zk2 ?zk3 ?zk4 ?zk5 ?zkA ?zkF ?zkK ?zk6 ?zk7 ?zk8 ?zk9 ?zkB ?_ ?zc2 ?zc3 ?zc4 ?zc5; (case zkA => exact rfl); (case zkF => exact rfl); (case zkK => first | exact rfl | assumption); (case zk1 => k_asm); (case zk2 => k_asm); (case zk3 => k_asm); (case zk4 => k_asm); (case zk5 => k_asm); (case zk6 => k_is); (case zk7 => k_is); (case zk8 => ktr_room); (case zk9 => first | exact BindsTo.of_eq rfl | exact binds_K (by k_in) rfl (by k_is) rfl rfl rfl); (case zc5 => decide); (case zkB => exact locs rfl); (case zc2 => exact rfl); (case zc3 => exact rfl); (case zc4 => exact rfl); k_whole; intro g' L' h' FG' F' N' B' X' T'; (try dsimp only); (try k_fold))
  k_with "f_raise1" => ((case zB => k_asm); (case zF => k_asm); (case zX => k_asm); (case zN => k_asm); (case zT => k_asm); (case zhk => first | exact rfl | assumption); (case zd => ktr_room); (case zu => ktr_units))
  k_with "f_meansF" => (k_whole; intro t9 h9 tk9 F9 N9; (try dsimp only); (try k_fold))
  k_with "f_raise2" => ((case zF => k_asm); (case zX => k_asm); (case zN => k_asm); (case zI => exact Lw.ItemIn.mono (by assumption) (fun _ h => by (repeat (first | exact h | refine List.Mem.tail _ ?_)))))
  k_with "k_inst" => first | (refine' InstAt.of_news ?zN ?zh1 ?zh2; (case zN => k_asm); (case zh1 => k_mem); (case zh2 => k_mem)) | (refine' InstAt.of_K ?zX ?zh1 ?zh2; (case zX => first | assumption | exact Frag.In.keeps (by k_asm) (Fr.keep (by k_asm))); (case zh1 => k_is); (case zh2 => k_is)) | (refine' Lw.inst_ks ?zX ?zh1 ?zh2; (case zX => first | assumption | exact Frag.In.keeps (by k_asm) (Fr.keep (by k_asm))); (case zh1 => first | with_reducible assumption | k_is); (case zh2 => first | with_reducible assumption | k_is)) | (refine' Lw.inst_ns ?zN ?zh1 ?zh2; (case zN => k_asm); (case zh1 => k_mem); (case zh2 => k_mem))
  k_with "call builtin:issubclass" => (k_here; (with_reducible show wpAny _ _ (call (Value.builtin "issubclass") [Value.ref _, Value.type "tuple"]) _ _ _); k_dflt (refine' Lw.issub_tuple ?zX ?zc ?zm ?_; (case zX => k_in); (case zc => k_is); (case zm => k_is); k_whole))
  k_with "call builtin:tuple.__getitem__" => (k_here; k_dflt (refine' Lw.getitem_sub ?zX ?zI ?zr ?zm ?za ?zb ?zc ?zd ?_; (case zX => k_in); (case zI => k_inst); (case zr => rfl); (case zm => k_is); (case za => decide); (case zb => decide); (case zc => rfl); (case zd => rfl); k_whole))
  k_with "getMethod type:tuple" => (k_here; refine' method_type ?zF ?zX ?zm ?zs ?ze ?zh ?_; (case zF => k_asm); (case zX => k_asm); (case zm => with_reducible exact Lw.meta_tuple); (case zs => decide +kernel); (case ze => k_dflt k_is); (case zh => k_handed))
  k_with "callWith ref" => (k_here; k_dflt (refine' callWith_K ?zk1 ?zk2 ?_; (case zk1 => k_asm); (case zk2 => k_is); k_whole))
  trivial
namespace Lw
variable {w : World} {tp : Program} {tl : List Str} {mean : ExcName → Option Value} {mg mb : Str → Option Value} {dp un : Nat} {gd : Option (List Code)} {cn : Str} {cs : Scope} {a : Addr} {ccd : Value} {cl : List (Str × Addr)} {outer : List Env} {A₀ : Around} {base h₀ : Heap} {L : Addr} {m : Str → Option Value} {news : List (Addr × Obj)} {s : Shared} {Q E : Value → Shared → Prop}
theorem tg_v0 (B : Below A₀ base outer h₀) (F : Fr h₀ L s.heap m) (X : (hd.heap_1 w.params).In h₀) (N : News h₀ L s.heap news) (T : Top tp tl mean mg mb h₀) (hk : cs.kind = .function)
    (hdp : dp + 1 < recursionLimit) (hun : un + 8 < cLine) {G dx : Addr} {v0 v1 : Value} {n : Nat} {sl : Array (Option Value)} {od : Obj} (hl : (hd.heap_1 w.params).lookup G = some ⟨.ref 139, some dx, .seq #[v0, v1] n, sl⟩) (hdx : (hd.heap_1 w.params).lookup dx = some od)
    (hret : ∀ h' tk', Fr h₀ L h' m → News h₀ L h' news → Q v0 { s with heap := h', toks := tk' }) :
    wpAny (model row.prog w) (ktrTop dp un gd cn cs L a ccd cl outer) (call (.ref 43) [.ref 131, .ref G, .ref 139]) Q E s := by
  revert X
  k_fill
  intro X
  refine wpAny_call ?_
  k_dflt k_extra "ktr_enter"
  k_steps
  all_goals exact hret _ _ (by k_asm) (by k_asm)
theorem tg_v1 (B : Below A₀ base outer h₀) (F : Fr h₀ L s.heap m) (X : (hd.heap_1 w.params).In h₀) (N : News h₀ L s.heap news) (T : Top tp tl mean mg mb h₀) (hk : cs.kind = .function)
    (hdp : dp + 1 < recursionLimit) (hun : un + 8 < cLine) {G dx : Addr} {v0 v1 : Value} {n : Nat} {sl : Array (Option Value)} {od : Obj} (hl : (hd.heap_1 w.params).lookup G = some ⟨.ref 139, some dx, .seq #[v0, v1] n, sl⟩) (hdx : (hd.heap_1 w.params).lookup dx = some od)
    (hret : ∀ h' tk', Fr h₀ L h' m → News h₀ L h' news → Q v1 { s with heap := h', toks := tk' }) :
    wpAny (model row.prog w) (ktrTop dp un gd cn cs L a ccd cl outer) (call (.ref 43) [.ref 134, .ref G, .ref 139]) Q E s := by
  revert X
  k_fill
  intro X
  refine wpAny_call ?_
  k_dflt k_extra "ktr_enter"
  k_steps
  all_goals exact hret _ _ (by k_asm) (by k_asm)
end Lw
end
section
theorem Lw.lay5 : True := by
  w_top off
  k_with_none
  k_with "ktr_enter" => (refine' code_def ?zk1 ?zk2 ?zk3 ?zk4 ?zk5 ?zkA ?zkF ?zkK ?zk6 ?zk7 ?zk8 ?zk9 ?zkB ?_ ?zc2 ?zc3 ?zc4 ?zc5; (case zkA => exact rfl); (case zkF => exact rfl); (case zkK => first | exact rfl | assumption); (case zk1 => k_asm); (case zk2 => k_asm); (case zk3 => k_asm); (case zk4 => k_asm); (case zk5 => k_asm); (case zk6 => k_is); (case zk7 => k_is); (case zk8 => ktr_room); (case zk9 => first | exact BindsTo.of_eq rfl | exact binds_K (by k_in) rfl (by k_is) rfl rfl rfl); (case zc5 => decide); (case zkB => exact locs rfl); (case zc2 => exact rfl); (case zc3 => exact rfl); (case zc4 => exact rfl); k_whole; intro g' L' h' FG' F' N' B' X' T'; (try dsimp only); (try k_fold))
  k_with "f_raise1" => ((case zB => k_asm); (case zF => k_asm); (case zX => k_asm); (case zN => k_asm); (case zT => k_asm); (case zhk => first | exact rfl | assumption); (case zd => ktr_room); (case zu => ktr_units))
  k_with "f_meansF" => (k_whole; intro t9 h9 tk9 F9 N9; (try dsimp only); (try k_fold))
  k_with "f_raise2" => ((case zF => k_asm); (case zX => k_asm); (case zN => k_asm); (case zI => exact Lw.ItemIn.mono (by assumption) (fun _ h => by (repeat (first | exact h | refine List.Mem.tail _ ?_)))))
  k_with "callWith ref" => (k_here; k_dflt (refine' callWith_K ?zk1 ?zk2 ?_; (case zk1 => k_asm); (case zk2 => k_is); k_whole))
  trivial
namespace Lw
variable {w : World} {tp : Program} {tl : List Str} {mean : ExcName → Option Value} {mg mb : Str → Option Value} {dp un : Nat} {gd : Option (List Code)} {cn : Str} {cs : Scope} {a : Addr} {ccd : Value} {cl : List (Str × Addr)} {outer : List Env} {A₀ : Around} {base h₀ : Heap} {L : Addr} {m : Str → Option Value} {news : List (Addr × Obj)} {s : Shared} {Q E : Value → Shared → Prop}
theorem gr_seconds (B : Below A₀ base outer h₀) (F : Fr h₀ L s.heap m) (X : (hd.heap_1 w.params).In h₀) (N : News h₀ L s.heap news) (T : Top tp tl mean mg mb h₀) (hk : cs.kind = .function)
    (hdp : dp + 1 < recursionLimit) (hun : un + 9 < cLine) {G dx : Addr} {v0 v1 : Value} {n : Nat} {sl : Array (Option Value)} {od : Obj} (hl : (hd.heap_1 w.params).lookup G = some ⟨.ref 139, some dx, .seq #[v0, v1] n, sl⟩) (hdx : (hd.heap_1 w.params).lookup dx = some od)
    {expr : Bool} (hv : handedIn v0 = true) (hret : ∀ h' tk', Fr h₀ L h' m → News h₀ L h' news → Q v0 { s with heap := h', toks := tk' }) :
    wpAny (model row.prog w) (ktrTop dp un gd cn cs L a ccd cl outer) (getAttr (.ref G) "seconds" expr) Q E s := by
  revert X
  k_fill
  intro X
  refine get_bind_tup (K := hd.heap_1 w.params) (f := 43) (a := .ref 131) (C := 139) (X.keeps F.keep) (inst_ks (X.keeps F.keep) hl hdx) ?h0 ?h1 (findObj_data ?h2 ?h3 ?h4 ?h5) ?h6 ?h7
  case h0 => k_is
  case h1 => k_is
  case h2 => show isClsIn _ _ = true; k_is
  case h3 => k_is
  case h4 => k_is
  case h5 => k_is
  case h6 => k_is
  case h7 => exact tg_v0 (un := un + 1) (Q := fun v s' => wpAny (model row.prog w) (ktrTop dp un gd cn cs L a ccd cl outer) (handedOut v) Q E s') (s := { s with toks := s.toks + 1 }) B F X N T hk hdp (by omega) hl hdx fun h' tk' F' N' => handed_on hv (hret h' tk' F' N')
theorem gr_name (B : Below A₀ base outer h₀) (F : Fr h₀ L s.heap m) (X : (hd.heap_1 w.params).In h₀) (N : News h₀ L s.heap news) (T : Top tp tl mean mg mb h₀) (hk : cs.kind = .function)
    (hdp : dp + 1 < recursionLimit) (hun : un + 9 < cLine) {G dx : Addr} {v0 v1 : Value} {n : Nat} {sl : Array (Option Value)} {od : Obj} (hl : (hd.heap_1 w.params).lookup G = some ⟨.ref 139, some dx, .seq #[v0, v1] n, sl⟩) (hdx : (hd.heap_1 w.params).lookup dx = some od)
    {expr : Bool} (hv : handedIn v1 = true) (hret : ∀ h' tk', Fr h₀ L h' m → News h₀ L h' news → Q v1 { s with heap := h', toks := tk' }) :
    wpAny (model row.prog w) (ktrTop dp un gd cn cs L a ccd cl outer) (getAttr (.ref G) "name" expr) Q E s := by
  revert X
  k_fill
  intro X
  refine get_bind_tup (K := hd.heap_1 w.params) (f := 43) (a := .ref 134) (C := 139) (X.keeps F.keep) (inst_ks (X.keeps F.keep) hl hdx) ?h0 ?h1 (findObj_data ?h2 ?h3 ?h4 ?h5) ?h6 ?h7
  case h0 => k_is
  case h1 => k_is
  case h2 => show isClsIn _ _ = true; k_is
  case h3 => k_is
  case h4 => k_is
  case h5 => k_is
  case h6 => k_is
  case h7 => exact tg_v1 (un := un + 1) (Q := fun v s' => wpAny (model row.prog w) (ktrTop dp un gd cn cs L a ccd cl outer) (handedOut v) Q E s') (s := { s with toks := s.toks + 1 }) B F X N T hk hdp (by omega) hl hdx fun h' tk' F' N' => handed_on hv (hret h' tk' F' N')
end Lw
end
section
theorem Lw.lay6 : True := by
  w_top off
  k_with_none
  k_with "ktr_enter" => (refine' code_def ?zk1 ?zk2 ?zk3 ?zk4 ?zk5 ?zkA ?zkF ?zkK ?zk6 ?zk7 ?zk8 ?zk9 ?zkB ?_ ?zc2 ?zc3 ?zc4 ?zc5; (case zkA => exact rfl); (case zkF => exact rfl); (case zkK => first | exact rfl | assumption); (case zk1 => k_asm); (case zk2 => k_asm); (case zk3 => k_asm); (case zk4 => k_asm); (case zk5 => k_asm); (case zk6 => k_is); (case zk7 => k_is); (case zk8 => ktr_room); (case zk9 => first | exact BindsTo.of_eq rfl | exact binds_K (by k_in) rfl (by k_is) rfl rfl rfl); (case zc5 => decide); (case zkB => exact locs rfl); (case zc2 => exact rfl); (case zc3 => exact rfl); (case zc4 => exact rfl); k_whole; intro g' L' h' FG' F' N' B' X' T'; (try dsimp only); (try k_fold))
  k_with "f_raise1" => ((case zB => k_asm); (case zF => k_asm); (case zX => k_asm); (case zN => k_asm); (case zT => k_asm); (case zhk => first | exact rfl | assumption); (case zd => ktr_room); (case zu => ktr_units))
  k_with "f_meansF" => (k_whole; intro t9 h9 tk9 F9 N9; (try dsimp only); (try k_fold))
  k_with "f_raise2" => ((case zF => k_asm); (case zX => k_asm); (case zN => k_asm); (case zI => exact Lw.ItemIn.mono (by assumption) (fun _ h => by (repeat (first | exact h | refine List.Mem.tail _ ?_)))))
  k_with "callWith ref" => (k_here; k_dflt (refine' callWith_K ?zk1 ?zk2 ?_; (case zk1 => k_asm); (case zk2 => k_is); k_whole))
  trivial
namespace Lw
/-- the six windows -/
inductive Wn where
  | s | i | h | d | o | y
  deriving DecidableEq
noncomputable def Wn.cls : Wn → Addr
  | .s => 309 | .i => 292 | .h => 275 | .d => 258 | .o => 241 | .y => 224
noncomputable def Wn.gr : Wn → Addr
  | .s => 306 | .i => 289 | .h => 272 | .d => 255 | .o => 238 | .y => 221
noncomputable def Wn.sec : Wn → Int
  | .s => 1 | .i => 60 | .h => 3600 | .d => 86400 | .o => 2592000 | .y => 31104000
noncomputable def Wn.nm : Wn → Str
  | .s => "second" | .i => "minute" | .h => "hour" | .d => "day" | .o => "month" | .y => "year"
noncomputable def Wn.ix : Wn → Int
  | .s => 0 | .i => 1 | .h => 2 | .d => 3 | .o => 4 | .y => 5
/-- what a limit is made of -/
structure Item where
  k : Wn
  a : Int
  m : Int
  ns : Str
noncomputable def itemD (P : Params) (it : Item) (t1 t2 t3 t4 t5 t6 : Tok) : Obj := dictOf [⟨PyData.keyHash P "namespace", .str "namespace" t1, .str it.ns t2⟩, ⟨PyData.keyHash P "amount", .str "amount" t3, .int it.a t4⟩, ⟨PyData.keyHash P "multiples", .str "multiples" t5, .int it.m t6⟩] 3
noncomputable def ItemIn (P : Params) (news : List (Addr × Obj)) (x : Addr) (it : Item) : Prop := ∃ dx t1 t2 t3 t4 t5 t6, (x, instObj it.k.cls dx) ∈ news ∧ (dx, itemD P it t1 t2 t3 t4 t5 t6) ∈ news
theorem ItemIn.mono {P : Params} {l l' : List (Addr × Obj)} {x : Addr} {it : Item} (h : ItemIn P l x it) (hs : ∀ p ∈ l, p ∈ l') : ItemIn P l' x it := by
  obtain ⟨dx, t1, t2, t3, t4, t5, t6, h1, h2⟩ := h
  exact ⟨dx, t1, t2, t3, t4, t5, t6, hs _ h1, hs _ h2⟩
theorem ItemIn.cons {P : Params} {l : List (Addr × Obj)} {q : Addr × Obj} {x : Addr} {it : Item} (h : ItemIn P l x it) : ItemIn P (q :: l) x it := h.mono fun _ hp => .tail _ hp
variable {w : World} {tp : Program} {tl : List Str} {mean : ExcName → Option Value} {mg mb : Str → Option Value} {dp un : Nat} {gd : Option (List Code)} {cn : Str} {cs : Scope} {a : Addr} {ccd : Value} {cl : List (Str × Addr)} {outer : List Env} {A₀ : Around} {base h₀ : Heap} {L : Addr} {m : Str → Option Value} {news : List (Addr × Obj)} {s : Shared} {Q E : Value → Shared → Prop}
variable {A : Around} {x : Addr} {it : Item} {expr : Bool} {led : List (Addr × Obj)}
theorem gr_mk {K : Frag} {G : Addr} {a : Int} {b : Str} {dx : Addr} {t t' : Tok} {n : Nat} {od : Obj} (h1 : K.lookup G = some ⟨.ref 139, some dx, .seq #[.int a t, .str b t'] n, #[]⟩) (h2 : K.lookup dx = some od) : ∃ dx t t' n od, K.lookup G = some ⟨.ref 139, some dx, .seq #[.int a t, .str b t'] n, #[]⟩ ∧ K.lookup dx = some od := ⟨dx, t, t', n, od, h1, h2⟩
theorem gr_at (w : World) (k : Wn) : ∃ dx t t' n od, (hd.heap_1 w.params).lookup k.gr = some ⟨.ref 139, some dx, .seq #[.int k.sec t, .str k.nm t'] n, #[]⟩ ∧ (hd.heap_1 w.params).lookup dx = some od := by
  suffices H : row = row → ∃ dx t t' n od, (hd.heap_1 w.params).lookup k.gr = some ⟨.ref 139, some dx, .seq #[.int k.sec t, .str k.nm t'] n, #[]⟩ ∧ (hd.heap_1 w.params).lookup dx = some od from H rfl
  k_fill
  intro _
  cases k <;> exact gr_mk (by dsimp only [Wn.gr, Wn.sec, Wn.nm]; k_is) (by k_is)
variable (F : Fr h₀ L s.heap m) (X : (hd.heap_1 w.params).In h₀) (N : News h₀ L s.heap led) (I : ItemIn w.params led x it)
include F X N I
theorem it_amount (hq : ∀ t, Q (.int it.a t) { s with toks := s.toks + 1 }) : wpAny (model row.prog w) A (getAttr (.ref x) "amount" expr) Q E s := by
  revert X
  k_fill
  intro X
  obtain ⟨dx, t1, t2, t3, t4, t5, t6, h1, h2⟩ := I
  obtain ⟨k, a', m', ns⟩ := it
  unfold itemD at h2
  cases k <;> (dsimp only [Wn.cls] at h1; refine' get_own F X (InstAt.of_news N h1 h2) ?k1 ?k2 ?k3 ?k4 ?k5 ?k6 (hq t4); (case k1 => k_is); (case k2 => k_is); (case k3 => k_is); (case k4 => k_is); (case k5 => k_get); (case k6 => rfl))
theorem it_multiples (hq : ∀ t, Q (.int it.m t) { s with toks := s.toks + 1 }) : wpAny (model row.prog w) A (getAttr (.ref x) "multiples" expr) Q E s := by
  revert X
  k_fill
  intro X
  obtain ⟨dx, t1, t2, t3, t4, t5, t6, h1, h2⟩ := I
  obtain ⟨k, a', m', ns⟩ := it
  unfold itemD at h2
  cases k <;> (dsimp only [Wn.cls] at h1; refine' get_own F X (InstAt.of_news N h1 h2) ?k1 ?k2 ?k3 ?k4 ?k5 ?k6 (hq t6); (case k1 => k_is); (case k2 => k_is); (case k3 => k_is); (case k4 => k_is); (case k5 => k_get); (case k6 => rfl))
theorem it_namespace (hq : ∀ t, Q (.str it.ns t) { s with toks := s.toks + 1 }) : wpAny (model row.prog w) A (getAttr (.ref x) "namespace" expr) Q E s := by
  revert X
  k_fill
  intro X
  obtain ⟨dx, t1, t2, t3, t4, t5, t6, h1, h2⟩ := I
  obtain ⟨k, a', m', ns⟩ := it
  unfold itemD at h2
  cases k <;> (dsimp only [Wn.cls] at h1; refine' get_own F X (InstAt.of_news N h1 h2) ?k1 ?k2 ?k3 ?k4 ?k5 ?k6 (hq t2); (case k1 => k_is); (case k2 => k_is); (case k3 => k_is); (case k4 => k_is); (case k5 => k_get); (case k6 => rfl))
theorem it_gran (hq : Q (.ref it.k.gr) { s with toks := s.toks + 1 }) : wpAny (model row.prog w) A (getAttr (.ref x) "GRANULARITY" expr) Q E s := by
  revert X
  k_fill
  intro X
  obtain ⟨dx, t1, t2, t3, t4, t5, t6, h1, h2⟩ := I
  obtain ⟨k, a', m', ns⟩ := it
  unfold itemD at h2
  cases k <;> (dsimp only [Wn.cls] at h1; refine' get_cls F X (InstAt.of_news N h1 h2) ?k1 ?k2 ?k3 ?k4 ?k5 ?k6 ?k7 hq; (case k1 => k_is); (case k2 => k_is); (case k3 => show _ = some (some (Value.ref _)); dsimp only [Wn.gr]; k_is); (case k4 => dsimp only [Wn.gr]; k_is); (case k5 => rfl); (case k6 => decide +kernel); (case k7 => k_get))
theorem it_key_for {pl : Sem Bool} {Q : Value × List Value → Shared → Prop} (hq : Q (.ref 181, [.ref x]) s) : wpAny (model row.prog w) A (getMethod (.ref x) "key_for" pl) Q E s := by
  revert X
  k_fill
  intro X
  obtain ⟨dx, t1, t2, t3, t4, t5, t6, h1, h2⟩ := I
  obtain ⟨k, a', m', ns⟩ := it
  unfold itemD at h2
  cases k <;> (dsimp only [Wn.cls] at h1; refine' method_inst F X (InstAt.of_news N h1 h2) ?k1 ?k2 ?k3 ?k4 hq; (case k1 => k_is); (case k2 => k_is); (case k3 => k_is); (case k4 => k_get))
theorem it_get_expiry {pl : Sem Bool} {Q : Value × List Value → Shared → Prop} (hq : Q (.ref 174, [.ref x]) s) : wpAny (model row.prog w) A (getMethod (.ref x) "get_expiry" pl) Q E s := by
  revert X
  k_fill
  intro X
  obtain ⟨dx, t1, t2, t3, t4, t5, t6, h1, h2⟩ := I
  obtain ⟨k, a', m', ns⟩ := it
  unfold itemD at h2
  cases k <;> (dsimp only [Wn.cls] at h1; refine' method_inst F X (InstAt.of_news N h1 h2) ?k1 ?k2 ?k3 ?k4 hq; (case k1 => k_is); (case k2 => k_is); (case k3 => k_is); (case k4 => k_get))
end Lw
end
section
theorem Lw.lay7 : True := by
  w_top off
  k_with_none
  k_with "ktr_enter" => (refine' code_def ?zk1 ?zk2 ?zk3 ?zk4 ?zk5 ?zkA ?zkF ?zkK ?zk6 ?zk7 ?zk8 ?zk9 ?zkB ?_ ?zc2 ?zc3 ?zc4 ?zc5; (case zkA => exact rfl); (case zkF => exact rfl); (case zkK => first | exact rfl | assumption); (case zk1 => k_asm); (case zk2 => k_asm); (case zk3 => k_asm); (case zk4 => k_asm); (case zk5 => k_asm); (case zk6 => k_is); (case zk7 => k_is); (case zk8 => ktr_room); (case zk9 => first | exact BindsTo.of_eq rfl | exact binds_K (by k_in) rfl (by k_is) rfl rfl rfl); (case zc5 => decide); (case zkB => exact locs rfl); (case zc2 => exact rfl); (case zc3 => exact rfl); (case zc4 => exact rfl); k_whole; intro g' L' h' FG' F' N' B' X' T'; (try dsimp only); (try k_fold))
  k_with "f_raise1" => ((case zB => k_asm); (case zF => k_asm); (case zX => k_asm); (case zN => k_asm); (case zT => k_asm); (case zhk => first | exact rfl | assumption); (case zd => ktr_room); (case zu => ktr_units))
  k_with "f_meansF" => (k_whole; intro t9 h9 tk9 F9 N9; (try dsimp only); (try k_fold))
  k_with "f_raise2" => ((case zF => k_asm); (case zX => k_asm); (case zN => k_asm); (case zI => exact Lw.ItemIn.mono (by assumption) (fun _ h => by (repeat (first | exact h | refine List.Mem.tail _ ?_)))))
  k_with "callWith ref" => (k_here; k_dflt (refine' callWith_K ?zk1 ?zk2 ?_; (case zk1 => k_asm); (case zk2 => k_is); k_whole))
  trivial
namespace Lw
variable {w : World} {tp : Program} {tl : List Str} {mean : ExcName → Option Value} {mg mb : Str → Option Value} {dp un : Nat} {gd : Option (List Code)} {cn : Str} {cs : Scope} {a : Addr} {ccd : Value} {cl : List (Str × Addr)} {outer : List Env} {A₀ : Around} {base h₀ : Heap} {L : Addr} {m : Str → Option Value} {news : List (Addr × Obj)} {s : Shared} {Q E : Value → Shared → Prop}
theorem gr_sec (B : Below A₀ base outer h₀) (F : Fr h₀ L s.heap m) (X : (hd.heap_1 w.params).In h₀) (N : News h₀ L s.heap news) (T : Top tp tl mean mg mb h₀) (hk : cs.kind = .function) (hdp : dp + 1 < recursionLimit) (hun : un + 9 < cLine) {k : Wn} {expr : Bool}
    (hret : ∀ t h' tk', Fr h₀ L h' m → News h₀ L h' news → Q (.int k.sec t) { s with heap := h', toks := tk' }) :
    wpAny (model row.prog w) (ktrTop dp un gd cn cs L a ccd cl outer) (getAttr (.ref k.gr) "seconds" expr) Q E s := by
  obtain ⟨dx, t, t', n, od, h1, h2⟩ := gr_at w k
  exact gr_seconds B F X N T hk hdp hun h1 h2 rfl fun h' tk' F' N' => hret _ h' tk' F' N'
theorem gr_nm (B : Below A₀ base outer h₀) (F : Fr h₀ L s.heap m) (X : (hd.heap_1 w.params).In h₀) (N : News h₀ L s.heap news) (T : Top tp tl mean mg mb h₀) (hk : cs.kind = .function) (hdp : dp + 1 < recursionLimit) (hun : un + 9 < cLine) {k : Wn} {expr : Bool}
    (hret : ∀ t h' tk', Fr h₀ L h' m → News h₀ L h' news → Q (.str k.nm t) { s with heap := h', toks := tk' }) :
    wpAny (model row.prog w) (ktrTop dp un gd cn cs L a ccd cl outer) (getAttr (.ref k.gr) "name" expr) Q E s := by
  obtain ⟨dx, t, t', n, od, h1, h2⟩ := gr_at w k
  exact gr_name B F X N T hk hdp hun h1 h2 rfl fun h' tk' F' N' => hret _ h' tk' F' N'
end Lw
theorem Lw.lay8 : True := by
  w_top off
  k_with_none
  k_with "ktr_enter" => (refine' code_def ?zk1 ?zk2 ?zk3 ?zk4 ?zk5 ?zkA ?zkF ?zkK ?zk6 ?zk7 ?zk8 ?zk9 ?zkB ?_ ?zc2 ?zc3 ?zc4 ?zc5; (case zkA => exact rfl); (case zkF => exact rfl); (case zkK => first | exact rfl | assumption); (case zk1 => k_asm); (case zk2 => k_asm); (case zk3 => k_asm); (case zk4 => k_asm); (case zk5 => k_asm); (case zk6 => k_is); (case zk7 => k_is); (case zk8 => ktr_room); (case zk9 => first | exact BindsTo.of_eq rfl | exact binds_K (by k_in) rfl (by k_is) rfl rfl rfl); (case zc5 => decide); (case zkB => exact locs rfl); (case zc2 => exact rfl); (case zc3 => exact rfl); (case zc4 => exact rfl); k_whole; intro g' L' h' FG' F' N' B' X' T'; (try dsimp only); (try k_fold))
  k_with "f_raise1" => ((case zB => k_asm); (case zF => k_asm); (case zX => k_asm); (case zN => k_asm); (case zT => k_asm); (case zhk => first | exact rfl | assumption); (case zd => ktr_room); (case zu => ktr_units))
  k_with "f_meansF" => (k_whole; intro t9 h9 tk9 F9 N9; (try dsimp only); (try k_fold))
  k_with "f_raise2" => ((case zF => k_asm); (case zX => k_asm); (case zN => k_asm); (case zI => exact Lw.ItemIn.mono (by assumption) (fun _ h => by (repeat (first | exact h | refine List.Mem.tail _ ?_)))))
  k_with "getAttr ref" => (k_here; (with_reducible show wpAny _ _ (getAttr (Value.ref _) (Str.ofString "amount") _) _ _ _); k_dflt (refine' Lw.it_amount ?zF ?zX ?zN ?zI ?_; k_extra "f_raise2"; k_whole; intro t'; (try dsimp only)))
  k_with "getAttr ref" => (k_here; (with_reducible show wpAny _ _ (getAttr (Value.ref _) (Str.ofString "multiples") _) _ _ _); k_dflt (refine' Lw.it_multiples ?zF ?zX ?zN ?zI ?_; k_extra "f_raise2"; k_whole; intro t'; (try dsimp only)))
  k_with "getAttr ref" => (k_here; (with_reducible show wpAny _ _ (getAttr (Value.ref _) (Str.ofString "namespace") _) _ _ _); k_dflt (refine' Lw.it_namespace ?zF ?zX ?zN ?zI ?_; k_extra "f_raise2"; k_whole; intro t'; (try dsimp only)))
  k_with "getAttr ref" => (k_here; (with_reducible show wpAny _ _ (getAttr (Value.ref _) (Str.ofString "GRANULARITY") _) _ _ _); k_dflt (refine' Lw.it_gran ?zF ?zX ?zN ?zI ?_; k_extra "f_raise2"; k_whole; (try dsimp only)))
  k_with "getMethod ref" => (k_here; (with_reducible show wpAny _ _ (getMethod (Value.ref _) (Str.ofString "key_for") _) _ _ _); k_dflt (refine' Lw.it_key_for ?zF ?zX ?zN ?zI ?_; k_extra "f_raise2"; k_whole; (try dsimp only)))
  k_with "getMethod ref" => (k_here; (with_reducible show wpAny _ _ (getMethod (Value.ref _) (Str.ofString "get_expiry") _) _ _ _); k_dflt (refine' Lw.it_get_expiry ?zF ?zX ?zN ?zI ?_; k_extra "f_raise2"; k_whole; (try dsimp only)))
  k_with "getAttr ref" => (k_here; (with_reducible show wpAny _ _ (getAttr (Value.ref (Lw.Wn.gr _)) (Str.ofString "seconds") _) _ _ _); k_dflt (refine' Lw.gr_sec ?zB ?zF ?zX ?zN ?zT ?zhk ?zd ?zu ?_; k_extra "f_raise1"; k_extra "f_meansF"))
  k_with "getAttr ref" => (k_here; (with_reducible show wpAny _ _ (getAttr (Value.ref (Lw.Wn.gr _)) (Str.ofString "name") _) _ _ _); k_dflt (refine' Lw.gr_nm ?zB ?zF ?zX ?zN ?zT ?zhk ?zd ?zu ?_; k_extra "f_raise1"; k_extra "f_meansF"))
  k_with "callWith ref" => (k_here; k_dflt (refine' callWith_K ?zk1 ?zk2 ?_; (case zk1 => k_asm); (case zk2 => k_is); k_whole))
  trivial
namespace Lw
variable {w : World} {tp : Program} {tl : List Str} {mean : ExcName → Option Value} {mg mb : Str → Option Value} {dp un : Nat} {gd : Option (List Code)} {cn : Str} {cs : Scope} {a : Addr} {ccd : Value} {cl : List (Str × Addr)} {outer : List Env} {A₀ : Around} {base h₀ : Heap} {L : Addr} {m : Str → Option Value} {news : List (Addr × Obj)} {s : Shared} {Q E : Value → Shared → Prop}
theorem c_expiry (B : Below A₀ base outer h₀) (F : Fr h₀ L s.heap m) (X : (hd.heap_1 w.params).In h₀) (N : News h₀ L s.heap news) (T : Top tp tl mean mg mb h₀) (hk : cs.kind = .function) (hdp : dp + 2 < recursionLimit) (hun : un + 16 < cLine) {x : Addr} {it : Item} (I : ItemIn w.params news x it) (hm : 0 ≤ it.m ∧ it.m < 10)
    (hret : ∀ t h' tk', Fr h₀ L h' m → News h₀ L h' news → Q (.int (it.k.sec * it.m) t) { s with heap := h', toks := tk' }) :
    wpAny (model row.prog w) (ktrTop dp un gd cn cs L a ccd cl outer) (call (.ref 174) [.ref x]) Q E s := by
  revert X
  k_fill
  intro X
  refine wpAny_call ?_
  k_dflt k_extra "ktr_enter"
  k_steps
  all_goals exact hret _ _ _ (by k_asm) (by k_asm)
theorem c_safe_int (B : Below A₀ base outer h₀) (F : Fr h₀ L s.heap m) (X : (hd.heap_1 w.params).In h₀) (N : News h₀ L s.heap news) (T : Top tp tl mean mg mb h₀) (hk : cs.kind = .function) (hdp : dp + 1 < recursionLimit) (hun : un + 8 < cLine) {i : Int} {t : Tok} (hi : 0 ≤ i ∧ i < 10)
    (hret : ∀ t h' tk', Fr h₀ L h' m → News h₀ L h' news → Q (.str (Str.ofString (toString i)) t) { s with heap := h', toks := tk' }) :
    wpAny (model row.prog w) (ktrTop dp un gd cn cs L a ccd cl outer) (call (.ref 71) [.int i t]) Q E s := by
  revert X
  k_fill
  intro X
  refine wpAny_call ?_
  k_dflt k_extra "ktr_enter"
  k_steps
  all_goals exact hret _ _ _ (by k_asm) (by k_asm)
theorem c_safe_str (B : Below A₀ base outer h₀) (F : Fr h₀ L s.heap m) (X : (hd.heap_1 w.params).In h₀) (N : News h₀ L s.heap news) (T : Top tp tl mean mg mb h₀) (hk : cs.kind = .function) (hdp : dp + 1 < recursionLimit) (hun : un + 8 < cLine) {x : Str} {t : Tok}
    (hret : ∀ t h' tk', Fr h₀ L h' m → News h₀ L h' news → Q (.str x t) { s with heap := h', toks := tk' }) :
    wpAny (model row.prog w) (ktrTop dp un gd cn cs L a ccd cl outer) (call (.ref 71) [.str x t]) Q E s := by
  revert X
  k_fill
  intro X
  refine wpAny_call ?_
  k_dflt k_extra "ktr_enter"
  k_steps
  all_goals exact hret _ _ _ (by k_asm) (by k_asm)
theorem c_safe_bytes (B : Below A₀ base outer h₀) (F : Fr h₀ L s.heap m) (X : (hd.heap_1 w.params).In h₀) (N : News h₀ L s.heap news) (T : Top tp tl mean mg mb h₀) (hk : cs.kind = .function) (hdp : dp + 1 < recursionLimit) (hun : un + 8 < cLine) {t : Tok}
    (hret : ∀ t h' tk', Fr h₀ L h' m → News h₀ L h' news → Q (.str "ann" t) { s with heap := h', toks := tk' }) :
    wpAny (model row.prog w) (ktrTop dp un gd cn cs L a ccd cl outer) (call (.ref 71) [.bytes #[97, 110, 110] t]) Q E s := by
  revert X
  k_fill
  intro X
  refine wpAny_call ?_
  k_dflt k_extra "ktr_enter"
  k_steps
  all_goals exact hret _ _ _ (by k_asm) (by k_asm)
end Lw
end
section
theorem Lw.lay9 : True := by
  w_top off
  k_with_none
  k_with "ktr_enter" => (refine' code_def ?zk1 ?zk2 ?zk3 ?zk4 ?zk5 ?zkA ?zkF ?zkK ?zk6 ?zk7 ?zk8 ?zk9 ?zkB ?_ ?zc2 ?zc3 ?zc4 ?zc5; (case zkA => exact rfl); (case zkF => exact rfl); (case zkK => first | exact rfl | assumption); (case zk1 => k_asm); (case zk2 => k_asm); (case zk3 => k_asm); (case zk4 => k_asm); (case zk5 => k_asm); (case zk6 => k_is); (case zk7 => k_is); (case zk8 => ktr_room); (case zk9 => first | exact BindsTo.of_eq rfl | exact binds_K (by k_in) rfl (by k_is) rfl rfl rfl); (case zc5 => decide); (case zkB => exact locs rfl); (case zc2 => exact rfl); (case zc3 => exact rfl); (case zc4 => exact rfl); k_whole; intro g' L' h' FG' F' N' B' X' T'; (try dsimp only); (try k_fold))
  k_with "f_raise1" => ((case zB => k_asm); (case zF => k_asm); (case zX => k_asm); (case zN => k_asm); (case zT => k_asm); (case zhk => first | exact rfl | assumption); (case zd => ktr_room); (case zu => ktr_units))
  k_with "f_meansF" => (k_whole; intro t9 h9 tk9 F9 N9; (try dsimp only); (try k_fold))
  k_with "f_raise2" => ((case zF => k_asm); (case zX => k_asm); (case zN => k_asm); (case zI => exact Lw.ItemIn.mono (by assumption) (fun _ h => by (repeat (first | exact h | refine List.Mem.tail _ ?_)))))
  k_with "callWith ref" => (k_here; k_dflt (refine' callWith_K ?zk1 ?zk2 ?_; (case zk1 => k_asm); (case zk2 => k_is); k_whole))
  trivial
namespace Lw
open PyProof.Rows.LCg
section
variable {prog : Program} {w : World} {A : Around} {E : Value → Shared → Prop} {s : Shared} {h₀ : Heap} {L : Addr} {m : Str → Option Value} {env : Env}
theorem tup_st {ax I : Addr} {its : Array Value} (hT : IsTup h₀ ax its) : ∀ i (h h' : Heap) (o : Obj) (nw : List (Addr × Obj)), (h.IsTupleIter I ax i ∧ h.IsTuple ax its) → h.get? I = some o → h'.get? I = some o → (∀ b o, h₀.get? b = some o → h'.get? b = some o) → News h₀ L h' nw → True → (h'.IsTupleIter I ax i ∧ h'.IsTuple ax its) :=
  fun i h h' o nw st e e' k _ _ => ⟨by obtain ⟨o', q, r⟩ := st.1; rw [e] at q; cases q; exact ⟨o, e', r⟩, Heap.IsTuple.at hT fun o e => k ax o e⟩
theorem ListComp_Tup {elt iter : Expr} {x : Str} {px : Pos} {scope : Scope} {cl : List (Str × Addr)} {pos : Pos} {Q : Value → Shared → Prop} (F₀ : Fr h₀ L s.heap m)
    (hclos : closureFor scope env = pure cl) (hcell : ∀ y ∈ scope.names, y.2 ≠ .cell) (hkind : scope.kind = .function)
    (hnames : ∀ y ∈ scope.names, y.2 = .local → scope.names.lookup y.1 = some .local) (hx : scope.names.lookup x = some .local)
    (h : wpAny (model prog w) A (eval iter env) (fun xv s₁ => ∃ ax its news, xv = .ref ax ∧ A.handled = none ∧ Fr h₀ L s₁.heap m ∧ News h₀ L s₁.heap news ∧ IsTup h₀ ax its ∧ its.size ≤ sizeLine ∧
      ∀ s₂ : Shared, (∃ h, s₂ = { s₁ with heap := h }) → CompRest prog w A h₀ L m env elt x scope cl s₂ (fun _ => True) (fun i v => its[i]? = some v) (FinE h₀ L m s₂ Q) its.size 0 [] news) E s)
    (hs : ∀ x, foldedSetIterable iter env x = pure x := by intro _; rfl) :
    wpAny (model prog w) A (eval (.ListComp elt [⟨.Name x px, iter, [], 0⟩] scope pos) env) Q E s := by
  rw [eval_ListComp]
  refine wpAny_comprehension_free (use := none) rfl hs hclos hkind hnames (wpAny_mono h (fun xv s₁ h₁ => ?_) fun _ _ e => e)
  obtain ⟨ax, its, news, rfl, hh, F, N, hT, hsz, R⟩ := h₁
  have hl : s₁.heap.IsTuple ax its := Heap.IsTuple.at hT fun o e => F.keep ax o e
  have hlt : ax < s₁.heap.objs.size := by obtain ⟨_, e, _⟩ := hl; exact Heap.lt_size e
  refine wpAny_pyIter_tuple hl ?_
  have up : ∀ b o, s₁.heap.get? b = some o → (s₁.heap.push { cls := .type "tuple_iterator", data := .fields #[.ref ax, .int 0 0] }).get? b = some o := fun b o e => Heap.get?_push_of_some _ e
  refine block_U (Walks.tuple hh s₁.heap.objs.size ax (Nat.ne_of_lt hlt) its) hsz (fun i h st => by obtain ⟨o, e, _⟩ := st.1; exact ⟨o, e⟩) (tup_st hT) hcell hkind hx ⟨⟨_, Heap.get?_push_size _ rfl, rfl, rfl⟩, Heap.IsTuple.at hl fun o e => up ax o e⟩ (fun b hb => ?_)
      (F.keeps up) (N.grown up) (Nat.ne_of_lt F.ns.lt) (next_is_new F) (fun p hp => Nat.ne_of_lt (Heap.lt_size (N p hp).1)) trivial (R _ ⟨_, rfl⟩) ?_
  · show b < (s₁.heap.push _).objs.size
    rw [Heap.size_push]
    rcases List.mem_cons.mp hb with rfl | hb
    · exact Nat.lt_succ_self _
    · rw [List.mem_singleton.mp hb]; exact Nat.lt_succ_of_lt hlt
  · intro D C h tk m' ys news' F' N' o1 hn hC₀ hD₀ hCL hDL hCD offC fin
    refine ⟨m', hn, fun h'' hs'' => fin D h'' tk (F'.change hs'' hCL hC₀) (fun p hp => ?_) o1⟩
    refine ⟨hs''.extBut _ _ ?_ (N' p hp).1, (N' p hp).2⟩
    rcases List.mem_cons.mp hp with rfl | hp
    · exact Ne.symm hCD
    · exact offC p hp
end
end Lw
theorem Lw.lay10 : True := by
  w_top off
  k_with_none
  k_with "ktr_enter" => (refine' code_def ?zk1 ?zk2 ?zk3 ?zk4 ?zk5 ?zkA ?zkF ?zkK ?zk6 ?zk7 ?zk8 ?zk9 ?zkB ?_ ?zc2 ?zc3 ?zc4 ?zc5; (case zkA => exact rfl); (case zkF => exact rfl); (case zkK => first | exact rfl | assumption); (case zk1 => k_asm); (case zk2 => k_asm); (case zk3 => k_asm); (case zk4 => k_asm); (case zk5 => k_asm); (case zk6 => k_is); (case zk7 => k_is); (case zk8 => ktr_room); (case zk9 => first | exact BindsTo.of_eq rfl | exact binds_K (by k_in) rfl (by k_is) rfl rfl rfl); (case zc5 => decide); (case zkB => exact locs rfl); (case zc2 => exact rfl); (case zc3 => exact rfl); (case zc4 => exact rfl); k_whole; intro g' L' h' FG' F' N' B' X' T'; (try dsimp only); (try k_fold))
  k_with "f_raise1" => ((case zB => k_asm); (case zF => k_asm); (case zX => k_asm); (case zN => k_asm); (case zT => k_asm); (case zhk => first | exact rfl | assumption); (case zd => ktr_room); (case zu => ktr_units))
  k_with "f_meansF" => (k_whole; intro t9 h9 tk9 F9 N9; (try dsimp only); (try k_fold))
  k_with "f_raise2" => ((case zF => k_asm); (case zX => k_asm); (case zN => k_asm); (case zI => exact Lw.ItemIn.mono (by assumption) (fun _ h => by (repeat (first | exact h | refine List.Mem.tail _ ?_)))))
  k_with "callWith ref" => (k_here; k_dflt (refine' callWith_K ?zk1 ?zk2 ?_; (case zk1 => k_asm); (case zk2 => k_is); k_whole))
  trivial
namespace Lw
open PyProof.Rows.LCg
/-- what safe_string takes here, and what it makes of it -/
inductive SafeArg : Value → Str → Prop
  | str (x : Str) (t : Tok) : SafeArg (.str x t) x
  | int (i : Int) (t : Tok) (h : 0 ≤ i ∧ i < 10) : SafeArg (.int i t) (Str.ofString (toString i))
  | ann (t : Tok) : SafeArg (.bytes #[97, 110, 110] t) "ann"
inductive SafeArgs : List Value → List Str → Prop
  | nil : SafeArgs [] []
  | cons {v : Value} {p : Str} {l : List Value} {ps : List Str} (h : SafeArg v p) (r : SafeArgs l ps) : SafeArgs (v :: l) (p :: ps)
theorem SafeArgs.at : ∀ {l : List Value} {ps : List Str}, SafeArgs l ps → ∀ {i : Nat} {v : Value}, l[i]? = some v → ∃ p, ps[i]? = some p ∧ SafeArg v p
  | _, _, .nil, i, v, h => by simp at h
  | _, _, .cons (v := v0) (p := p0) h r, 0, v, e => by
    simp only [List.getElem?_cons_zero, Option.some.injEq] at e
    exact ⟨p0, by simp, e ▸ h⟩
  | _, _, .cons h r, i + 1, v, e => by
    simp only [List.getElem?_cons_succ] at e ⊢
    exact r.at e
theorem SafeArgs.len : ∀ {l : List Value} {ps : List Str}, SafeArgs l ps → l.length = ps.length
  | _, _, .nil => rfl
  | _, _, .cons _ r => congrArg (· + 1) r.len
theorem strsAre_snoc {y : Str} {t : Tok} : ∀ {vs : List Value} {ys : List Str}, StrsAre vs ys → StrsAre (vs ++ [.str y t]) (ys ++ [y]) := kct_snoc
variable {w : World} {tp : Program} {tl : List Str} {mean : ExcName → Option Value} {mg mb : Str → Option Value} {dp un : Nat} {gd : Option (List Code)} {cn : Str} {cs : Scope} {a : Addr} {ccd : Value} {cl : List (Str × Addr)} {outer : List Env} {A₀ : Around} {base h₀ : Heap} {L : Addr} {m : Str → Option Value} {news : List (Addr × Obj)} {s : Shared} {Q E : Value → Shared → Prop}
theorem dg_len {i : Int} (h : 0 ≤ i ∧ i < 10) : (Str.ofString (toString i)).length = 1 := by
  obtain ⟨n, rfl⟩ := Int.eq_ofNat_of_zero_le h.1
  have e : n < 10 := by omega
  clear h
  revert n; decide +kernel
theorem Wn_len (k : Wn) : k.nm.length ≤ 6 := by cases k <;> decide +kernel
theorem c_safe (B : Below A₀ base outer h₀) (F : Fr h₀ L s.heap m) (X : (hd.heap_1 w.params).In h₀) (N : News h₀ L s.heap news) (T : Top tp tl mean mg mb h₀) (hk : cs.kind = .function) (hdp : dp + 1 < recursionLimit) (hun : un + 8 < cLine) {v : Value} {p : Str} (hv : SafeArg v p)
    (hret : ∀ t h' tk', Fr h₀ L h' m → News h₀ L h' news → Q (.str p t) { s with heap := h', toks := tk' }) :
    wpAny (model row.prog w) (ktrTop dp un gd cn cs L a ccd cl outer) (call (.ref 71) [v]) Q E s := by
  cases hv with
  | str x t => exact c_safe_str B F X N T hk hdp hun hret
  | int i t h => exact c_safe_int B F X N T hk hdp hun h hret
  | ann t => exact c_safe_bytes B F X N T hk hdp hun hret
theorem comp_strs {prog : Program} {A : Around} {env : Env} {elt : Expr} {x : Str} {scope : Scope} {cl : List (Str × Addr)} {l : List Value} {ps : List Str} (hS : SafeArgs l ps)
    (turn : ∀ v p I oI oC C D oD m₂ h tk (Q' E' : Value → Shared → Prop), SafeArg v p → NsObj oC m₂ → m₂ x = some v → Fr h₀ L h m → News h₀ L h ((I, oI) :: (C, oC) :: (D, oD) :: news) →
      (∀ t h' tk', Fr h₀ L h' m → News h₀ L h' ((I, oI) :: (C, oC) :: (D, oD) :: news) → Q' (.str p t) { s with heap := h', toks := tk' }) → wpAny (model prog w) A (eval elt (compEnvC scope cl C env)) Q' E' { s with heap := h, toks := tk })
    (fin : ∀ ys D h tk, StrsAre ys ps → ys.length ≤ l.length → Fr h₀ L h m → News h₀ L h ((D, lst ys) :: news) → Off1 D news → Q (.ref D) { s with heap := h, toks := tk }) :
    ∀ k i ys, i + k = l.length → StrsAre ys (ps.take i) → CompRest prog w A h₀ L m env elt x scope cl s (fun _ => True) (fun i v => (l.toArray)[i]? = some v) (FinE h₀ L m s Q) k i ys news
  | 0, i, ys, e, hy => .zero fun D h tk F N o => by
    have e' : ps.take i = ps := List.take_of_length_le (by rw [← hS.len]; omega)
    rw [e'] at hy
    exact fin ys D h tk hy (by rw [hy.length, hS.len]; exact Nat.le_refl _) F N o
  | k + 1, i, ys, e, hy => .succ fun v I oI C oC D m₂ h tk E' hP hC hx F N off ne => by
    have hP' : l[i]? = some v := by simpa using hP
    obtain ⟨p, hp, hv⟩ := hS.at hP'
    refine turn v p I oI oC C D (lst ys) m₂ h tk _ E' hv hC hx F N fun t h' tk' F' N' => ?_
    refine CompEnd.intro F' N' news (fun q hq => hq) off trivial ?_
    refine comp_strs hS turn fin k (i + 1) (ys ++ [.str p t]) (by omega) ?_
    have : ps.take (i + 1) = ps.take i ++ [p] := by rw [List.take_add_one, hp]; rfl
    rw [this]; exact strsAre_snoc hy
end Lw
end
section
theorem Lw.lay11 : True := by
  w_top off
  k_with_none
  k_with "ktr_enter" => (refine' code_def ?zk1 ?zk2 ?zk3 ?zk4 ?zk5 ?zkA ?zkF ?zkK ?zk6 ?zk7 ?zk8 ?zk9 ?zkB ?_ ?zc2 ?zc3 ?zc4 ?zc5; (case zkA => exact rfl); (case zkF => exact rfl); (case zkK => first | exact rfl | assumption); (case zk1 => k_asm); (case zk2 => k_asm); (case zk3 => k_asm); (case zk4 => k_asm); (case zk5 => k_asm); (case zk6 => k_is); (case zk7 => k_is); (case zk8 => ktr_room); (case zk9 => first | exact BindsTo.of_eq rfl | exact binds_K (by k_in) rfl (by k_is) rfl rfl rfl); (case zc5 => decide); (case zkB => exact locs rfl); (case zc2 => exact rfl); (case zc3 => exact rfl); (case zc4 => exact rfl); k_whole; intro g' L' h' FG' F' N' B' X' T'; (try dsimp only); (try k_fold))
  k_with "f_raise1" => ((case zB => k_asm); (case zF => k_asm); (case zX => k_asm); (case zN => k_asm); (case zT => k_asm); (case zhk => first | exact rfl | assumption); (case zd => ktr_room); (case zu => ktr_units))
  k_with "f_meansF" => (k_whole; intro t9 h9 tk9 F9 N9; (try dsimp only); (try k_fold))
  k_with "f_raise2" => ((case zF => k_asm); (case zX => k_asm); (case zN => k_asm); (case zI => exact Lw.ItemIn.mono (by assumption) (fun _ h => by (repeat (first | exact h | refine List.Mem.tail _ ?_)))))
  k_with "getAttr ref" => (k_here; (with_reducible show wpAny _ _ (getAttr (Value.ref _) (Str.ofString "amount") _) _ _ _); k_dflt (refine' Lw.it_amount ?zF ?zX ?zN ?zI ?_; k_extra "f_raise2"; k_whole; intro t'; (try dsimp only)))
  k_with "getAttr ref" => (k_here; (with_reducible show wpAny _ _ (getAttr (Value.ref _) (Str.ofString "multiples") _) _ _ _); k_dflt (refine' Lw.it_multiples ?zF ?zX ?zN ?zI ?_; k_extra "f_raise2"; k_whole; intro t'; (try dsimp only)))
  k_with "getAttr ref" => (k_here; (with_reducible show wpAny _ _ (getAttr (Value.ref _) (Str.ofString "namespace") _) _ _ _); k_dflt (refine' Lw.it_namespace ?zF ?zX ?zN ?zI ?_; k_extra "f_raise2"; k_whole; intro t'; (try dsimp only)))
  k_with "getAttr ref" => (k_here; (with_reducible show wpAny _ _ (getAttr (Value.ref _) (Str.ofString "GRANULARITY") _) _ _ _); k_dflt (refine' Lw.it_gran ?zF ?zX ?zN ?zI ?_; k_extra "f_raise2"; k_whole; (try dsimp only)))
  k_with "getMethod ref" => (k_here; (with_reducible show wpAny _ _ (getMethod (Value.ref _) (Str.ofString "key_for") _) _ _ _); k_dflt (refine' Lw.it_key_for ?zF ?zX ?zN ?zI ?_; k_extra "f_raise2"; k_whole; (try dsimp only)))
  k_with "getMethod ref" => (k_here; (with_reducible show wpAny _ _ (getMethod (Value.ref _) (Str.ofString "get_expiry") _) _ _ _); k_dflt (refine' Lw.it_get_expiry ?zF ?zX ?zN ?zI ?_; k_extra "f_raise2"; k_whole; (try dsimp only)))
  k_with "getAttr ref" => (k_here; (with_reducible show wpAny _ _ (getAttr (Value.ref (Lw.Wn.gr _)) (Str.ofString "seconds") _) _ _ _); k_dflt (refine' Lw.gr_sec ?zB ?zF ?zX ?zN ?zT ?zhk ?zd ?zu ?_; k_extra "f_raise1"; k_extra "f_meansF"))
  k_with "getAttr ref" => (k_here; (with_reducible show wpAny _ _ (getAttr (Value.ref (Lw.Wn.gr _)) (Str.ofString "name") _) _ _ _); k_dflt (refine' Lw.gr_nm ?zB ?zF ?zX ?zN ?zT ?zhk ?zd ?zu ?_; k_extra "f_raise1"; k_extra "f_meansF"))
  k_with "call ref" => (k_here; (with_reducible show wpAny _ _ (call (Value.ref _) [Value.int _ _]) _ _ _); k_dflt (refine' Lw.c_safe_int ?zB ?zF ?zX ?zN ?zT ?zhk ?zd ?zu ?zi ?_; k_extra "f_raise1"; (case zi => first | assumption | decide); k_extra "f_meansF"))
  k_with "call ref" => (k_here; (with_reducible show wpAny _ _ (call (Value.ref _) [Value.str _ _]) _ _ _); k_dflt (refine' Lw.c_safe_str ?zB ?zF ?zX ?zN ?zT ?zhk ?zd ?zu ?_; k_extra "f_raise1"; k_extra "f_meansF"))
  k_with "call ref" => (k_here; (with_reducible show wpAny _ _ (call (Value.ref _) [Value.bytes _ _]) _ _ _); k_dflt (refine' Lw.c_safe_bytes ?zB ?zF ?zX ?zN ?zT ?zhk ?zd ?zu ?_; k_extra "f_raise1"; k_extra "f_meansF"))
  k_with "eval ListComp" => (k_here; k_dflt (refine Lw.ListComp_Tup (F₀ := by k_asm) (by rfl) (by decide) (by rfl) (by decide) (by rfl) ?_))
  k_with "Exists" => (k_here; refine' ⟨_, _, _, rfl, rfl, ?zF, ?zN, ?zT, ?zz, ?zR⟩; (case zF => k_asm); (case zN => k_asm); (case zT => first | assumption | exact Fr.tup (by assumption) (by assumption)); (case zz => simp only [List.size_toArray]; exact Nat.le_trans (by assumption) (by decide)); (intro s2 hs2; obtain ⟨hp2, hs3⟩ := hs2; subst hs3; (try dsimp only); refine Lw.comp_strs (by assumption) ?zturn ?zfin _ 0 [] (by simp) .nil))
  k_with "call ref" => (k_here; (with_reducible show wpAny _ _ (call (Value.ref 71) [_]) _ _ _); k_dflt (refine' Lw.c_safe ?zB ?zF ?zX ?zN ?zT ?zhk ?zd ?zu ?zi ?_; (case zi => assumption); k_extra "f_raise1"; k_extra "f_meansF"))
  k_with "callWith ref" => (k_here; k_dflt (refine' callWith_K ?zk1 ?zk2 ?_; (case zk1 => k_asm); (case zk2 => k_is); k_whole))
  trivial
namespace Lw
structure Item.Ok (it : Item) : Prop where
  a : 0 ≤ it.a ∧ it.a < 10
  m : 0 ≤ it.m ∧ it.m < 10
  ns : it.ns = "LIMITER" ∨ it.ns = "api"
theorem key_sum {l : List Value} {ps : List Str} {it : Item} (hS : SafeArgs l ps) (ha : 0 ≤ it.a ∧ it.a < 10) (hm : 0 ≤ it.m ∧ it.m < 10) (hl : l.length ≤ 2) (hp : (ps.map (·.length)).sum ≤ 1000) :
    ((ps ++ [Str.ofString (toString it.a), Str.ofString (toString it.m), it.k.nm]).map (·.length)).sum + (ps ++ [Str.ofString (toString it.a), Str.ofString (toString it.m), it.k.nm]).length ≤ 1048576 := by
  have h1 := hS.len
  have h2 := dg_len ha
  have h3 := dg_len hm
  have h4 := Wn_len it.k
  simp only [List.map_append, List.sum_append, List.map_cons, List.map_nil, List.sum_cons, List.sum_nil, List.length_append, List.length_cons, List.length_nil]
  omega
theorem key_len {l : List Value} {ps : List Str} {it : Item} (hS : SafeArgs l ps) (ha : 0 ≤ it.a ∧ it.a < 10) (hm : 0 ≤ it.m ∧ it.m < 10) (hl : l.length ≤ 2) (hp : (ps.map (·.length)).sum ≤ 1000) :
    (Txt.join "/" (ps ++ [Str.ofString (toString it.a), Str.ofString (toString it.m), it.k.nm])).length ≤ 2000 := by
  have h0 := StrLaws.join_length_le "/" (ps ++ [Str.ofString (toString it.a), Str.ofString (toString it.m), it.k.nm])
  rw [← StrLaws.glued_eq_join] at h0
  refine Nat.le_trans h0 ?_
  have e : (Str.ofString "/").length = 1 := by decide
  rw [e]
  have h1 := hS.len
  have h2 := dg_len ha
  have h3 := dg_len hm
  have h4 := Wn_len it.k
  simp only [List.map_append, List.sum_append, List.map_cons, List.map_nil, List.sum_cons, List.sum_nil, List.length_append, List.length_cons, List.length_nil]
  omega
theorem ns_len {it : Item} (h : it.ns = "LIMITER" ∨ it.ns = "api") : it.ns.length ≤ 64 := by
  rcases h with h | h <;> rw [h] <;> decide
theorem newsSub {h₀ h : Heap} {L : Addr} {l l' : List (Addr × Obj)} (N : News h₀ L h l') (hs : ∀ p ∈ l, p ∈ l') : News h₀ L h l := fun p hp => N p (hs p hp)
theorem sub2 {x y : Addr × Obj} {l l' : List (Addr × Obj)} (h : ∀ p ∈ l, p ∈ l') : ∀ p ∈ x :: y :: l, p ∈ x :: y :: l' := fun p hp => (List.mem_cons.mp hp).elim (fun e => List.mem_cons.mpr (.inl e)) fun hp => (List.mem_cons.mp hp).elim (fun e => .tail _ (List.mem_cons.mpr (.inl e))) fun hp => .tail _ (.tail _ (h p hp))
noncomputable def Item.parts (it : Item) (ps : List Str) : List Str := it.ns :: (ps ++ [Str.ofString (toString it.a), Str.ofString (toString it.m), it.k.nm])
/-- the key of a limit with these names -/
noncomputable def Item.key (it : Item) (ps : List Str) : Str := Txt.join "/" (it.parts ps)
theorem key_eq (it : Item) (ps : List Str) : Str.empty ++ it.ns ++ "/" ++ Txt.join "/" (ps ++ [Str.ofString (toString it.a), Str.ofString (toString it.m), it.k.nm]) = it.key ps := by
  show _ = PySem.Builtin.Str.glued _ _
  rw [StrLaws.glued_eq_join]
  show _ ++ PySem.Builtin.Str.glued _ _ = _
  rw [StrLaws.glued_eq_join, PySem.Str.empty_append]
  unfold Item.parts
  cases ps <;> rfl
end Lw
theorem Lw.lay12 : True := by
  w_top off
  k_with_none
  k_with "ktr_enter" => (refine' code_def ?zk1 ?zk2 ?zk3 ?zk4 ?zk5 ?zkA ?zkF ?zkK ?zk6 ?zk7 ?zk8 ?zk9 ?zkB ?_ ?zc2 ?zc3 ?zc4 ?zc5; (case zkA => exact rfl); (case zkF => exact rfl); (case zkK => first | exact rfl | assumption); (case zk1 => k_asm); (case zk2 => k_asm); (case zk3 => k_asm); (case zk4 => k_asm); (case zk5 => k_asm); (case zk6 => k_is); (case zk7 => k_is); (case zk8 => ktr_room); (case zk9 => first | exact BindsTo.of_eq rfl | exact binds_K (by k_in) rfl (by k_is) rfl rfl rfl); (case zc5 => decide); (case zkB => exact locs rfl); (case zc2 => exact rfl); (case zc3 => exact rfl); (case zc4 => exact rfl); k_whole; intro g' L' h' FG' F' N' B' X' T'; (try dsimp only); (try k_fold))
  k_with "f_raise1" => ((case zB => k_asm); (case zF => k_asm); (case zX => k_asm); (case zN => k_asm); (case zT => k_asm); (case zhk => first | exact rfl | assumption); (case zd => ktr_room); (case zu => ktr_units))
  k_with "f_meansF" => (k_whole; intro t9 h9 tk9 F9 N9; (try dsimp only); (try k_fold))
  k_with "f_raise2" => ((case zF => k_asm); (case zX => k_asm); (case zN => k_asm); (case zI => exact Lw.ItemIn.mono (by assumption) (fun _ h => by (repeat (first | exact h | refine List.Mem.tail _ ?_)))))
  k_with "getAttr ref" => (k_here; (with_reducible show wpAny _ _ (getAttr (Value.ref _) (Str.ofString "amount") _) _ _ _); k_dflt (refine' Lw.it_amount ?zF ?zX ?zN ?zI ?_; k_extra "f_raise2"; k_whole; intro t'; (try dsimp only)))
  k_with "getAttr ref" => (k_here; (with_reducible show wpAny _ _ (getAttr (Value.ref _) (Str.ofString "multiples") _) _ _ _); k_dflt (refine' Lw.it_multiples ?zF ?zX ?zN ?zI ?_; k_extra "f_raise2"; k_whole; intro t'; (try dsimp only)))
  k_with "getAttr ref" => (k_here; (with_reducible show wpAny _ _ (getAttr (Value.ref _) (Str.ofString "namespace") _) _ _ _); k_dflt (refine' Lw.it_namespace ?zF ?zX ?zN ?zI ?_; k_extra "f_raise2"; k_whole; intro t'; (try dsimp only)))
  k_with "getAttr ref" => (k_here; (with_reducible show wpAny _ _ (getAttr (Value.ref _) (Str.ofString "GRANULARITY") _) _ _ _); k_dflt (refine' Lw.it_gran ?zF ?zX ?zN ?zI ?_; k_extra "f_raise2"; k_whole; (try dsimp only)))
  k_with "getMethod ref" => (k_here; (with_reducible show wpAny _ _ (getMethod (Value.ref _) (Str.ofString "key_for") _) _ _ _); k_dflt (refine' Lw.it_key_for ?zF ?zX ?zN ?zI ?_; k_extra "f_raise2"; k_whole; (try dsimp only)))
  k_with "getMethod ref" => (k_here; (with_reducible show wpAny _ _ (getMethod (Value.ref _) (Str.ofString "get_expiry") _) _ _ _); k_dflt (refine' Lw.it_get_expiry ?zF ?zX ?zN ?zI ?_; k_extra "f_raise2"; k_whole; (try dsimp only)))
  k_with "getAttr ref" => (k_here; (with_reducible show wpAny _ _ (getAttr (Value.ref (Lw.Wn.gr _)) (Str.ofString "seconds") _) _ _ _); k_dflt (refine' Lw.gr_sec ?zB ?zF ?zX ?zN ?zT ?zhk ?zd ?zu ?_; k_extra "f_raise1"; k_extra "f_meansF"))
  k_with "getAttr ref" => (k_here; (with_reducible show wpAny _ _ (getAttr (Value.ref (Lw.Wn.gr _)) (Str.ofString "name") _) _ _ _); k_dflt (refine' Lw.gr_nm ?zB ?zF ?zX ?zN ?zT ?zhk ?zd ?zu ?_; k_extra "f_raise1"; k_extra "f_meansF"))
  k_with "call ref" => (k_here; (with_reducible show wpAny _ _ (call (Value.ref _) [Value.int _ _]) _ _ _); k_dflt (refine' Lw.c_safe_int ?zB ?zF ?zX ?zN ?zT ?zhk ?zd ?zu ?zi ?_; k_extra "f_raise1"; (case zi => first | assumption | decide); k_extra "f_meansF"))
  k_with "call ref" => (k_here; (with_reducible show wpAny _ _ (call (Value.ref _) [Value.str _ _]) _ _ _); k_dflt (refine' Lw.c_safe_str ?zB ?zF ?zX ?zN ?zT ?zhk ?zd ?zu ?_; k_extra "f_raise1"; k_extra "f_meansF"))
  k_with "call ref" => (k_here; (with_reducible show wpAny _ _ (call (Value.ref _) [Value.bytes _ _]) _ _ _); k_dflt (refine' Lw.c_safe_bytes ?zB ?zF ?zX ?zN ?zT ?zhk ?zd ?zu ?_; k_extra "f_raise1"; k_extra "f_meansF"))
  k_with "eval ListComp" => (k_here; k_dflt (refine Lw.ListComp_Tup (F₀ := by k_asm) (by rfl) (by decide) (by rfl) (by decide) (by rfl) ?_))
  k_with "Exists" => (k_here; refine' ⟨_, _, _, rfl, rfl, ?zF, ?zN, ?zT, ?zz, ?zR⟩; (case zF => k_asm); (case zN => k_asm); (case zT => first | assumption | exact Fr.tup (by assumption) (by assumption)); (case zz => simp only [List.size_toArray]; exact Nat.le_trans (by assumption) (by decide)); (intro s2 hs2; obtain ⟨hp2, hs3⟩ := hs2; subst hs3; (try dsimp only); refine Lw.comp_strs (by assumption) ?zturn ?zfin _ 0 [] (by simp) .nil))
  k_with "call ref" => (k_here; (with_reducible show wpAny _ _ (call (Value.ref 71) [_]) _ _ _); k_dflt (refine' Lw.c_safe ?zB ?zF ?zX ?zN ?zT ?zhk ?zd ?zu ?zi ?_; (case zi => assumption); k_extra "f_raise1"; k_extra "f_meansF"))
  k_with "binaryOp Add ref ref" => (k_here; k_dflt (refine' add_arrays ?zF ?zN ?zl ?zb ?_ ?zz; (case zF => k_asm); (case zN => k_asm); (case zl => is_list); (case zb => is_list); (case zz => exact Nat.le_trans (m := 8) (by simp [LCg.lst] <;> omega) (by decide)); intro h9 F9 N9))
  k_with "call builtin:str.join" => (k_here; k_dflt (refine' join_listW ?zl ?zi (by decide) ?zz ?_; (case zl => is_list); (case zi => exact StrsAre.append' (by assumption) (.cons _ _ (.cons _ _ (.cons _ _ .nil)))); (case zz => exact Lw.key_sum (by assumption) (by assumption) (by assumption) (by assumption) (by assumption)); intro t9 tk9; have hj9 := Lw.key_len (by assumption) (by assumption) (by assumption) (by assumption) (by assumption)))
  k_with "callWith ref" => (k_here; k_dflt (refine' callWith_K ?zk1 ?zk2 ?_; (case zk1 => k_asm); (case zk2 => k_is); k_whole))
  trivial
namespace Lw
variable {w : World} {tp : Program} {tl : List Str} {mean : ExcName → Option Value} {mg mb : Str → Option Value} {dp un : Nat} {gd : Option (List Code)} {cn : Str} {cs : Scope} {a : Addr} {ccd : Value} {cl : List (Str × Addr)} {outer : List Env} {A₀ : Around} {base h₀ : Heap} {L : Addr} {m : Str → Option Value} {news : List (Addr × Obj)} {s : Shared} {Q E : Value → Shared → Prop}
theorem c_key (B : Below A₀ base outer h₀) (F : Fr h₀ L s.heap m) (X : (hd.heap_1 w.params).In h₀) (N : News h₀ L s.heap news) (T : Top tp tl mean mg mb h₀) (hk : cs.kind = .function) (hdp : dp + 4 < recursionLimit) (hun : un + 40 < cLine)
    {x nm : Addr} {it : Item} {l : List Value} {ps : List Str} (I : ItemIn w.params news x it) (ho : it.Ok) (hS : SafeArgs l ps) (hT : IsTup h₀ nm l.toArray) (hl : l.length ≤ 2) (hp : (ps.map (·.length)).sum ≤ 1000)
    (hret : ∀ t h' tk', Fr h₀ L h' m → News h₀ L h' news → Q (.str (it.key ps) t) { s with heap := h', toks := tk' }) :
    wpAny (model row.prog w) (ktrTop dp un gd cn cs L a ccd cl outer) (call (.ref 181) [.ref x, .ref nm]) Q E s := by
  obtain ⟨ha, hm, hns⟩ := ho
  have hnl := ns_len hns
  revert X
  k_fill
  intro X
  refine wpAny_call ?_
  k_dflt k_extra "ktr_enter"
  k_steps
  · (rename (∀ t h' tk', Fr _ _ h' _ → News _ _ h' _ → _) => q'); exact q' _ _ _ (by k_asm) (by k_asm)
  rw [key_eq]
  exact hret _ _ _ (by k_asm) (newsSub (by assumption) (fun _ h => by (repeat (first | exact h | refine List.Mem.tail _ ?_))))
end Lw
end
section
theorem Lw.lay13 : True := by
  w_top off
  k_with_none
  k_with "ktr_enter" => (refine' code_def ?zk1 ?zk2 ?zk3 ?zk4 ?zk5 ?zkA ?zkF ?zkK ?zk6 ?zk7 ?zk8 ?zk9 ?zkB ?_ ?zc2 ?zc3 ?zc4 ?zc5; (case zkA => exact rfl); (case zkF => exact rfl); (case zkK => first | exact rfl | assumption); (case zk1 => k_asm); (case zk2 => k_asm); (case zk3 => k_asm); (case zk4 => k_asm); (case zk5 => k_asm); (case zk6 => k_is); (case zk7 => k_is); (case zk8 => ktr_room); (case zk9 => first | exact BindsTo.of_eq rfl | exact binds_K (by k_in) rfl (by k_is) rfl rfl rfl); (case zc5 => decide); (case zkB => exact locs rfl); (case zc2 => exact rfl); (case zc3 => exact rfl); (case zc4 => exact rfl); k_whole; intro g' L' h' FG' F' N' B' X' T'; (try dsimp only); (try k_fold))
  k_with "f_raise1" => ((case zB => k_asm); (case zF => k_asm); (case zX => k_asm); (case zN => k_asm); (case zT => k_asm); (case zhk => first | exact rfl | assumption); (case zd => ktr_room); (case zu => ktr_units))
  k_with "f_meansF" => (k_whole; intro t9 h9 tk9 F9 N9; (try dsimp only); (try k_fold))
  k_with "f_raise2" => ((case zF => k_asm); (case zX => k_asm); (case zN => k_asm); (case zI => exact Lw.ItemIn.mono (by assumption) (fun _ h => by (repeat (first | exact h | refine List.Mem.tail _ ?_)))))
  k_with "getAttr ref" => (k_here; (with_reducible show wpAny _ _ (getAttr (Value.ref _) (Str.ofString "amount") _) _ _ _); k_dflt (refine' Lw.it_amount ?zF ?zX ?zN ?zI ?_; k_extra "f_raise2"; k_whole; intro t'; (try dsimp only)))
  k_with "getAttr ref" => (k_here; (with_reducible show wpAny _ _ (getAttr (Value.ref _) (Str.ofString "multiples") _) _ _ _); k_dflt (refine' Lw.it_multiples ?zF ?zX ?zN ?zI ?_; k_extra "f_raise2"; k_whole; intro t'; (try dsimp only)))
  k_with "getAttr ref" => (k_here; (with_reducible show wpAny _ _ (getAttr (Value.ref _) (Str.ofString "namespace") _) _ _ _); k_dflt (refine' Lw.it_namespace ?zF ?zX ?zN ?zI ?_; k_extra "f_raise2"; k_whole; intro t'; (try dsimp only)))
  k_with "getAttr ref" => (k_here; (with_reducible show wpAny _ _ (getAttr (Value.ref _) (Str.ofString "GRANULARITY") _) _ _ _); k_dflt (refine' Lw.it_gran ?zF ?zX ?zN ?zI ?_; k_extra "f_raise2"; k_whole; (try dsimp only)))
  k_with "getMethod ref" => (k_here; (with_reducible show wpAny _ _ (getMethod (Value.ref _) (Str.ofString "key_for") _) _ _ _); k_dflt (refine' Lw.it_key_for ?zF ?zX ?zN ?zI ?_; k_extra "f_raise2"; k_whole; (try dsimp only)))
  k_with "getMethod ref" => (k_here; (with_reducible show wpAny _ _ (getMethod (Value.ref _) (Str.ofString "get_expiry") _) _ _ _); k_dflt (refine' Lw.it_get_expiry ?zF ?zX ?zN ?zI ?_; k_extra "f_raise2"; k_whole; (try dsimp only)))
  k_with "getAttr ref" => (k_here; (with_reducible show wpAny _ _ (getAttr (Value.ref (Lw.Wn.gr _)) (Str.ofString "seconds") _) _ _ _); k_dflt (refine' Lw.gr_sec ?zB ?zF ?zX ?zN ?zT ?zhk ?zd ?zu ?_; k_extra "f_raise1"; k_extra "f_meansF"))
  k_with "getAttr ref" => (k_here; (with_reducible show wpAny _ _ (getAttr (Value.ref (Lw.Wn.gr _)) (Str.ofString "name") _) _ _ _); k_dflt (refine' Lw.gr_nm ?zB ?zF ?zX ?zN ?zT ?zhk ?zd ?zu ?_; k_extra "f_raise1"; k_extra "f_meansF"))
  k_with "call ref" => (k_here; (with_reducible show wpAny _ _ (call (Value.ref _) [Value.int _ _]) _ _ _); k_dflt (refine' Lw.c_safe_int ?zB ?zF ?zX ?zN ?zT ?zhk ?zd ?zu ?zi ?_; k_extra "f_raise1"; (case zi => first | assumption | decide); k_extra "f_meansF"))
  k_with "call ref" => (k_here; (with_reducible show wpAny _ _ (call (Value.ref _) [Value.str _ _]) _ _ _); k_dflt (refine' Lw.c_safe_str ?zB ?zF ?zX ?zN ?zT ?zhk ?zd ?zu ?_; k_extra "f_raise1"; k_extra "f_meansF"))
  k_with "call ref" => (k_here; (with_reducible show wpAny _ _ (call (Value.ref _) [Value.bytes _ _]) _ _ _); k_dflt (refine' Lw.c_safe_bytes ?zB ?zF ?zX ?zN ?zT ?zhk ?zd ?zu ?_; k_extra "f_raise1"; k_extra "f_meansF"))
  k_with "callWith ref" => (k_here; k_dflt (refine' callWith_K ?zk1 ?zk2 ?_; (case zk1 => k_asm); (case zk2 => k_is); k_whole))
  trivial
namespace Lw
noncomputable def Item.show (it : Item) : Str := Str.ofString (toString it.a) ++ " per " ++ Str.ofString (toString it.m) ++ " " ++ it.k.nm
noncomputable def Wn.says (k : Wn) (x : Str) : Bool := false || decide (Txt.lower x = k.nm) || decide (Txt.lower x = k.nm ++ "s")
theorem cls_gran {w : World} {A : Around} {E : Value → Shared → Prop} {s : Shared} {h₀ : Heap} {L : Addr} {m : Str → Option Value} {k : Wn} {expr : Bool} {Q : Value → Shared → Prop} (F : Fr h₀ L s.heap m) (X : (hd.heap_1 w.params).In h₀) (hq : Q (.ref k.gr) { s with toks := s.toks + 1 }) : wpAny (model row.prog w) A (getAttr (.ref k.cls) "GRANULARITY" expr) Q E s := by
  revert X
  k_fill
  intro X
  cases k <;> (dsimp only [Wn.cls]; refine' cls_val F X ?k1 ?k2 ?k3 ?k4 hq; (case k1 => k_is); (case k2 => k_is); (case k3 => show _ = some (CFound.val (Value.ref _)); dsimp only [Wn.gr]; k_is); (case k4 => rfl))
end Lw
theorem Lw.lay14 : True := by
  k_with "getAttr ref" => (k_here; (with_reducible show wpAny _ _ (getAttr (Value.ref (Lw.Wn.cls _)) (Str.ofString "GRANULARITY") _) _ _ _); k_dflt (refine' Lw.cls_gran ?zF ?zX ?_; (case zF => k_asm); (case zX => k_asm); k_whole; (try dsimp only)))
  trivial
theorem Lw.lay15 : True := by
  w_top off
  k_with_none
  k_with "ktr_enter" => (refine' code_def ?zk1 ?zk2 ?zk3 ?zk4 ?zk5 ?zkA ?zkF ?zkK ?zk6 ?zk7 ?zk8 ?zk9 ?zkB ?_ ?zc2 ?zc3 ?zc4 ?zc5; (case zkA => exact rfl); (case zkF => exact rfl); (case zkK => first | exact rfl | assumption); (case zk1 => k_asm); (case zk2 => k_asm); (case zk3 => k_asm); (case zk4 => k_asm); (case zk5 => k_asm); (case zk6 => k_is); (case zk7 => k_is); (case zk8 => ktr_room); (case zk9 => first | exact BindsTo.of_eq rfl | exact binds_K (by k_in) rfl (by k_is) rfl rfl rfl); (case zc5 => decide); (case zkB => exact locs rfl); (case zc2 => exact rfl); (case zc3 => exact rfl); (case zc4 => exact rfl); k_whole; intro g' L' h' FG' F' N' B' X' T'; (try dsimp only); (try k_fold))
  k_with "f_raise1" => ((case zB => k_asm); (case zF => k_asm); (case zX => k_asm); (case zN => k_asm); (case zT => k_asm); (case zhk => first | exact rfl | assumption); (case zd => ktr_room); (case zu => ktr_units))
  k_with "f_meansF" => (k_whole; intro t9 h9 tk9 F9 N9; (try dsimp only); (try k_fold))
  k_with "f_raise2" => ((case zF => k_asm); (case zX => k_asm); (case zN => k_asm); (case zI => exact Lw.ItemIn.mono (by assumption) (fun _ h => by (repeat (first | exact h | refine List.Mem.tail _ ?_)))))
  k_with "getAttr ref" => (k_here; (with_reducible show wpAny _ _ (getAttr (Value.ref _) (Str.ofString "amount") _) _ _ _); k_dflt (refine' Lw.it_amount ?zF ?zX ?zN ?zI ?_; k_extra "f_raise2"; k_whole; intro t'; (try dsimp only)))
  k_with "getAttr ref" => (k_here; (with_reducible show wpAny _ _ (getAttr (Value.ref _) (Str.ofString "multiples") _) _ _ _); k_dflt (refine' Lw.it_multiples ?zF ?zX ?zN ?zI ?_; k_extra "f_raise2"; k_whole; intro t'; (try dsimp only)))
  k_with "getAttr ref" => (k_here; (with_reducible show wpAny _ _ (getAttr (Value.ref _) (Str.ofString "namespace") _) _ _ _); k_dflt (refine' Lw.it_namespace ?zF ?zX ?zN ?zI ?_; k_extra "f_raise2"; k_whole; intro t'; (try dsimp only)))
  k_with "getAttr ref" => (k_here; (with_reducible show wpAny _ _ (getAttr (Value.ref _) (Str.ofString "GRANULARITY") _) _ _ _); k_dflt (refine' Lw.it_gran ?zF ?zX ?zN ?zI ?_; k_extra "f_raise2"; k_whole; (try dsimp only)))
  k_with "getMethod ref" => (k_here; (with_reducible show wpAny _ _ (getMethod (Value.ref _) (Str.ofString "key_for") _) _ _ _); k_dflt (refine' Lw.it_key_for ?zF ?zX ?zN ?zI ?_; k_extra "f_raise2"; k_whole; (try dsimp only)))
  k_with "getMethod ref" => (k_here; (with_reducible show wpAny _ _ (getMethod (Value.ref _) (Str.ofString "get_expiry") _) _ _ _); k_dflt (refine' Lw.it_get_expiry ?zF ?zX ?zN ?zI ?_; k_extra "f_raise2"; k_whole; (try dsimp only)))
  k_with "getAttr ref" => (k_here; (with_reducible show wpAny _ _ (getAttr (Value.ref (Lw.Wn.gr _)) (Str.ofString "seconds") _) _ _ _); k_dflt (refine' Lw.gr_sec ?zB ?zF ?zX ?zN ?zT ?zhk ?zd ?zu ?_; k_extra "f_raise1"; k_extra "f_meansF"))
  k_with "getAttr ref" => (k_here; (with_reducible show wpAny _ _ (getAttr (Value.ref (Lw.Wn.gr _)) (Str.ofString "name") _) _ _ _); k_dflt (refine' Lw.gr_nm ?zB ?zF ?zX ?zN ?zT ?zhk ?zd ?zu ?_; k_extra "f_raise1"; k_extra "f_meansF"))
  k_with "call ref" => (k_here; (with_reducible show wpAny _ _ (call (Value.ref _) [Value.int _ _]) _ _ _); k_dflt (refine' Lw.c_safe_int ?zB ?zF ?zX ?zN ?zT ?zhk ?zd ?zu ?zi ?_; k_extra "f_raise1"; (case zi => first | assumption | decide); k_extra "f_meansF"))
  k_with "call ref" => (k_here; (with_reducible show wpAny _ _ (call (Value.ref _) [Value.str _ _]) _ _ _); k_dflt (refine' Lw.c_safe_str ?zB ?zF ?zX ?zN ?zT ?zhk ?zd ?zu ?_; k_extra "f_raise1"; k_extra "f_meansF"))
  k_with "call ref" => (k_here; (with_reducible show wpAny _ _ (call (Value.ref _) [Value.bytes _ _]) _ _ _); k_dflt (refine' Lw.c_safe_bytes ?zB ?zF ?zX ?zN ?zT ?zhk ?zd ?zu ?_; k_extra "f_raise1"; k_extra "f_meansF"))
  k_with "getAttr ref" => (k_here; (with_reducible show wpAny _ _ (getAttr (Value.ref (Lw.Wn.cls _)) (Str.ofString "GRANULARITY") _) _ _ _); k_dflt (refine' Lw.cls_gran ?zF ?zX ?_; (case zF => k_asm); (case zX => k_asm); k_whole; (try dsimp only)))
  k_with "callWith ref" => (k_here; k_dflt (refine' callWith_K ?zk1 ?zk2 ?_; (case zk1 => k_asm); (case zk2 => k_is); k_whole))
  trivial
namespace Lw
variable {w : World} {tp : Program} {tl : List Str} {mean : ExcName → Option Value} {mg mb : Str → Option Value} {dp un : Nat} {gd : Option (List Code)} {cn : Str} {cs : Scope} {a : Addr} {ccd : Value} {cl : List (Str × Addr)} {outer : List Env} {A₀ : Around} {base h₀ : Heap} {L : Addr} {m : Str → Option Value} {news : List (Addr × Obj)} {s : Shared} {Q E : Value → Shared → Prop}
theorem c_repr (B : Below A₀ base outer h₀) (F : Fr h₀ L s.heap m) (X : (hd.heap_1 w.params).In h₀) (N : News h₀ L s.heap news) (T : Top tp tl mean mg mb h₀) (hk : cs.kind = .function) (hdp : dp + 3 < recursionLimit) (hun : un + 24 < cLine) {x : Addr} {it : Item} (I : ItemIn w.params news x it) (ho : it.Ok)
    (hret : ∀ t h' tk', Fr h₀ L h' m → News h₀ L h' news → Q (.str (it.show) t) { s with heap := h', toks := tk' }) :
    wpAny (model row.prog w) (ktrTop dp un gd cn cs L a ccd cl outer) (call (.ref 195) [.ref x]) Q E s := by
  obtain ⟨ha, hm, hns⟩ := ho
  have h1 := Wn_len it.k
  have h2 := dg_len ha
  have h3 := dg_len hm
  revert X
  k_fill
  intro X
  refine wpAny_call ?_
  k_dflt k_extra "ktr_enter"
  k_steps
  all_goals rw [PySem.Str.empty_append]
  all_goals exact hret _ _ _ (by k_asm) (by k_asm)
theorem c_checkC (B : Below A₀ base outer h₀) (F : Fr h₀ L s.heap m) (X : (hd.heap_1 w.params).In h₀) (N : News h₀ L s.heap news) (T : Top tp tl mean mg mb h₀) (hk : cs.kind = .function) (hdp : dp + 3 < recursionLimit) (hun : un + 24 < cLine) {k : Wn} {x : Str} {t : Tok} (hx : x.length ≤ 64)
    (hret : ∀ h' tk', Fr h₀ L h' m → News h₀ L h' news → Q (.bool (k.says x)) { s with heap := h', toks := tk' }) :
    codeAny (model row.prog w) (ktrTop dp un gd cn cs L a ccd cl outer) (.call (.ref 164) ⟨[.ref k.cls, .str x t], []⟩) (fun r s' => match r with | .ok (.ret v) => Q v s' | .ok _ => False | .error e => E e s') s := by
  have h1 := Wn_len k
  revert X
  k_fill
  intro X
  k_dflt k_extra "ktr_enter"
  k_steps
  all_goals rw [PySem.Str.empty_append]
  all_goals exact hret _ _ (by k_asm) (newsSub (by assumption) (fun _ h => by (repeat (first | exact h | refine List.Mem.tail _ ?_))))
theorem c_check (B : Below A₀ base outer h₀) (F : Fr h₀ L s.heap m) (X : (hd.heap_1 w.params).In h₀) (N : News h₀ L s.heap news) (T : Top tp tl mean mg mb h₀) (hk : cs.kind = .function) (hdp : dp + 3 < recursionLimit) (hun : un + 24 < cLine) {k : Wn} {x : Str} {t : Tok} (hx : x.length ≤ 64)
    (hret : ∀ h' tk', Fr h₀ L h' m → News h₀ L h' news → Q (.bool (k.says x)) { s with heap := h', toks := tk' }) :
    wpAny (model row.prog w) (ktrTop dp un gd cn cs L a ccd cl outer) (call (.ref 164) [.ref k.cls, .str x t]) Q E s := by
  exact wpAny_call (c_checkC B F X N T hk hdp hun hx hret)
theorem c_checkM (B : Below A₀ base outer h₀) (F : Fr h₀ L s.heap m) (X : (hd.heap_1 w.params).In h₀) (N : News h₀ L s.heap news) (T : Top tp tl mean mg mb h₀) (hk : cs.kind = .function) (hdp : dp + 3 < recursionLimit) (hun : un + 24 < cLine) {k : Wn} {x : Str} {t : Tok} {q : Addr} (hx : x.length ≤ 64) (hq : (q, methodObj (.ref 164) (.ref k.cls)) ∈ news)
    (hret : ∀ h' tk', Fr h₀ L h' m → News h₀ L h' news → Q (.bool (k.says x)) { s with heap := h', toks := tk' }) :
    wpAny (model row.prog w) (ktrTop dp un gd cn cs L a ccd cl outer) (call (.ref q) [.str x t]) Q E s := by
  exact call_meth N hq (c_checkC B F X N T hk hdp hun hx hret)
end Lw
end
section
theorem Lw.lay16 : True := by
  w_top off
  k_with_none
  k_with "ktr_enter" => (refine' code_def ?zk1 ?zk2 ?zk3 ?zk4 ?zk5 ?zkA ?zkF ?zkK ?zk6 ?zk7 ?zk8 ?zk9 ?zkB ?_ ?zc2 ?zc3 ?zc4 ?zc5; (case zkA => exact rfl); (case zkF => exact rfl); (case zkK => first | exact rfl | assumption); (case zk1 => k_asm); (case zk2 => k_asm); (case zk3 => k_asm); (case zk4 => k_asm); (case zk5 => k_asm); (case zk6 => k_is); (case zk7 => k_is); (case zk8 => ktr_room); (case zk9 => first | exact BindsTo.of_eq rfl | exact binds_K (by k_in) rfl (by k_is) rfl rfl rfl); (case zc5 => decide); (case zkB => exact locs rfl); (case zc2 => exact rfl); (case zc3 => exact rfl); (case zc4 => exact rfl); k_whole; intro g' L' h' FG' F' N' B' X' T'; (try dsimp only); (try k_fold))
  k_with "f_raise1" => ((case zB => k_asm); (case zF => k_asm); (case zX => k_asm); (case zN => k_asm); (case zT => k_asm); (case zhk => first | exact rfl | assumption); (case zd => ktr_room); (case zu => ktr_units))
  k_with "f_meansF" => (k_whole; intro t9 h9 tk9 F9 N9; (try dsimp only); (try k_fold))
  k_with "f_raise2" => ((case zF => k_asm); (case zX => k_asm); (case zN => k_asm); (case zI => exact Lw.ItemIn.mono (by assumption) (fun _ h => by (repeat (first | exact h | refine List.Mem.tail _ ?_)))))
  k_with "callWith ref" => (k_here; k_dflt (refine' callWith_K ?zk1 ?zk2 ?_; (case zk1 => k_asm); (case zk2 => k_is); k_whole))
  trivial
namespace Lw
section
variable {prog : Program} {w : World} {A : Around} {E : Value → Shared → Prop} {s : Shared} {K : Frag} {p q C : Addr} {o1 o2 : Obj} {d1 d2 : Option Obj} {n1 n2 : Nat}
/-- two pairs of an int and a str, instances of one own subclass of tuple -/
theorem eq_pairs {a b : Int} {x y : Str} {t1 t2 t3 t4 : Tok} {Q : Value → Shared → Prop} (X : K.In s.heap) (I1 : InstAt s.heap p o1 C d1) (I2 : InstAt s.heap q o2 C d2) (h1 : o1.data = .seq #[.int a t1, .str x t2] n1) (h2 : o2.data = .seq #[.int b t3, .str y t4] n2) (hm : mroIn K C (.type "tuple") = some true)
    (hf : findIn K (.ref C) "__eq__" = some (some (.builtin "tuple.__eq__"))) (hu : A.units < cLine) (h : Q (.bool (a == b && x == y)) s) :
    wpAny (model prog w) A (compareOp .Eq (.ref p) (.ref q)) Q E s := by
  obtain ⟨hh, g, d, t, os⟩ := s
  have L0 := I1.type (M := model prog w)
  have L0' := I2.type (M := model prog w)
  have L1 := looks_mroIn (M := model prog w) X hm
  have hx := I1.at_
  have hy := I2.at_
  dsimp only at hx hy L0 L0' L1
  have LC : Looks (model prog w) hh (checkBuiltinCall "tuple.__eq__" ⟨[.ref p, .ref q], []⟩) () := check_sub (id := "tuple.__eq__") (self := .ref p) (rest := [.ref q]) (owner := "tuple") (nm := "__eq__") (by decide +kernel) (by decide +kernel) L0 L1 (PySem.F.args_tuple_eq_2 (.ref p) (.ref q))
  have cal : ∀ Q' : Value → Shared → Prop, Q' (.bool (a == b && x == y)) ⟨hh, g, d, t, os⟩ → wpAny (model prog w) A (call (.builtin "tuple.__eq__") [.ref p, .ref q]) Q' E ⟨hh, g, d, t, os⟩ := by
    intro Q' h
    refine wpAny_call ?_
    refine codeAny_call_builtin (id := "tuple.__eq__") (args := ⟨[.ref p, .ref q], []⟩) (b := Builtin.«tuple.__eq__») PySem.F.slot_tuple_eq.plain PySem.F.entry_tuple_eq ?_
    refine Looks.at LC ?_
    have S1 : Looks (model prog w) hh (seqItems? (.ref p)) (some #[.int a t1, .str x t2]) := by
      intro A Q E s k q
      unfold seqItems?
      refine wpAny_bind (wpAny_loadPart (k _ _ hx) ?_)
      rw [h1]; exact wpAny_pure q
    have S2 : Looks (model prog w) hh (seqItems? (.ref q)) (some #[.int b t3, .str y t4]) := by
      intro A Q E s k q
      unfold seqItems?
      refine wpAny_bind (wpAny_loadPart (k _ _ hy) ?_)
      rw [h2]; exact wpAny_pure q
    unfold Builtin.«tuple.__eq__»
    show wpAny _ _ (isInstance (.ref q) (.type "tuple") >>= _) _ _ _
    refine wpAny_bind ?_
    have hi : Looks (model prog w) hh (isInstance (.ref q) (.type "tuple")) true := by unfold isInstance; exact L0'.andThen L1
    refine hi.here ?_
    simp only [Bool.not_true, Bool.false_eq_true, if_false]
    have T1 : Looks (model prog w) hh (Builtin.Tuple.tupleItemsOf (.ref p)) #[.int a t1, .str x t2] := by unfold Builtin.Tuple.tupleItemsOf; exact S1.andThen (Looks.of_pure rfl)
    have T2 : Looks (model prog w) hh (Builtin.Tuple.tupleItemsOf (.ref q)) #[.int b t3, .str y t4] := by unfold Builtin.Tuple.tupleItemsOf; exact S2.andThen (Looks.of_pure rfl)
    refine wpAny_bind (T1.here ?_)
    refine wpAny_bind (T2.here ?_)
    have E1 := PySem.SeqAt.EqAt.int_int (A := A.in1) (s := ⟨hh, g, d, t, os⟩) a t1 b t3
    have E2 := PySem.SeqAt.EqAt.str_str (A := A.in1) (s := ⟨hh, g, d, t, os⟩) x t2 y t4
    simp only [List.zip_cons_cons, List.zip_nil_right, List.forIn_cons, List.forIn_nil]
    refine wpAny_bind (wpAny_bind (wpAny_bind (E1 _ _ _ _ ?_)))
    cases hab : (a == b)
    · rw [hab] at h
      simp only [Bool.not_false, if_true]
      refine wpAny_bind ?_
      repeat lk
      exact h
    · rw [hab] at h
      simp only [Bool.not_true, Bool.false_eq_true, if_false]
      refine wpAny_pure ?_
      refine wpAny_bind (wpAny_bind (E2 _ _ _ _ ?_))
      cases hxy : (x == y)
      · rw [hxy] at h
        simp only [Bool.not_false, if_true]
        refine wpAny_bind ?_
        repeat lk
        exact h
      · rw [hxy] at h
        simp only [Bool.not_true, Bool.false_eq_true, if_false]
        repeat lk
        exact h
  refine cmp_ofEq ?_
  unfold richCompare
  simp only [oneThing_ref]
  refine wpAny_holding (wpAny_bind (wpAny_cRoomFor hu ?_))
  refine wpAny_bind (L0.here (wpAny_bind (L0'.here ?_)))
  simp only [bne_self_eq_false, Bool.false_eq_true, if_false, pure_bind]
  refine wpAny_bind ?_
  unfold tryCompare
  refine wpAny_bind ?_
  simp only [callSpecialIfBound?, bindSpecialIfBound?]
  refine wpAny_holding (wpAny_bind (wpAny_bind (wpAny_bind (L0.here ((looks_findIn X hf).here ?_)))))
  simp only [PySem.F.slot_tuple_eq.bind]
  refine wpAny_bind (wpAny_askSetting (wpAny_ite ?_))
  split
  · refine wpAny_bind (wpAny_pure (wpAny_pure ?_))
    refine wpAny_bind (cal _ ?_)
    exact wpAny_pure (wpAny_pure (wpAny_pure h))
  · refine wpAny_tryCatch (wpAny_bind (wpAny_pure (wpAny_pure ?_)))
    refine wpAny_bind (cal _ ?_)
    exact wpAny_pure (wpAny_pure (wpAny_pure h))
end
end Lw
namespace Lw
section
variable {w : World} {A : Around} {E : Value → Shared → Prop} {s : Shared} {h₀ : Heap} {L : Addr} {m : Str → Option Value}
theorem gr_inst {P : Params} {h : Heap} {G : Addr} {i : Int} {x : Str} {dx : Addr} {t t' : Tok} {n : Nat} {od : Obj} {K : Frag} (X : K.In h) (h1 : K.lookup G = some ⟨.ref 139, some dx, .seq #[.int i t, .str x t'] n, #[]⟩) (h2 : K.lookup dx = some od) : InstAt h G ⟨.ref 139, some dx, .seq #[.int i t, .str x t'] n, #[]⟩ 139 (some od) := by
  exact ⟨X _ _ h1, rfl, rfl, X _ _ h2⟩
theorem gr_eq {k k' : Wn} {Q : Value → Shared → Prop} (F : Fr h₀ L s.heap m) (X : (hd.heap_1 w.params).In h₀) (hu : A.units < cLine) (h : Q (.bool (k.sec == k'.sec && k.nm == k'.nm)) s) : wpAny (model row.prog w) A (compareOp .Eq (.ref k.gr) (.ref k'.gr)) Q E s := by
  obtain ⟨d1, t1, t2, n1, od1, a1, a2⟩ := gr_at w k
  obtain ⟨d2, t3, t4, n2, od2, b1, b2⟩ := gr_at w k'
  have X' := X.keeps F.keep
  have I1 := gr_inst (P := w.params) X' a1 a2
  have I2 := gr_inst (P := w.params) X' b1 b2
  clear a1 a2 b1 b2
  revert X
  k_fill
  intro X
  exact eq_pairs X' I1 I2 rfl rfl (by k_is) (by k_is) hu h
end
end Lw
end
section
theorem Lw.lay17 : True := by
  w_top off
  k_with_none
  k_with "ktr_enter" => (refine' code_def ?zk1 ?zk2 ?zk3 ?zk4 ?zk5 ?zkA ?zkF ?zkK ?zk6 ?zk7 ?zk8 ?zk9 ?zkB ?_ ?zc2 ?zc3 ?zc4 ?zc5; (case zkA => exact rfl); (case zkF => exact rfl); (case zkK => first | exact rfl | assumption); (case zk1 => k_asm); (case zk2 => k_asm); (case zk3 => k_asm); (case zk4 => k_asm); (case zk5 => k_asm); (case zk6 => k_is); (case zk7 => k_is); (case zk8 => ktr_room); (case zk9 => first | exact BindsTo.of_eq rfl | exact binds_K (by k_in) rfl (by k_is) rfl rfl rfl); (case zc5 => decide); (case zkB => exact locs rfl); (case zc2 => exact rfl); (case zc3 => exact rfl); (case zc4 => exact rfl); k_whole; intro g' L' h' FG' F' N' B' X' T'; (try dsimp only); (try k_fold))
  k_with "f_raise1" => ((case zB => k_asm); (case zF => k_asm); (case zX => k_asm); (case zN => k_asm); (case zT => k_asm); (case zhk => first | exact rfl | assumption); (case zd => ktr_room); (case zu => ktr_units))
  k_with "f_meansF" => (k_whole; intro t9 h9 tk9 F9 N9; (try dsimp only); (try k_fold))
  k_with "f_raise2" => ((case zF => k_asm); (case zX => k_asm); (case zN => k_asm); (case zI => exact Lw.ItemIn.mono (by assumption) (fun _ h => by (repeat (first | exact h | refine List.Mem.tail _ ?_)))))
  k_with "callWith ref" => (k_here; k_dflt (refine' callWith_K ?zk1 ?zk2 ?_; (case zk1 => k_asm); (case zk2 => k_is); k_whole))
  trivial
namespace Lw
theorem Wn.eqs (k k' : Wn) : (k.sec == k'.sec && k.nm == k'.nm) = decide (k = k') := by cases k <;> cases k' <;> decide +kernel
section
variable {w : World} {A : Around} {E : Value → Shared → Prop} {s : Shared} {h₀ : Heap} {L : Addr} {m : Str → Option Value} {led : List (Addr × Obj)} {x : Addr} {it : Item} {Q : Value → Shared → Prop}
theorem it_inst (N : News h₀ L s.heap led) (I : ItemIn w.params led x it) : ∃ ox od, InstAt s.heap x ox it.k.cls (some od) := by
  obtain ⟨dx, t1, t2, t3, t4, t5, t6, h1, h2⟩ := I
  exact ⟨_, _, InstAt.of_news N h1 h2⟩
theorem isi_item (F : Fr h₀ L s.heap m) (X : (hd.heap_1 w.params).In h₀) (N : News h₀ L s.heap led) (I : ItemIn w.params led x it) (h : Q (.bool true) s) : wpAny (model row.prog w) A (call (.builtin "isinstance") [.ref x, .ref 205]) Q E s := by
  obtain ⟨ox, od, J⟩ := it_inst N I
  have X' := X.keeps F.keep
  clear I N
  revert X
  k_fill
  intro X
  obtain ⟨k, a', m', ns⟩ := it
  dsimp only at J
  cases k <;> (dsimp only [Wn.cls] at J; exact isi_call X' (fun M => J.type) (by k_is) (by intro e; cases e) h)
theorem it_meth (P : Params) (k : Wn) : findIn (hd.heap_1 P) (.ref k.cls) "__eq__" = some (some (.ref 188)) ∧ findIn (hd.heap_1 P) (.ref k.cls) "__lt__" = some (some (.ref 202)) ∧ isFn (hd.heap_1 P) (.ref 188) = true ∧ isFn (hd.heap_1 P) (.ref 202) = true := by
  suffices H : row = row → findIn (hd.heap_1 P) (.ref k.cls) "__eq__" = some (some (.ref 188)) ∧ findIn (hd.heap_1 P) (.ref k.cls) "__lt__" = some (some (.ref 202)) ∧ isFn (hd.heap_1 P) (.ref 188) = true ∧ isFn (hd.heap_1 P) (.ref 202) = true from H rfl
  k_fill
  intro _
  cases k <;> exact ⟨by dsimp only [Wn.cls]; k_is, by dsimp only [Wn.cls]; k_is, by k_is, by k_is⟩
theorem it_first (P : Params) (k k' : Wn) : notFirst (hd.heap_1 P) k.cls (.ref k'.cls) = true := by
  suffices H : row = row → notFirst (hd.heap_1 P) k.cls (.ref k'.cls) = true from H rfl
  k_fill
  intro _
  cases k <;> cases k' <;> (dsimp only [Wn.cls]; k_is)
theorem it_first' (P : Params) (k : Wn) : notFirst (hd.heap_1 P) k.cls (.type "int") = true ∧ notFirst (hd.heap_1 P) k.cls (.type "str") = true ∧ notFirst (hd.heap_1 P) k.cls (.type "tuple") = true := by
  suffices H : row = row → notFirst (hd.heap_1 P) k.cls (.type "int") = true ∧ notFirst (hd.heap_1 P) k.cls (.type "str") = true ∧ notFirst (hd.heap_1 P) k.cls (.type "tuple") = true from H rfl
  k_fill
  intro _
  cases k <;> exact ⟨by dsimp only [Wn.cls]; k_is, by dsimp only [Wn.cls]; k_is, by dsimp only [Wn.cls]; k_is⟩
theorem it_eq {b tb : Value} (hu : A.units < cLine) (F : Fr h₀ L s.heap m) (X : (hd.heap_1 w.params).In h₀) (N : News h₀ L s.heap led) (I : ItemIn w.params led x it) (hb : Looks (model row.prog w) s.heap (typeOf b) tb) (hn : notFirst (hd.heap_1 w.params) it.k.cls tb = true)
    (h : wpAny (model row.prog w) A (call (.ref 188) [.ref x, b]) (PySem.W.CmpBack Q) E s) : wpAny (model row.prog w) A (compareOp .Eq (.ref x) b) Q E s := by
  obtain ⟨ox, od, J⟩ := it_inst N I
  refine cmp_ofEq ?_
  exact cmp_K hu F X J hb hn (it_meth _ _).1 (it_meth _ it.k).2.2.1 h
theorem it_lt {b tb : Value} (hu : A.units < cLine) (F : Fr h₀ L s.heap m) (X : (hd.heap_1 w.params).In h₀) (N : News h₀ L s.heap led) (I : ItemIn w.params led x it) (hb : Looks (model row.prog w) s.heap (typeOf b) tb) (hn : notFirst (hd.heap_1 w.params) it.k.cls tb = true)
    (h : wpAny (model row.prog w) A (call (.ref 202) [.ref x, b]) (PySem.W.CmpBack Q) E s) : wpAny (model row.prog w) A (compareOp .Lt (.ref x) b) Q E s := by
  obtain ⟨ox, od, J⟩ := it_inst N I
  refine cmp_ofLt ?_
  exact cmp_K hu F X J hb hn (it_meth _ _).2.1 (it_meth _ it.k).2.2.2 h
end
end Lw
end
section
theorem Lw.lay18 : True := by
  w_top off
  k_with_none
  k_with "ktr_enter" => (refine' code_def ?zk1 ?zk2 ?zk3 ?zk4 ?zk5 ?zkA ?zkF ?zkK ?zk6 ?zk7 ?zk8 ?zk9 ?zkB ?_ ?zc2 ?zc3 ?zc4 ?zc5; (case zkA => exact rfl); (case zkF => exact rfl); (case zkK => first | exact rfl | assumption); (case zk1 => k_asm); (case zk2 => k_asm); (case zk3 => k_asm); (case zk4 => k_asm); (case zk5 => k_asm); (case zk6 => k_is); (case zk7 => k_is); (case zk8 => ktr_room); (case zk9 => first | exact BindsTo.of_eq rfl | exact binds_K (by k_in) rfl (by k_is) rfl rfl rfl); (case zc5 => decide); (case zkB => exact locs rfl); (case zc2 => exact rfl); (case zc3 => exact rfl); (case zc4 => exact rfl); k_whole; intro g' L' h' FG' F' N' B' X' T'; (try dsimp only); (try k_fold))
  k_with "f_raise1" => ((case zB => k_asm); (case zF => k_asm); (case zX => k_asm); (case zN => k_asm); (case zT => k_asm); (case zhk => first | exact rfl | assumption); (case zd => ktr_room); (case zu => ktr_units))
  k_with "f_meansF" => (k_whole; intro t9 h9 tk9 F9 N9; (try dsimp only); (try k_fold))
  k_with "f_raise2" => ((case zF => k_asm); (case zX => k_asm); (case zN => k_asm); (case zI => exact Lw.ItemIn.mono (by assumption) (fun _ h => by (repeat (first | exact h | refine List.Mem.tail _ ?_)))))
  k_with "getAttr ref" => (k_here; (with_reducible show wpAny _ _ (getAttr (Value.ref _) (Str.ofString "amount") _) _ _ _); k_dflt (refine' Lw.it_amount ?zF ?zX ?zN ?zI ?_; k_extra "f_raise2"; k_whole; intro t'; (try dsimp only)))
  k_with "getAttr ref" => (k_here; (with_reducible show wpAny _ _ (getAttr (Value.ref _) (Str.ofString "multiples") _) _ _ _); k_dflt (refine' Lw.it_multiples ?zF ?zX ?zN ?zI ?_; k_extra "f_raise2"; k_whole; intro t'; (try dsimp only)))
  k_with "getAttr ref" => (k_here; (with_reducible show wpAny _ _ (getAttr (Value.ref _) (Str.ofString "namespace") _) _ _ _); k_dflt (refine' Lw.it_namespace ?zF ?zX ?zN ?zI ?_; k_extra "f_raise2"; k_whole; intro t'; (try dsimp only)))
  k_with "getAttr ref" => (k_here; (with_reducible show wpAny _ _ (getAttr (Value.ref _) (Str.ofString "GRANULARITY") _) _ _ _); k_dflt (refine' Lw.it_gran ?zF ?zX ?zN ?zI ?_; k_extra "f_raise2"; k_whole; (try dsimp only)))
  k_with "getMethod ref" => (k_here; (with_reducible show wpAny _ _ (getMethod (Value.ref _) (Str.ofString "key_for") _) _ _ _); k_dflt (refine' Lw.it_key_for ?zF ?zX ?zN ?zI ?_; k_extra "f_raise2"; k_whole; (try dsimp only)))
  k_with "getMethod ref" => (k_here; (with_reducible show wpAny _ _ (getMethod (Value.ref _) (Str.ofString "get_expiry") _) _ _ _); k_dflt (refine' Lw.it_get_expiry ?zF ?zX ?zN ?zI ?_; k_extra "f_raise2"; k_whole; (try dsimp only)))
  k_with "getAttr ref" => (k_here; (with_reducible show wpAny _ _ (getAttr (Value.ref (Lw.Wn.gr _)) (Str.ofString "seconds") _) _ _ _); k_dflt (refine' Lw.gr_sec ?zB ?zF ?zX ?zN ?zT ?zhk ?zd ?zu ?_; k_extra "f_raise1"; k_extra "f_meansF"))
  k_with "getAttr ref" => (k_here; (with_reducible show wpAny _ _ (getAttr (Value.ref (Lw.Wn.gr _)) (Str.ofString "name") _) _ _ _); k_dflt (refine' Lw.gr_nm ?zB ?zF ?zX ?zN ?zT ?zhk ?zd ?zu ?_; k_extra "f_raise1"; k_extra "f_meansF"))
  k_with "call ref" => (k_here; (with_reducible show wpAny _ _ (call (Value.ref _) [Value.int _ _]) _ _ _); k_dflt (refine' Lw.c_safe_int ?zB ?zF ?zX ?zN ?zT ?zhk ?zd ?zu ?zi ?_; k_extra "f_raise1"; (case zi => first | assumption | decide); k_extra "f_meansF"))
  k_with "call ref" => (k_here; (with_reducible show wpAny _ _ (call (Value.ref _) [Value.str _ _]) _ _ _); k_dflt (refine' Lw.c_safe_str ?zB ?zF ?zX ?zN ?zT ?zhk ?zd ?zu ?_; k_extra "f_raise1"; k_extra "f_meansF"))
  k_with "call ref" => (k_here; (with_reducible show wpAny _ _ (call (Value.ref _) [Value.bytes _ _]) _ _ _); k_dflt (refine' Lw.c_safe_bytes ?zB ?zF ?zX ?zN ?zT ?zhk ?zd ?zu ?_; k_extra "f_raise1"; k_extra "f_meansF"))
  k_with "call builtin:isinstance" => (k_here; (with_reducible show wpAny _ _ (call (Value.builtin _) [Value.ref _, Value.ref 205]) _ _ _); k_dflt (refine' Lw.isi_item ?zF ?zX ?zN ?zI ?_; k_extra "f_raise2"; k_whole; (try dsimp only)))
  k_with "compareOp Eq ref" => (k_here; (with_reducible show wpAny _ _ (compareOp CmpOp.Eq (Value.ref (Lw.Wn.gr _)) (Value.ref (Lw.Wn.gr _))) _ _ _); k_dflt (refine' Lw.gr_eq ?zF ?zX ?zu ?_; (case zF => k_asm); (case zX => k_asm); (case zu => ktr_units); k_whole; (try dsimp only)))
  k_with "callWith ref" => (k_here; k_dflt (refine' callWith_K ?zk1 ?zk2 ?_; (case zk1 => k_asm); (case zk2 => k_is); k_whole))
  trivial
namespace Lw
noncomputable def Item.eqv (it jt : Item) : Bool := (it.a == jt.a) && ((it.k.sec == jt.k.sec && it.k.nm == jt.k.nm) && (it.m == jt.m))
theorem boolQ {Q : Value → Shared → Prop} {b b' : Bool} {s : Shared} (e : b = b') (h : Q (.bool b') s) : Q (.bool b) s := e ▸ h
theorem eqv1 {it jt : Item} (h : it.a ≠ jt.a) : (it.a == jt.a) = it.eqv jt := by unfold Item.eqv; rw [beq_eq_false_iff_ne.mpr h]; rfl
theorem eqv2 {it jt : Item} (h : it.a = jt.a) (h2 : (it.k.sec == jt.k.sec && it.k.nm == jt.k.nm) = false) : (it.k.sec == jt.k.sec && it.k.nm == jt.k.nm) = it.eqv jt := by unfold Item.eqv; rw [beq_iff_eq.mpr h, h2]; rfl
theorem eqv3 {it jt : Item} (h : it.a = jt.a) (h2 : (it.k.sec == jt.k.sec && it.k.nm == jt.k.nm) = true) : (it.m == jt.m) = it.eqv jt := by unfold Item.eqv; rw [beq_iff_eq.mpr h, h2]; rfl
end Lw
theorem Lw.lay19 : True := by
  w_top off
  k_with_none
  k_with "ktr_enter" => (refine' code_def ?zk1 ?zk2 ?zk3 ?zk4 ?zk5 ?zkA ?zkF ?zkK ?zk6 ?zk7 ?zk8 ?zk9 ?zkB ?_ ?zc2 ?zc3 ?zc4 ?zc5; (case zkA => exact rfl); (case zkF => exact rfl); (case zkK => first | exact rfl | assumption); (case zk1 => k_asm); (case zk2 => k_asm); (case zk3 => k_asm); (case zk4 => k_asm); (case zk5 => k_asm); (case zk6 => k_is); (case zk7 => k_is); (case zk8 => ktr_room); (case zk9 => first | exact BindsTo.of_eq rfl | exact binds_K (by k_in) rfl (by k_is) rfl rfl rfl); (case zc5 => decide); (case zkB => exact locs rfl); (case zc2 => exact rfl); (case zc3 => exact rfl); (case zc4 => exact rfl); k_whole; intro g' L' h' FG' F' N' B' X' T'; (try dsimp only); (try k_fold))
  k_with "f_raise1" => ((case zB => k_asm); (case zF => k_asm); (case zX => k_asm); (case zN => k_asm); (case zT => k_asm); (case zhk => first | exact rfl | assumption); (case zd => ktr_room); (case zu => ktr_units))
  k_with "f_meansF" => (k_whole; intro t9 h9 tk9 F9 N9; (try dsimp only); (try k_fold))
  k_with "f_raise2" => ((case zF => k_asm); (case zX => k_asm); (case zN => k_asm); (case zI => exact Lw.ItemIn.mono (by assumption) (fun _ h => by (repeat (first | exact h | refine List.Mem.tail _ ?_)))))
  k_with "getAttr ref" => (k_here; (with_reducible show wpAny _ _ (getAttr (Value.ref _) (Str.ofString "amount") _) _ _ _); k_dflt (refine' Lw.it_amount ?zF ?zX ?zN ?zI ?_; k_extra "f_raise2"; k_whole; intro t'; (try dsimp only)))
  k_with "getAttr ref" => (k_here; (with_reducible show wpAny _ _ (getAttr (Value.ref _) (Str.ofString "multiples") _) _ _ _); k_dflt (refine' Lw.it_multiples ?zF ?zX ?zN ?zI ?_; k_extra "f_raise2"; k_whole; intro t'; (try dsimp only)))
  k_with "getAttr ref" => (k_here; (with_reducible show wpAny _ _ (getAttr (Value.ref _) (Str.ofString "namespace") _) _ _ _); k_dflt (refine' Lw.it_namespace ?zF ?zX ?zN ?zI ?_; k_extra "f_raise2"; k_whole; intro t'; (try dsimp only)))
  k_with "getAttr ref" => (k_here; (with_reducible show wpAny _ _ (getAttr (Value.ref _) (Str.ofString "GRANULARITY") _) _ _ _); k_dflt (refine' Lw.it_gran ?zF ?zX ?zN ?zI ?_; k_extra "f_raise2"; k_whole; (try dsimp only)))
  k_with "getMethod ref" => (k_here; (with_reducible show wpAny _ _ (getMethod (Value.ref _) (Str.ofString "key_for") _) _ _ _); k_dflt (refine' Lw.it_key_for ?zF ?zX ?zN ?zI ?_; k_extra "f_raise2"; k_whole; (try dsimp only)))
  k_with "getMethod ref" => (k_here; (with_reducible show wpAny _ _ (getMethod (Value.ref _) (Str.ofString "get_expiry") _) _ _ _); k_dflt (refine' Lw.it_get_expiry ?zF ?zX ?zN ?zI ?_; k_extra "f_raise2"; k_whole; (try dsimp only)))
  k_with "getAttr ref" => (k_here; (with_reducible show wpAny _ _ (getAttr (Value.ref (Lw.Wn.gr _)) (Str.ofString "seconds") _) _ _ _); k_dflt (refine' Lw.gr_sec ?zB ?zF ?zX ?zN ?zT ?zhk ?zd ?zu ?_; k_extra "f_raise1"; k_extra "f_meansF"))
  k_with "getAttr ref" => (k_here; (with_reducible show wpAny _ _ (getAttr (Value.ref (Lw.Wn.gr _)) (Str.ofString "name") _) _ _ _); k_dflt (refine' Lw.gr_nm ?zB ?zF ?zX ?zN ?zT ?zhk ?zd ?zu ?_; k_extra "f_raise1"; k_extra "f_meansF"))
  k_with "call ref" => (k_here; (with_reducible show wpAny _ _ (call (Value.ref _) [Value.int _ _]) _ _ _); k_dflt (refine' Lw.c_safe_int ?zB ?zF ?zX ?zN ?zT ?zhk ?zd ?zu ?zi ?_; k_extra "f_raise1"; (case zi => first | assumption | decide); k_extra "f_meansF"))
  k_with "call ref" => (k_here; (with_reducible show wpAny _ _ (call (Value.ref _) [Value.str _ _]) _ _ _); k_dflt (refine' Lw.c_safe_str ?zB ?zF ?zX ?zN ?zT ?zhk ?zd ?zu ?_; k_extra "f_raise1"; k_extra "f_meansF"))
  k_with "call ref" => (k_here; (with_reducible show wpAny _ _ (call (Value.ref _) [Value.bytes _ _]) _ _ _); k_dflt (refine' Lw.c_safe_bytes ?zB ?zF ?zX ?zN ?zT ?zhk ?zd ?zu ?_; k_extra "f_raise1"; k_extra "f_meansF"))
  k_with "call builtin:isinstance" => (k_here; (with_reducible show wpAny _ _ (call (Value.builtin _) [Value.ref _, Value.ref 205]) _ _ _); k_dflt (refine' Lw.isi_item ?zF ?zX ?zN ?zI ?_; k_extra "f_raise2"; k_whole; (try dsimp only)))
  k_with "compareOp Eq ref" => (k_here; (with_reducible show wpAny _ _ (compareOp CmpOp.Eq (Value.ref (Lw.Wn.gr _)) (Value.ref (Lw.Wn.gr _))) _ _ _); k_dflt (refine' Lw.gr_eq ?zF ?zX ?zu ?_; (case zF => k_asm); (case zX => k_asm); (case zu => ktr_units); k_whole; (try dsimp only)))
  k_with "callWith ref" => (k_here; k_dflt (refine' callWith_K ?zk1 ?zk2 ?_; (case zk1 => k_asm); (case zk2 => k_is); k_whole))
  trivial
namespace Lw
variable {w : World} {tp : Program} {tl : List Str} {mean : ExcName → Option Value} {mg mb : Str → Option Value} {dp un : Nat} {gd : Option (List Code)} {cn : Str} {cs : Scope} {a : Addr} {ccd : Value} {cl : List (Str × Addr)} {outer : List Env} {A₀ : Around} {base h₀ : Heap} {L : Addr} {m : Str → Option Value} {news : List (Addr × Obj)} {s : Shared} {Q E : Value → Shared → Prop}
theorem c_eq_it (B : Below A₀ base outer h₀) (F : Fr h₀ L s.heap m) (X : (hd.heap_1 w.params).In h₀) (N : News h₀ L s.heap news) (T : Top tp tl mean mg mb h₀) (hk : cs.kind = .function) (hdp : dp + 2 < recursionLimit) (hun : un + 16 < cLine) {x y : Addr} {it jt : Item} (I : ItemIn w.params news x it) (J : ItemIn w.params news y jt)
    (hret : ∀ h' tk', Fr h₀ L h' m → News h₀ L h' news → Q (.bool (it.eqv jt)) { s with heap := h', toks := tk' }) :
    wpAny (model row.prog w) (ktrTop dp un gd cn cs L a ccd cl outer) (call (.ref 188) [.ref x, .ref y]) Q E s := by
  revert X
  k_fill
  intro X
  refine wpAny_call ?_
  k_dflt k_extra "ktr_enter"
  k_steps
  all_goals first | exact boolQ (eqv3 (by assumption) (by assumption)) (hret _ _ (by k_asm) (newsSub (by assumption) (fun _ h => by (repeat (first | exact h | refine List.Mem.tail _ ?_))))) | exact boolQ (eqv2 (by assumption) (by assumption)) (hret _ _ (by k_asm) (newsSub (by assumption) (fun _ h => by (repeat (first | exact h | refine List.Mem.tail _ ?_))))) | exact boolQ (eqv1 (by assumption)) (hret _ _ (by k_asm) (newsSub (by assumption) (fun _ h => by (repeat (first | exact h | refine List.Mem.tail _ ?_)))))
theorem c_lt_it (B : Below A₀ base outer h₀) (F : Fr h₀ L s.heap m) (X : (hd.heap_1 w.params).In h₀) (N : News h₀ L s.heap news) (T : Top tp tl mean mg mb h₀) (hk : cs.kind = .function) (hdp : dp + 2 < recursionLimit) (hun : un + 16 < cLine) {x y : Addr} {it jt : Item} (I : ItemIn w.params news x it) (J : ItemIn w.params news y jt)
    (hret : ∀ h' tk', Fr h₀ L h' m → News h₀ L h' news → Q (.bool (decide (it.k.sec < jt.k.sec))) { s with heap := h', toks := tk' }) :
    wpAny (model row.prog w) (ktrTop dp un gd cn cs L a ccd cl outer) (call (.ref 202) [.ref x, .ref y]) Q E s := by
  revert X
  k_fill
  intro X
  refine wpAny_call ?_
  k_dflt k_extra "ktr_enter"
  k_steps
  all_goals exact hret _ _ (by k_asm) (newsSub (by assumption) (fun _ h => by (repeat (first | exact h | refine List.Mem.tail _ ?_))))
theorem c_eq_int (B : Below A₀ base outer h₀) (F : Fr h₀ L s.heap m) (X : (hd.heap_1 w.params).In h₀) (N : News h₀ L s.heap news) (T : Top tp tl mean mg mb h₀) (hk : cs.kind = .function) (hdp : dp + 2 < recursionLimit) (hun : un + 16 < cLine) {x : Addr} {it : Item} (I : ItemIn w.params news x it) {i : Int} {t : Tok}
    (hret : ∀ h' tk', Fr h₀ L h' m → News h₀ L h' news → Q (.bool false) { s with heap := h', toks := tk' }) :
    wpAny (model row.prog w) (ktrTop dp un gd cn cs L a ccd cl outer) (call (.ref 188) [.ref x, .int i t]) Q E s := by
  revert X
  k_fill
  intro X
  refine wpAny_call ?_
  k_dflt k_extra "ktr_enter"
  k_steps
  all_goals exact hret _ _ (by k_asm) (newsSub (by assumption) (fun _ h => by (repeat (first | exact h | refine List.Mem.tail _ ?_))))
theorem c_eq_str (B : Below A₀ base outer h₀) (F : Fr h₀ L s.heap m) (X : (hd.heap_1 w.params).In h₀) (N : News h₀ L s.heap news) (T : Top tp tl mean mg mb h₀) (hk : cs.kind = .function) (hdp : dp + 2 < recursionLimit) (hun : un + 16 < cLine) {x : Addr} {it : Item} (I : ItemIn w.params news x it) {i : Str} {t : Tok}
    (hret : ∀ h' tk', Fr h₀ L h' m → News h₀ L h' news → Q (.bool false) { s with heap := h', toks := tk' }) :
    wpAny (model row.prog w) (ktrTop dp un gd cn cs L a ccd cl outer) (call (.ref 188) [.ref x, .str i t]) Q E s := by
  revert X
  k_fill
  intro X
  refine wpAny_call ?_
  k_dflt k_extra "ktr_enter"
  k_steps
  all_goals exact hret _ _ (by k_asm) (newsSub (by assumption) (fun _ h => by (repeat (first | exact h | refine List.Mem.tail _ ?_))))
theorem c_eq_tup (B : Below A₀ base outer h₀) (F : Fr h₀ L s.heap m) (X : (hd.heap_1 w.params).In h₀) (N : News h₀ L s.heap news) (T : Top tp tl mean mg mb h₀) (hk : cs.kind = .function) (hdp : dp + 2 < recursionLimit) (hun : un + 16 < cLine) {x : Addr} {it : Item} (I : ItemIn w.params news x it) {y : Addr} {its : Array Value} {n : Nat} (J : (y, ({ cls := .type "tuple", data := .seq its n } : Obj)) ∈ news)
    (hret : ∀ h' tk', Fr h₀ L h' m → News h₀ L h' news → Q (.bool false) { s with heap := h', toks := tk' }) :
    wpAny (model row.prog w) (ktrTop dp un gd cn cs L a ccd cl outer) (call (.ref 188) [.ref x, .ref y]) Q E s := by
  revert X
  k_fill
  intro X
  refine wpAny_call ?_
  k_dflt k_extra "ktr_enter"
  k_steps
  all_goals exact hret _ _ (by k_asm) (newsSub (by assumption) (fun _ h => by (repeat (first | exact h | refine List.Mem.tail _ ?_))))
end Lw
end
section
theorem Lw.lay20 : True := by
  w_top off
  k_with_none
  k_with "ktr_enter" => (refine' code_def ?zk1 ?zk2 ?zk3 ?zk4 ?zk5 ?zkA ?zkF ?zkK ?zk6 ?zk7 ?zk8 ?zk9 ?zkB ?_ ?zc2 ?zc3 ?zc4 ?zc5; (case zkA => exact rfl); (case zkF => exact rfl); (case zkK => first | exact rfl | assumption); (case zk1 => k_asm); (case zk2 => k_asm); (case zk3 => k_asm); (case zk4 => k_asm); (case zk5 => k_asm); (case zk6 => k_is); (case zk7 => k_is); (case zk8 => ktr_room); (case zk9 => first | exact BindsTo.of_eq rfl | exact binds_K (by k_in) rfl (by k_is) rfl rfl rfl); (case zc5 => decide); (case zkB => exact locs rfl); (case zc2 => exact rfl); (case zc3 => exact rfl); (case zc4 => exact rfl); k_whole; intro g' L' h' FG' F' N' B' X' T'; (try dsimp only); (try k_fold))
  k_with "f_raise1" => ((case zB => k_asm); (case zF => k_asm); (case zX => k_asm); (case zN => k_asm); (case zT => k_asm); (case zhk => first | exact rfl | assumption); (case zd => ktr_room); (case zu => ktr_units))
  k_with "f_meansF" => (k_whole; intro t9 h9 tk9 F9 N9; (try dsimp only); (try k_fold))
  k_with "f_raise2" => ((case zF => k_asm); (case zX => k_asm); (case zN => k_asm); (case zI => exact Lw.ItemIn.mono (by assumption) (fun _ h => by (repeat (first | exact h | refine List.Mem.tail _ ?_)))))
  k_with "getAttr ref" => (k_here; (with_reducible show wpAny _ _ (getAttr (Value.ref _) (Str.ofString "amount") _) _ _ _); k_dflt (refine' Lw.it_amount ?zF ?zX ?zN ?zI ?_; k_extra "f_raise2"; k_whole; intro t'; (try dsimp only)))
  k_with "getAttr ref" => (k_here; (with_reducible show wpAny _ _ (getAttr (Value.ref _) (Str.ofString "multiples") _) _ _ _); k_dflt (refine' Lw.it_multiples ?zF ?zX ?zN ?zI ?_; k_extra "f_raise2"; k_whole; intro t'; (try dsimp only)))
  k_with "getAttr ref" => (k_here; (with_reducible show wpAny _ _ (getAttr (Value.ref _) (Str.ofString "namespace") _) _ _ _); k_dflt (refine' Lw.it_namespace ?zF ?zX ?zN ?zI ?_; k_extra "f_raise2"; k_whole; intro t'; (try dsimp only)))
  k_with "getAttr ref" => (k_here; (with_reducible show wpAny _ _ (getAttr (Value.ref _) (Str.ofString "GRANULARITY") _) _ _ _); k_dflt (refine' Lw.it_gran ?zF ?zX ?zN ?zI ?_; k_extra "f_raise2"; k_whole; (try dsimp only)))
  k_with "getMethod ref" => (k_here; (with_reducible show wpAny _ _ (getMethod (Value.ref _) (Str.ofString "key_for") _) _ _ _); k_dflt (refine' Lw.it_key_for ?zF ?zX ?zN ?zI ?_; k_extra "f_raise2"; k_whole; (try dsimp only)))
  k_with "getMethod ref" => (k_here; (with_reducible show wpAny _ _ (getMethod (Value.ref _) (Str.ofString "get_expiry") _) _ _ _); k_dflt (refine' Lw.it_get_expiry ?zF ?zX ?zN ?zI ?_; k_extra "f_raise2"; k_whole; (try dsimp only)))
  k_with "getAttr ref" => (k_here; (with_reducible show wpAny _ _ (getAttr (Value.ref (Lw.Wn.gr _)) (Str.ofString "seconds") _) _ _ _); k_dflt (refine' Lw.gr_sec ?zB ?zF ?zX ?zN ?zT ?zhk ?zd ?zu ?_; k_extra "f_raise1"; k_extra "f_meansF"))
  k_with "getAttr ref" => (k_here; (with_reducible show wpAny _ _ (getAttr (Value.ref (Lw.Wn.gr _)) (Str.ofString "name") _) _ _ _); k_dflt (refine' Lw.gr_nm ?zB ?zF ?zX ?zN ?zT ?zhk ?zd ?zu ?_; k_extra "f_raise1"; k_extra "f_meansF"))
  k_with "call ref" => (k_here; (with_reducible show wpAny _ _ (call (Value.ref _) [Value.int _ _]) _ _ _); k_dflt (refine' Lw.c_safe_int ?zB ?zF ?zX ?zN ?zT ?zhk ?zd ?zu ?zi ?_; k_extra "f_raise1"; (case zi => first | assumption | decide); k_extra "f_meansF"))
  k_with "call ref" => (k_here; (with_reducible show wpAny _ _ (call (Value.ref _) [Value.str _ _]) _ _ _); k_dflt (refine' Lw.c_safe_str ?zB ?zF ?zX ?zN ?zT ?zhk ?zd ?zu ?_; k_extra "f_raise1"; k_extra "f_meansF"))
  k_with "call ref" => (k_here; (with_reducible show wpAny _ _ (call (Value.ref _) [Value.bytes _ _]) _ _ _); k_dflt (refine' Lw.c_safe_bytes ?zB ?zF ?zX ?zN ?zT ?zhk ?zd ?zu ?_; k_extra "f_raise1"; k_extra "f_meansF"))
  k_with "call builtin:isinstance" => (k_here; (with_reducible show wpAny _ _ (call (Value.builtin _) [Value.ref _, Value.ref 205]) _ _ _); k_dflt (refine' Lw.isi_item ?zF ?zX ?zN ?zI ?_; k_extra "f_raise2"; k_whole; (try dsimp only)))
  k_with "compareOp Eq ref" => (k_here; (with_reducible show wpAny _ _ (compareOp CmpOp.Eq (Value.ref (Lw.Wn.gr _)) (Value.ref (Lw.Wn.gr _))) _ _ _); k_dflt (refine' Lw.gr_eq ?zF ?zX ?zu ?_; (case zF => k_asm); (case zX => k_asm); (case zu => ktr_units); k_whole; (try dsimp only)))
  k_with "callWith ref" => (k_here; k_dflt (refine' callWith_K ?zk1 ?zk2 ?_; (case zk1 => k_asm); (case zk2 => k_is); k_whole))
  trivial
namespace Lw
theorem cf_makes (P : Params) (k : Wn) : makesIn (hd.heap_1 P) k.cls = true := by
  suffices H : row = row → makesIn (hd.heap_1 P) k.cls = true from H rfl
  k_fill
  intro _
  cases k <;> (dsimp only [Wn.cls]; k_is)
theorem cf_init (P : Params) (k : Wn) : findIn (hd.heap_1 P) (.ref k.cls) "__init__" = some (some (.ref 157)) ∧ findIn (hd.heap_1 P) (.ref k.cls) "__setattr__" = some (some (.builtin "object.__setattr__")) := by
  suffices H : row = row → findIn (hd.heap_1 P) (.ref k.cls) "__init__" = some (some (.ref 157)) ∧ findIn (hd.heap_1 P) (.ref k.cls) "__setattr__" = some (some (.builtin "object.__setattr__")) from H rfl
  k_fill
  intro _
  cases k <;> exact ⟨by dsimp only [Wn.cls]; k_is, by dsimp only [Wn.cls]; k_is⟩
theorem cf_over (P : Params) (k : Wn) : plainOver (hd.heap_1 P) k.cls = true ∧ hasDictIn (hd.heap_1 P) k.cls = true := by
  suffices H : row = row → plainOver (hd.heap_1 P) k.cls = true ∧ hasDictIn (hd.heap_1 P) k.cls = true from H rfl
  k_fill
  intro _
  cases k <;> exact ⟨by dsimp only [Wn.cls]; k_is, by dsimp only [Wn.cls]; k_is⟩
theorem cf_take (P : Params) (k : Wn) : takerIn (hd.heap_1 P) k.cls "namespace" = some none ∧ takerIn (hd.heap_1 P) k.cls "amount" = some none ∧ takerIn (hd.heap_1 P) k.cls "multiples" = some none := by
  suffices H : row = row → takerIn (hd.heap_1 P) k.cls "namespace" = some none ∧ takerIn (hd.heap_1 P) k.cls "amount" = some none ∧ takerIn (hd.heap_1 P) k.cls "multiples" = some none from H rfl
  k_fill
  intro _
  cases k <;> exact ⟨by dsimp only [Wn.cls]; k_is, by dsimp only [Wn.cls]; k_is, by dsimp only [Wn.cls]; k_is⟩
end Lw
local macro_rules | `(tactic| k_is) => `(tactic| k_extra "k_is")
theorem Lw.lay21 : True := by
  k_with "k_is" => first | exact Lw.cf_makes _ _ | exact (Lw.cf_init _ _).1 | exact (Lw.cf_init _ _).2 | exact (Lw.cf_over _ _).1 | exact (Lw.cf_over _ _).2 | exact (Lw.cf_take _ _).1 | exact (Lw.cf_take _ _).2.1 | exact (Lw.cf_take _ _).2.2
  trivial
local macro_rules | `(tactic| k_upd) => `(tactic| k_extra "k_upd")
theorem Lw.lay22 : True := by
  k_with "k_upd" => exact Upd.tail (Nat.ne_of_gt (by assumption)) (Upd.head (fun p hp => Nat.ne_of_lt ((by assumption : ∀ q ∈ _, q.1 < _) p hp)))
  trivial
theorem Lw.lay23 : True := by
  w_top off
  k_with_none
  k_with "ktr_enter" => (refine' code_def ?zk1 ?zk2 ?zk3 ?zk4 ?zk5 ?zkA ?zkF ?zkK ?zk6 ?zk7 ?zk8 ?zk9 ?zkB ?_ ?zc2 ?zc3 ?zc4 ?zc5; (case zkA => exact rfl); (case zkF => exact rfl); (case zkK => first | exact rfl | assumption); (case zk1 => k_asm); (case zk2 => k_asm); (case zk3 => k_asm); (case zk4 => k_asm); (case zk5 => k_asm); (case zk6 => k_is); (case zk7 => k_is); (case zk8 => ktr_room); (case zk9 => first | exact BindsTo.of_eq rfl | exact binds_K (by k_in) rfl (by k_is) rfl rfl rfl); (case zc5 => decide); (case zkB => exact locs rfl); (case zc2 => exact rfl); (case zc3 => exact rfl); (case zc4 => exact rfl); k_whole; intro g' L' h' FG' F' N' B' X' T'; (try dsimp only); (try k_fold))
  k_with "f_raise1" => ((case zB => k_asm); (case zF => k_asm); (case zX => k_asm); (case zN => k_asm); (case zT => k_asm); (case zhk => first | exact rfl | assumption); (case zd => ktr_room); (case zu => ktr_units))
  k_with "f_meansF" => (k_whole; intro t9 h9 tk9 F9 N9; (try dsimp only); (try k_fold))
  k_with "f_raise2" => ((case zF => k_asm); (case zX => k_asm); (case zN => k_asm); (case zI => exact Lw.ItemIn.mono (by assumption) (fun _ h => by (repeat (first | exact h | refine List.Mem.tail _ ?_)))))
  k_with "getAttr ref" => (k_here; (with_reducible show wpAny _ _ (getAttr (Value.ref _) (Str.ofString "amount") _) _ _ _); k_dflt (refine' Lw.it_amount ?zF ?zX ?zN ?zI ?_; k_extra "f_raise2"; k_whole; intro t'; (try dsimp only)))
  k_with "getAttr ref" => (k_here; (with_reducible show wpAny _ _ (getAttr (Value.ref _) (Str.ofString "multiples") _) _ _ _); k_dflt (refine' Lw.it_multiples ?zF ?zX ?zN ?zI ?_; k_extra "f_raise2"; k_whole; intro t'; (try dsimp only)))
  k_with "getAttr ref" => (k_here; (with_reducible show wpAny _ _ (getAttr (Value.ref _) (Str.ofString "namespace") _) _ _ _); k_dflt (refine' Lw.it_namespace ?zF ?zX ?zN ?zI ?_; k_extra "f_raise2"; k_whole; intro t'; (try dsimp only)))
  k_with "getAttr ref" => (k_here; (with_reducible show wpAny _ _ (getAttr (Value.ref _) (Str.ofString "GRANULARITY") _) _ _ _); k_dflt (refine' Lw.it_gran ?zF ?zX ?zN ?zI ?_; k_extra "f_raise2"; k_whole; (try dsimp only)))
  k_with "getMethod ref" => (k_here; (with_reducible show wpAny _ _ (getMethod (Value.ref _) (Str.ofString "key_for") _) _ _ _); k_dflt (refine' Lw.it_key_for ?zF ?zX ?zN ?zI ?_; k_extra "f_raise2"; k_whole; (try dsimp only)))
  k_with "getMethod ref" => (k_here; (with_reducible show wpAny _ _ (getMethod (Value.ref _) (Str.ofString "get_expiry") _) _ _ _); k_dflt (refine' Lw.it_get_expiry ?zF ?zX ?zN ?zI ?_; k_extra "f_raise2"; k_whole; (try dsimp only)))
  k_with "getAttr ref" => (k_here; (with_reducible show wpAny _ _ (getAttr (Value.ref (Lw.Wn.gr _)) (Str.ofString "seconds") _) _ _ _); k_dflt (refine' Lw.gr_sec ?zB ?zF ?zX ?zN ?zT ?zhk ?zd ?zu ?_; k_extra "f_raise1"; k_extra "f_meansF"))
  k_with "getAttr ref" => (k_here; (with_reducible show wpAny _ _ (getAttr (Value.ref (Lw.Wn.gr _)) (Str.ofString "name") _) _ _ _); k_dflt (refine' Lw.gr_nm ?zB ?zF ?zX ?zN ?zT ?zhk ?zd ?zu ?_; k_extra "f_raise1"; k_extra "f_meansF"))
  k_with "call ref" => (k_here; (with_reducible show wpAny _ _ (call (Value.ref _) [Value.int _ _]) _ _ _); k_dflt (refine' Lw.c_safe_int ?zB ?zF ?zX ?zN ?zT ?zhk ?zd ?zu ?zi ?_; k_extra "f_raise1"; (case zi => first | assumption | decide); k_extra "f_meansF"))
  k_with "call ref" => (k_here; (with_reducible show wpAny _ _ (call (Value.ref _) [Value.str _ _]) _ _ _); k_dflt (refine' Lw.c_safe_str ?zB ?zF ?zX ?zN ?zT ?zhk ?zd ?zu ?_; k_extra "f_raise1"; k_extra "f_meansF"))
  k_with "call ref" => (k_here; (with_reducible show wpAny _ _ (call (Value.ref _) [Value.bytes _ _]) _ _ _); k_dflt (refine' Lw.c_safe_bytes ?zB ?zF ?zX ?zN ?zT ?zhk ?zd ?zu ?_; k_extra "f_raise1"; k_extra "f_meansF"))
  k_with "call builtin:isinstance" => (k_here; (with_reducible show wpAny _ _ (call (Value.builtin _) [Value.ref _, Value.ref 205]) _ _ _); k_dflt (refine' Lw.isi_item ?zF ?zX ?zN ?zI ?_; k_extra "f_raise2"; k_whole; (try dsimp only)))
  k_with "compareOp Eq ref" => (k_here; (with_reducible show wpAny _ _ (compareOp CmpOp.Eq (Value.ref (Lw.Wn.gr _)) (Value.ref (Lw.Wn.gr _))) _ _ _); k_dflt (refine' Lw.gr_eq ?zF ?zX ?zu ?_; (case zF => k_asm); (case zX => k_asm); (case zu => ktr_units); k_whole; (try dsimp only)))
  k_with "k_is" => first | exact Lw.cf_makes _ _ | exact (Lw.cf_init _ _).1 | exact (Lw.cf_init _ _).2 | exact (Lw.cf_over _ _).1 | exact (Lw.cf_over _ _).2 | exact (Lw.cf_take _ _).1 | exact (Lw.cf_take _ _).2.1 | exact (Lw.cf_take _ _).2.2
  k_with "k_upd" => exact Upd.tail (Nat.ne_of_gt (by assumption)) (Upd.head (fun p hp => Nat.ne_of_lt ((by assumption : ∀ q ∈ _, q.1 < _) p hp)))
  k_with "callWith ref" => (k_here; k_dflt (refine' callWith_K ?zk1 ?zk2 ?_; (case zk1 => k_asm); (case zk2 => k_is); k_whole))
  trivial
namespace Lw
variable {w : World} {tp : Program} {tl : List Str} {mean : ExcName → Option Value} {mg mb : Str → Option Value} {dp un : Nat} {gd : Option (List Code)} {cn : Str} {cs : Scope} {a : Addr} {ccd : Value} {cl : List (Str × Addr)} {outer : List Env} {A₀ : Around} {base h₀ : Heap} {L : Addr} {m : Str → Option Value} {news : List (Addr × Obj)} {s : Shared} {Q E : Value → Shared → Prop}
theorem c_new (B : Below A₀ base outer h₀) (F : Fr h₀ L s.heap m) (X : (hd.heap_1 w.params).In h₀) (N : News h₀ L s.heap news) (T : Top tp tl mean mg mb h₀) (hk : cs.kind = .function) (hdp : dp + 2 < recursionLimit) (hun : un + 16 < cLine) {k : Wn} {i j : Int} {t t2 t3 : Tok} {ns : Str} (hj : 0 < j)
    (hret : ∀ x dx t1 t2 t3 t4 t5 t6 h' tk', Fr h₀ L h' m → News h₀ L h' ((x, instObj k.cls dx) :: (dx, itemD w.params ⟨k, i, j, ns⟩ t1 t2 t3 t4 t5 t6) :: news) → (∀ p ∈ news, p.1 < dx) → dx < x → Q (.ref x) { s with heap := h', toks := tk' }) :
    wpAny (model row.prog w) (ktrTop dp un gd cn cs L a ccd cl outer) (call (.ref k.cls) [.int i t, .int j t2, .str ns t3]) Q E s := by
  revert X
  k_fill
  intro X
  refine' call_cls ?k1 ?k2 ?k3 ?k4 ?k5 ?k6 ?_; (case k1 => k_asm); (case k2 => k_asm); (case k3 => k_asm); (case k4 => k_is); (case k5 => k_is); (case k6 => k_is); k_whole; intro x' d' h' F' N' l1 l2
  k_dflt k_extra "ktr_enter"
  k_steps
  all_goals first | (exfalso; omega) | exact hret _ _ _ _ _ _ _ _ _ _ (by k_asm) (by assumption) l1 l2
theorem c_new0 (B : Below A₀ base outer h₀) (F : Fr h₀ L s.heap m) (X : (hd.heap_1 w.params).In h₀) (N : News h₀ L s.heap news) (T : Top tp tl mean mg mb h₀) (hk : cs.kind = .function) (hdp : dp + 2 < recursionLimit) (hun : un + 16 < cLine) {k : Wn} {i : Int} {t t3 : Tok} {ns : Str}
    (hret : ∀ x dx t1 t2 t3 t4 t5 t6 h' tk', Fr h₀ L h' m → News h₀ L h' ((x, instObj k.cls dx) :: (dx, itemD w.params ⟨k, i, 1, ns⟩ t1 t2 t3 t4 t5 t6) :: news) → (∀ p ∈ news, p.1 < dx) → dx < x → Q (.ref x) { s with heap := h', toks := tk' }) :
    wpAny (model row.prog w) (ktrTop dp un gd cn cs L a ccd cl outer) (call (.ref k.cls) [.int i t, .none, .str ns t3]) Q E s := by
  revert X
  k_fill
  intro X
  refine' call_cls ?k1 ?k2 ?k3 ?k4 ?k5 ?k6 ?_; (case k1 => k_asm); (case k2 => k_asm); (case k3 => k_asm); (case k4 => k_is); (case k5 => k_is); (case k6 => k_is); k_whole; intro x' d' h' F' N' l1 l2
  k_dflt k_extra "ktr_enter"
  k_steps
  all_goals first | (exfalso; omega) | exact hret _ _ _ _ _ _ _ _ _ _ (by k_asm) (by assumption) l1 l2
theorem c_new2 (B : Below A₀ base outer h₀) (F : Fr h₀ L s.heap m) (X : (hd.heap_1 w.params).In h₀) (N : News h₀ L s.heap news) (T : Top tp tl mean mg mb h₀) (hk : cs.kind = .function) (hdp : dp + 2 < recursionLimit) (hun : un + 16 < cLine) {k : Wn} {i j : Int} {t t2 : Tok} (hj : 0 < j)
    (hret : ∀ x dx t1 t2 t3 t4 t5 t6 h' tk', Fr h₀ L h' m → News h₀ L h' ((x, instObj k.cls dx) :: (dx, itemD w.params ⟨k, i, j, "LIMITER"⟩ t1 t2 t3 t4 t5 t6) :: news) → (∀ p ∈ news, p.1 < dx) → dx < x → Q (.ref x) { s with heap := h', toks := tk' }) :
    wpAny (model row.prog w) (ktrTop dp un gd cn cs L a ccd cl outer) (call (.ref k.cls) [.int i t, .int j t2]) Q E s := by
  revert X
  k_fill
  intro X
  refine' call_cls ?k1 ?k2 ?k3 ?k4 ?k5 ?k6 ?_; (case k1 => k_asm); (case k2 => k_asm); (case k3 => k_asm); (case k4 => k_is); (case k5 => k_is); (case k6 => k_is); k_whole; intro x' d' h' F' N' l1 l2
  k_dflt k_extra "ktr_enter"
  k_steps
  all_goals first | (exfalso; omega) | exact hret _ _ _ _ _ _ _ _ _ _ (by k_asm) (by assumption) l1 l2
end Lw
end
section
theorem Lw.lay24 : True := by
  w_top off
  k_with_none
  k_with "ktr_enter" => (refine' code_def ?zk1 ?zk2 ?zk3 ?zk4 ?zk5 ?zkA ?zkF ?zkK ?zk6 ?zk7 ?zk8 ?zk9 ?zkB ?_ ?zc2 ?zc3 ?zc4 ?zc5; (case zkA => exact rfl); (case zkF => exact rfl); (case zkK => first | exact rfl | assumption); (case zk1 => k_asm); (case zk2 => k_asm); (case zk3 => k_asm); (case zk4 => k_asm); (case zk5 => k_asm); (case zk6 => k_is); (case zk7 => k_is); (case zk8 => ktr_room); (case zk9 => first | exact BindsTo.of_eq rfl | exact binds_K (by k_in) rfl (by k_is) rfl rfl rfl); (case zc5 => decide); (case zkB => exact locs rfl); (case zc2 => exact rfl); (case zc3 => exact rfl); (case zc4 => exact rfl); k_whole; intro g' L' h' FG' F' N' B' X' T'; (try dsimp only); (try k_fold))
  k_with "f_raise1" => ((case zB => k_asm); (case zF => k_asm); (case zX => k_asm); (case zN => k_asm); (case zT => k_asm); (case zhk => first | exact rfl | assumption); (case zd => ktr_room); (case zu => ktr_units))
  k_with "f_meansF" => (k_whole; intro t9 h9 tk9 F9 N9; (try dsimp only); (try k_fold))
  k_with "f_raise2" => ((case zF => k_asm); (case zX => k_asm); (case zN => k_asm); (case zI => exact Lw.ItemIn.mono (by assumption) (fun _ h => by (repeat (first | exact h | refine List.Mem.tail _ ?_)))))
  k_with "callWith ref" => (k_here; k_dflt (refine' callWith_K ?zk1 ?zk2 ?_; (case zk1 => k_asm); (case zk2 => k_is); k_whole))
  trivial
namespace Lw
noncomputable def IsMany (v : Value) (j : Int) : Prop := (v = .none ∧ j = 1) ∨ ∃ t, v = .int j t ∧ 0 < j
theorem ix0 {k : Wn} (h : k.ix = 0) : k = .s := by revert h; cases k <;> decide
theorem ix1 {k : Wn} (h : k.ix = 1) : k = .i := by revert h; cases k <;> decide
theorem ix2 {k : Wn} (h : k.ix = 2) : k = .h := by revert h; cases k <;> decide
theorem ix3 {k : Wn} (h : k.ix = 3) : k = .d := by revert h; cases k <;> decide
theorem ix4 {k : Wn} (h : k.ix = 4) : k = .o := by revert h; cases k <;> decide
theorem ix5 {k : Wn} (h0 : k.ix ≠ 0) (h1 : k.ix ≠ 1) (h2 : k.ix ≠ 2) (h3 : k.ix ≠ 3) (h4 : k.ix ≠ 4) : k = .y := by revert h0 h1 h2 h3 h4; cases k <;> decide
end Lw
theorem Lw.lay25 : True := by
  w_top off
  k_with_none
  k_with "ktr_enter" => (refine' code_def ?zk1 ?zk2 ?zk3 ?zk4 ?zk5 ?zkA ?zkF ?zkK ?zk6 ?zk7 ?zk8 ?zk9 ?zkB ?_ ?zc2 ?zc3 ?zc4 ?zc5; (case zkA => exact rfl); (case zkF => exact rfl); (case zkK => first | exact rfl | assumption); (case zk1 => k_asm); (case zk2 => k_asm); (case zk3 => k_asm); (case zk4 => k_asm); (case zk5 => k_asm); (case zk6 => k_is); (case zk7 => k_is); (case zk8 => ktr_room); (case zk9 => first | exact BindsTo.of_eq rfl | exact binds_K (by k_in) rfl (by k_is) rfl rfl rfl); (case zc5 => decide); (case zkB => exact locs rfl); (case zc2 => exact rfl); (case zc3 => exact rfl); (case zc4 => exact rfl); k_whole; intro g' L' h' FG' F' N' B' X' T'; (try dsimp only); (try k_fold))
  k_with "f_raise1" => ((case zB => k_asm); (case zF => k_asm); (case zX => k_asm); (case zN => k_asm); (case zT => k_asm); (case zhk => first | exact rfl | assumption); (case zd => ktr_room); (case zu => ktr_units))
  k_with "f_meansF" => (k_whole; intro t9 h9 tk9 F9 N9; (try dsimp only); (try k_fold))
  k_with "f_raise2" => ((case zF => k_asm); (case zX => k_asm); (case zN => k_asm); (case zI => exact Lw.ItemIn.mono (by assumption) (fun _ h => by (repeat (first | exact h | refine List.Mem.tail _ ?_)))))
  k_with "callWith ref" => (k_here; k_dflt (refine' callWith_K ?zk1 ?zk2 ?_; (case zk1 => k_asm); (case zk2 => k_is); k_whole))
  trivial
namespace Lw
variable {w : World} {tp : Program} {tl : List Str} {mean : ExcName → Option Value} {mg mb : Str → Option Value} {dp un : Nat} {gd : Option (List Code)} {cn : Str} {cs : Scope} {a : Addr} {ccd : Value} {cl : List (Str × Addr)} {outer : List Env} {A₀ : Around} {base h₀ : Heap} {L : Addr} {m : Str → Option Value} {news : List (Addr × Obj)} {s : Shared} {Q E : Value → Shared → Prop}
theorem c_newM (B : Below A₀ base outer h₀) (F : Fr h₀ L s.heap m) (X : (hd.heap_1 w.params).In h₀) (N : News h₀ L s.heap news) (T : Top tp tl mean mg mb h₀) (hk : cs.kind = .function) (hdp : dp + 2 < recursionLimit) (hun : un + 16 < cLine) {k : Wn} {i j : Int} {v : Value} {t t3 : Tok} {ns : Str} (hv : IsMany v j)
    (hret : ∀ x dx t1 t2 t3 t4 t5 t6 h' tk', Fr h₀ L h' m → News h₀ L h' ((x, instObj k.cls dx) :: (dx, itemD w.params ⟨k, i, j, ns⟩ t1 t2 t3 t4 t5 t6) :: news) → (∀ p ∈ news, p.1 < dx) → dx < x → Q (.ref x) { s with heap := h', toks := tk' }) :
    wpAny (model row.prog w) (ktrTop dp un gd cn cs L a ccd cl outer) (call (.ref k.cls) [.int i t, v, .str ns t3]) Q E s := by
  rcases hv with ⟨rfl, rfl⟩ | ⟨t2, rfl, hj⟩
  · exact c_new0 B F X N T hk hdp hun hret
  · exact c_new B F X N T hk hdp hun hj hret
end Lw
theorem Lw.lay26 : True := by
  w_top off
  k_with_none
  k_with "ktr_enter" => (refine' code_def ?zk1 ?zk2 ?zk3 ?zk4 ?zk5 ?zkA ?zkF ?zkK ?zk6 ?zk7 ?zk8 ?zk9 ?zkB ?_ ?zc2 ?zc3 ?zc4 ?zc5; (case zkA => exact rfl); (case zkF => exact rfl); (case zkK => first | exact rfl | assumption); (case zk1 => k_asm); (case zk2 => k_asm); (case zk3 => k_asm); (case zk4 => k_asm); (case zk5 => k_asm); (case zk6 => k_is); (case zk7 => k_is); (case zk8 => ktr_room); (case zk9 => first | exact BindsTo.of_eq rfl | exact binds_K (by k_in) rfl (by k_is) rfl rfl rfl); (case zc5 => decide); (case zkB => exact locs rfl); (case zc2 => exact rfl); (case zc3 => exact rfl); (case zc4 => exact rfl); k_whole; intro g' L' h' FG' F' N' B' X' T'; (try dsimp only); (try k_fold))
  k_with "f_raise1" => ((case zB => k_asm); (case zF => k_asm); (case zX => k_asm); (case zN => k_asm); (case zT => k_asm); (case zhk => first | exact rfl | assumption); (case zd => ktr_room); (case zu => ktr_units))
  k_with "f_meansF" => (k_whole; intro t9 h9 tk9 F9 N9; (try dsimp only); (try k_fold))
  k_with "f_raise2" => ((case zF => k_asm); (case zX => k_asm); (case zN => k_asm); (case zI => exact Lw.ItemIn.mono (by assumption) (fun _ h => by (repeat (first | exact h | refine List.Mem.tail _ ?_)))))
  k_with "call ref" => (k_here; (with_reducible show wpAny _ _ (call (Value.ref _) [Value.int _ _, _, Value.str _ _]) _ _ _); k_dflt (first | (refine' Lw.c_newM (k := .s) ?zB ?zF ?zX ?zN ?zT ?zhk ?zd ?zu ?zv ?_) | (refine' Lw.c_newM (k := .i) ?zB ?zF ?zX ?zN ?zT ?zhk ?zd ?zu ?zv ?_) | (refine' Lw.c_newM (k := .h) ?zB ?zF ?zX ?zN ?zT ?zhk ?zd ?zu ?zv ?_) | (refine' Lw.c_newM (k := .d) ?zB ?zF ?zX ?zN ?zT ?zhk ?zd ?zu ?zv ?_) | (refine' Lw.c_newM (k := .o) ?zB ?zF ?zX ?zN ?zT ?zhk ?zd ?zu ?zv ?_) | (refine' Lw.c_newM (k := .y) ?zB ?zF ?zX ?zN ?zT ?zhk ?zd ?zu ?zv ?_)); k_extra "f_raise1"; (case zv => assumption); k_whole; intro x9 d9 t1 t2 t3 t4 t5 t6 h9 tk9 F9 N9 l1 l2; (try dsimp only); (try k_fold))
  k_with "callWith ref" => (k_here; k_dflt (refine' callWith_K ?zk1 ?zk2 ?_; (case zk1 => k_asm); (case zk2 => k_is); k_whole))
  trivial
namespace Lw
variable {w : World} {tp : Program} {tl : List Str} {mean : ExcName → Option Value} {mg mb : Str → Option Value} {dp un : Nat} {gd : Option (List Code)} {cn : Str} {cs : Scope} {a : Addr} {ccd : Value} {cl : List (Str × Addr)} {outer : List Env} {A₀ : Around} {base h₀ : Heap} {L : Addr} {m : Str → Option Value} {news : List (Addr × Obj)} {s : Shared} {Q E : Value → Shared → Prop}
theorem c_lim (B : Below A₀ base outer h₀) (F : Fr h₀ L s.heap m) (X : (hd.heap_1 w.params).In h₀) (N : News h₀ L s.heap news) (T : Top tp tl mean mg mb h₀) (hk : cs.kind = .function) (hdp : dp + 3 < recursionLimit) (hun : un + 24 < cLine) {k : Wn} {i j : Int} {v : Value} {t t1 t3 : Tok} {ns : Str} (hv : IsMany v j)
    (hret : ∀ x dx t1 t2 t3 t4 t5 t6 h' tk', Fr h₀ L h' m → News h₀ L h' ((x, instObj k.cls dx) :: (dx, itemD w.params ⟨k, i, j, ns⟩ t1 t2 t3 t4 t5 t6) :: news) → (∀ p ∈ news, p.1 < dx) → dx < x → Q (.ref x) { s with heap := h', toks := tk' }) :
    wpAny (model row.prog w) (ktrTop dp un gd cn cs L a ccd cl outer) (call (.ref 720) [.int k.ix t, .int i t1, v, .str ns t3]) Q E s := by
  revert X
  k_fill
  intro X
  refine wpAny_call ?_
  k_dflt k_extra "ktr_enter"
  k_steps
  all_goals first | (have e := ix0 (by assumption)) | (have e := ix1 (by assumption)) | (have e := ix2 (by assumption)) | (have e := ix3 (by assumption)) | (have e := ix4 (by assumption)) | (have e := ix5 (by assumption) (by assumption) (by assumption) (by assumption) (by assumption))
  all_goals (subst e; exact hret _ _ _ _ _ _ _ _ _ _ (by k_asm) (by assumption) (by assumption) (by assumption))
end Lw
end
section
theorem Lw.lay27 : True := by
  w_top off
  k_with_none
  k_with "ktr_enter" => (refine' code_def ?zk1 ?zk2 ?zk3 ?zk4 ?zk5 ?zkA ?zkF ?zkK ?zk6 ?zk7 ?zk8 ?zk9 ?zkB ?_ ?zc2 ?zc3 ?zc4 ?zc5; (case zkA => exact rfl); (case zkF => exact rfl); (case zkK => first | exact rfl | assumption); (case zk1 => k_asm); (case zk2 => k_asm); (case zk3 => k_asm); (case zk4 => k_asm); (case zk5 => k_asm); (case zk6 => k_is); (case zk7 => k_is); (case zk8 => ktr_room); (case zk9 => first | exact BindsTo.of_eq rfl | exact binds_K (by k_in) rfl (by k_is) rfl rfl rfl); (case zc5 => decide); (case zkB => exact locs rfl); (case zc2 => exact rfl); (case zc3 => exact rfl); (case zc4 => exact rfl); k_whole; intro g' L' h' FG' F' N' B' X' T'; (try dsimp only); (try k_fold))
  k_with "f_raise1" => ((case zB => k_asm); (case zF => k_asm); (case zX => k_asm); (case zN => k_asm); (case zT => k_asm); (case zhk => first | exact rfl | assumption); (case zd => ktr_room); (case zu => ktr_units))
  k_with "f_meansF" => (k_whole; intro t9 h9 tk9 F9 N9; (try dsimp only); (try k_fold))
  k_with "f_raise2" => ((case zF => k_asm); (case zX => k_asm); (case zN => k_asm); (case zI => exact Lw.ItemIn.mono (by assumption) (fun _ h => by (repeat (first | exact h | refine List.Mem.tail _ ?_)))))
  k_with "callWith ref" => (k_here; k_dflt (refine' callWith_K ?zk1 ?zk2 ?_; (case zk1 => k_asm); (case zk2 => k_is); k_whole))
  trivial
namespace Lw
theorem tup_type {M : Model} {h₀ h : Heap} {L y : Addr} {led : List (Addr × Obj)} {its : Array Value} {n : Nat} (N : News h₀ L h led) (J : (y, ({ cls := .type "tuple", data := .seq its n } : Obj)) ∈ led) : Looks M h (typeOf (.ref y)) (.type "tuple") := by
  intro A Q E s k q
  have z := k _ _ (N _ J).1
  unfold typeOf
  exact wpAny_bind (wpAny_loadPart z (wpAny_pure q))
end Lw
theorem Lw.lay28 : True := by
  w_top off
  k_with_none
  k_with "ktr_enter" => (refine' code_def ?zk1 ?zk2 ?zk3 ?zk4 ?zk5 ?zkA ?zkF ?zkK ?zk6 ?zk7 ?zk8 ?zk9 ?zkB ?_ ?zc2 ?zc3 ?zc4 ?zc5; (case zkA => exact rfl); (case zkF => exact rfl); (case zkK => first | exact rfl | assumption); (case zk1 => k_asm); (case zk2 => k_asm); (case zk3 => k_asm); (case zk4 => k_asm); (case zk5 => k_asm); (case zk6 => k_is); (case zk7 => k_is); (case zk8 => ktr_room); (case zk9 => first | exact BindsTo.of_eq rfl | exact binds_K (by k_in) rfl (by k_is) rfl rfl rfl); (case zc5 => decide); (case zkB => exact locs rfl); (case zc2 => exact rfl); (case zc3 => exact rfl); (case zc4 => exact rfl); k_whole; intro g' L' h' FG' F' N' B' X' T'; (try dsimp only); (try k_fold))
  k_with "f_raise1" => ((case zB => k_asm); (case zF => k_asm); (case zX => k_asm); (case zN => k_asm); (case zT => k_asm); (case zhk => first | exact rfl | assumption); (case zd => ktr_room); (case zu => ktr_units))
  k_with "f_meansF" => (k_whole; intro t9 h9 tk9 F9 N9; (try dsimp only); (try k_fold))
  k_with "f_raise2" => ((case zF => k_asm); (case zX => k_asm); (case zN => k_asm); (case zI => exact Lw.ItemIn.mono (by assumption) (fun _ h => by (repeat (first | exact h | refine List.Mem.tail _ ?_)))))
  k_with "callWith ref" => (k_here; k_dflt (refine' callWith_K ?zk1 ?zk2 ?_; (case zk1 => k_asm); (case zk2 => k_is); k_whole))
  trivial
namespace Lw
variable {w : World} {tp : Program} {tl : List Str} {mean : ExcName → Option Value} {mg mb : Str → Option Value} {dp un : Nat} {gd : Option (List Code)} {cn : Str} {cs : Scope} {a : Addr} {ccd : Value} {cl : List (Str × Addr)} {outer : List Env} {A₀ : Around} {base h₀ : Heap} {L : Addr} {m : Str → Option Value} {news : List (Addr × Obj)} {s : Shared} {Q E : Value → Shared → Prop}
theorem q_eq_it (B : Below A₀ base outer h₀) (F : Fr h₀ L s.heap m) (X : (hd.heap_1 w.params).In h₀) (N : News h₀ L s.heap news) (T : Top tp tl mean mg mb h₀) (hk : cs.kind = .function) (hdp : dp + 2 < recursionLimit) (hun : un + 16 < cLine) {x y : Addr} {it jt : Item} (I : ItemIn w.params news x it) (J : ItemIn w.params news y jt)
    (hret : ∀ h' tk', Fr h₀ L h' m → News h₀ L h' news → Q (.bool (it.eqv jt)) { s with heap := h', toks := tk' }) :
    wpAny (model row.prog w) (ktrTop dp un gd cn cs L a ccd cl outer) (compareOp .Eq (.ref x) (.ref y)) Q E s := by
  obtain ⟨ox, od, K⟩ := it_inst N J
  exact it_eq (show (ktrTop dp un gd cn cs L a ccd cl outer).units < cLine from Nat.lt_of_le_of_lt (Nat.le_add_right _ _) hun) F X N I K.type (it_first _ _ _) (c_eq_it B F X N T hk hdp hun I J fun h' tk' F' N' => hret h' tk' F' N')
theorem q_lt_it (B : Below A₀ base outer h₀) (F : Fr h₀ L s.heap m) (X : (hd.heap_1 w.params).In h₀) (N : News h₀ L s.heap news) (T : Top tp tl mean mg mb h₀) (hk : cs.kind = .function) (hdp : dp + 2 < recursionLimit) (hun : un + 16 < cLine) {x y : Addr} {it jt : Item} (I : ItemIn w.params news x it) (J : ItemIn w.params news y jt)
    (hret : ∀ h' tk', Fr h₀ L h' m → News h₀ L h' news → Q (.bool (decide (it.k.sec < jt.k.sec))) { s with heap := h', toks := tk' }) :
    wpAny (model row.prog w) (ktrTop dp un gd cn cs L a ccd cl outer) (compareOp .Lt (.ref x) (.ref y)) Q E s := by
  obtain ⟨ox, od, K⟩ := it_inst N J
  exact it_lt (show (ktrTop dp un gd cn cs L a ccd cl outer).units < cLine from Nat.lt_of_le_of_lt (Nat.le_add_right _ _) hun) F X N I K.type (it_first _ _ _) (c_lt_it B F X N T hk hdp hun I J fun h' tk' F' N' => hret h' tk' F' N')
theorem q_eq_int (B : Below A₀ base outer h₀) (F : Fr h₀ L s.heap m) (X : (hd.heap_1 w.params).In h₀) (N : News h₀ L s.heap news) (T : Top tp tl mean mg mb h₀) (hk : cs.kind = .function) (hdp : dp + 2 < recursionLimit) (hun : un + 16 < cLine) {x : Addr} {it : Item} (I : ItemIn w.params news x it) {i : Int} {t : Tok}
    (hret : ∀ h' tk', Fr h₀ L h' m → News h₀ L h' news → Q (.bool false) { s with heap := h', toks := tk' }) :
    wpAny (model row.prog w) (ktrTop dp un gd cn cs L a ccd cl outer) (compareOp .Eq (.ref x) (.int i t)) Q E s := by
  exact it_eq (show (ktrTop dp un gd cn cs L a ccd cl outer).units < cLine from Nat.lt_of_le_of_lt (Nat.le_add_right _ _) hun) F X N I (Looks.of_pure rfl) (it_first' _ _).1 (c_eq_int B F X N T hk hdp hun I fun h' tk' F' N' => hret h' tk' F' N')
theorem q_eq_str (B : Below A₀ base outer h₀) (F : Fr h₀ L s.heap m) (X : (hd.heap_1 w.params).In h₀) (N : News h₀ L s.heap news) (T : Top tp tl mean mg mb h₀) (hk : cs.kind = .function) (hdp : dp + 2 < recursionLimit) (hun : un + 16 < cLine) {x : Addr} {it : Item} (I : ItemIn w.params news x it) {i : Str} {t : Tok}
    (hret : ∀ h' tk', Fr h₀ L h' m → News h₀ L h' news → Q (.bool false) { s with heap := h', toks := tk' }) :
    wpAny (model row.prog w) (ktrTop dp un gd cn cs L a ccd cl outer) (compareOp .Eq (.ref x) (.str i t)) Q E s := by
  exact it_eq (show (ktrTop dp un gd cn cs L a ccd cl outer).units < cLine from Nat.lt_of_le_of_lt (Nat.le_add_right _ _) hun) F X N I (Looks.of_pure rfl) (it_first' _ _).2.1 (c_eq_str B F X N T hk hdp hun I fun h' tk' F' N' => hret h' tk' F' N')
theorem q_eq_tup (B : Below A₀ base outer h₀) (F : Fr h₀ L s.heap m) (X : (hd.heap_1 w.params).In h₀) (N : News h₀ L s.heap news) (T : Top tp tl mean mg mb h₀) (hk : cs.kind = .function) (hdp : dp + 2 < recursionLimit) (hun : un + 16 < cLine) {x : Addr} {it : Item} (I : ItemIn w.params news x it) {y : Addr} {its : Array Value} {n : Nat} (J : (y, ({ cls := .type "tuple", data := .seq its n } : Obj)) ∈ news)
    (hret : ∀ h' tk', Fr h₀ L h' m → News h₀ L h' news → Q (.bool false) { s with heap := h', toks := tk' }) :
    wpAny (model row.prog w) (ktrTop dp un gd cn cs L a ccd cl outer) (compareOp .Eq (.ref x) (.ref y)) Q E s := by
  exact it_eq (show (ktrTop dp un gd cn cs L a ccd cl outer).units < cLine from Nat.lt_of_le_of_lt (Nat.le_add_right _ _) hun) F X N I (tup_type N J) (it_first' _ _).2.2 (c_eq_tup B F X N T hk hdp hun I J fun h' tk' F' N' => hret h' tk' F' N')
end Lw
end
section
theorem Lw.lay29 : True := by
  w_top off
  k_with_none
  k_with "ktr_enter" => (refine' code_def ?zk1 ?zk2 ?zk3 ?zk4 ?zk5 ?zkA ?zkF ?zkK ?zk6 ?zk7 ?zk8 ?zk9 ?zkB ?_ ?zc2 ?zc3 ?zc4 ?zc5; (case zkA => exact rfl); (case zkF => exact rfl); (case zkK => first | exact rfl | assumption); (case zk1 => k_asm); (case zk2 => k_asm); (case zk3 => k_asm); (case zk4 => k_asm); (case zk5 => k_asm); (case zk6 => k_is); (case zk7 => k_is); (case zk8 => ktr_room); (case zk9 => first | exact BindsTo.of_eq rfl | exact binds_K (by k_in) rfl (by k_is) rfl rfl rfl); (case zc5 => decide); (case zkB => exact locs rfl); (case zc2 => exact rfl); (case zc3 => exact rfl); (case zc4 => exact rfl); k_whole; intro g' L' h' FG' F' N' B' X' T'; (try dsimp only); (try k_fold))
  k_with "f_raise1" => ((case zB => k_asm); (case zF => k_asm); (case zX => k_asm); (case zN => k_asm); (case zT => k_asm); (case zhk => first | exact rfl | assumption); (case zd => ktr_room); (case zu => ktr_units))
  k_with "f_meansF" => (k_whole; intro t9 h9 tk9 F9 N9; (try dsimp only); (try k_fold))
  k_with "f_raise2" => ((case zF => k_asm); (case zX => k_asm); (case zN => k_asm); (case zI => exact Lw.ItemIn.mono (by assumption) (fun _ h => by (repeat (first | exact h | refine List.Mem.tail _ ?_)))))
  k_with "callWith ref" => (k_here; k_dflt (refine' callWith_K ?zk1 ?zk2 ?_; (case zk1 => k_asm); (case zk2 => k_is); k_whole))
  trivial
namespace Lw
noncomputable def testAt (x g : Str) (p : Nat) : Bool := !(Builtin.Str.occurrences g (Txt.lower (Txt.item x p)) 0 g.length 1).isEmpty
noncomputable def skipF (x g : Str) : Nat → Nat → Nat
  | 0, p => p
  | n + 1, p => if testAt x g p then skipF x g n (p + 1) else p
noncomputable def skipN (x g : Str) (p : Nat) : Nat := skipF x g (x.length - p) p
noncomputable def SkJ (x g : Str) (r : Nat) (news : List (Addr × Obj)) (n : Nat) (m₁ : Str → Option Value) (news₁ : List (Addr × Obj)) : Prop :=
  news = news₁ ∧ ∃ p t1 t2 t3, m₁ "text" = some (.str x t1) ∧ m₁ "place" = some (.int (p : Nat) t2) ∧ m₁ "signs" = some (.str g t3) ∧ n = x.length - p ∧ skipF x g n p = r
theorem sk_end {x g : Str} {n p q : Nat} (hr : skipF x g n q = skipF x g (x.length - p) p) (hn : n = x.length - q) (h : ¬ (q : Int) < x.length) : (q : Int) = (skipN x g p : Nat) := by
  have e : n = 0 := by omega
  subst e
  show _ = ((skipF x g (x.length - p) p : Nat) : Int)
  rw [← hr]; rfl
theorem sk_stop {x g : Str} {n p q : Nat} (hr : skipF x g n q = skipF x g (x.length - p) p) (hn : n = x.length - q) (h : (q : Int) < x.length) (ht : (Builtin.Str.occurrences g (Txt.lower (Txt.item x q)) 0 g.length 1).isEmpty = true) : (q : Int) = (skipN x g p : Nat) := by
  obtain ⟨k, e⟩ : ∃ k, n = k + 1 := ⟨n - 1, by omega⟩
  rw [e] at hr
  show _ = ((skipF x g (x.length - p) p : Nat) : Int)
  rw [← hr]
  show _ = ((if testAt x g q then skipF x g k (q + 1) else q : Nat) : Int)
  rw [testAt, ht]; rfl
theorem sk_on {x g : Str} {n q r : Nat} (hr : skipF x g n q = r) (hn : n = x.length - q) (h : (q : Int) < x.length) (ht : (Builtin.Str.occurrences g (Txt.lower (Txt.item x q)) 0 g.length 1).isEmpty = false) : n - 1 < n ∧ n - 1 = x.length - (q + 1) ∧ skipF x g (n - 1) (q + 1) = r := by
  refine ⟨by omega, by omega, ?_⟩
  obtain ⟨k, e⟩ : ∃ k, n = k + 1 := ⟨n - 1, by omega⟩
  rw [e] at hr ⊢
  rw [← hr]
  show _ = (if testAt x g q then skipF x g k (q + 1) else q)
  rw [testAt, ht]; rfl
theorem skipF_le {x g : Str} : ∀ n p, skipF x g n p ≤ p + n
  | 0, p => Nat.le_refl _
  | n + 1, p => by
    show (if testAt x g p then skipF x g n (p + 1) else p) ≤ _
    have := skipF_le (x := x) (g := g) n (p + 1)
    split <;> omega
theorem skipN_le {x g : Str} {p : Nat} : skipN x g p ≤ p + x.length := Nat.le_trans (skipF_le _ _) (by omega)
theorem if_other {m₁ : Str → Option Value} {a b : Str} {v v' : Option Value} (hn : ¬ a = b) (h : m₁ a = v) : (fun y => if y = b then v' else m₁ y) a = v := by
  show (if a = b then v' else m₁ a) = v
  rw [if_neg hn]; exact h
theorem if_self {m₁ : Str → Option Value} {b : Str} {v' : Option Value} : (fun y => if y = b then v' else m₁ y) b = v' := if_pos rfl
end Lw
theorem Lw.lay30 : True := by
  k_with "eval Name" => (k_here; k_dflt (refine' ld ?zk1 ?zk2 ?_; (case zk1 => k_asm); (case zk2 => assumption); k_whole))
  trivial
theorem Lw.lay31 : True := by
  k_with "loadName" => (k_here; k_dflt (refine ldn (by assumption) (by assumption) ?_))
  trivial
theorem Lw.lay32 : True := by
  w_top off
  k_with_none
  k_with "ktr_enter" => (refine' code_def ?zk1 ?zk2 ?zk3 ?zk4 ?zk5 ?zkA ?zkF ?zkK ?zk6 ?zk7 ?zk8 ?zk9 ?zkB ?_ ?zc2 ?zc3 ?zc4 ?zc5; (case zkA => exact rfl); (case zkF => exact rfl); (case zkK => first | exact rfl | assumption); (case zk1 => k_asm); (case zk2 => k_asm); (case zk3 => k_asm); (case zk4 => k_asm); (case zk5 => k_asm); (case zk6 => k_is); (case zk7 => k_is); (case zk8 => ktr_room); (case zk9 => first | exact BindsTo.of_eq rfl | exact binds_K (by k_in) rfl (by k_is) rfl rfl rfl); (case zc5 => decide); (case zkB => exact locs rfl); (case zc2 => exact rfl); (case zc3 => exact rfl); (case zc4 => exact rfl); k_whole; intro g' L' h' FG' F' N' B' X' T'; (try dsimp only); (try k_fold))
  k_with "f_raise1" => ((case zB => k_asm); (case zF => k_asm); (case zX => k_asm); (case zN => k_asm); (case zT => k_asm); (case zhk => first | exact rfl | assumption); (case zd => ktr_room); (case zu => ktr_units))
  k_with "f_meansF" => (k_whole; intro t9 h9 tk9 F9 N9; (try dsimp only); (try k_fold))
  k_with "f_raise2" => ((case zF => k_asm); (case zX => k_asm); (case zN => k_asm); (case zI => exact Lw.ItemIn.mono (by assumption) (fun _ h => by (repeat (first | exact h | refine List.Mem.tail _ ?_)))))
  k_with "eval Name" => (k_here; k_dflt (refine' ld ?zk1 ?zk2 ?_; (case zk1 => k_asm); (case zk2 => assumption); k_whole))
  k_with "loadName" => (k_here; k_dflt (refine ldn (by assumption) (by assumption) ?_))
  k_with "callWith ref" => (k_here; k_dflt (refine' callWith_K ?zk1 ?zk2 ?_; (case zk1 => k_asm); (case zk2 => k_is); k_whole))
  trivial
namespace Lw
variable {w : World} {tp : Program} {tl : List Str} {mean : ExcName → Option Value} {mg mb : Str → Option Value} {dp un : Nat} {gd : Option (List Code)} {cn : Str} {cs : Scope} {a : Addr} {ccd : Value} {cl : List (Str × Addr)} {outer : List Env} {A₀ : Around} {base h₀ : Heap} {L : Addr} {m : Str → Option Value} {news : List (Addr × Obj)} {s : Shared} {Q E : Value → Shared → Prop}
theorem c_skip (B : Below A₀ base outer h₀) (F : Fr h₀ L s.heap m) (X : (hd.heap_1 w.params).In h₀) (N : News h₀ L s.heap news) (T : Top tp tl mean mg mb h₀) (hk : cs.kind = .function) (hdp : dp + 1 < recursionLimit) (hun : un + 8 < cLine) {x g : Str} {p r : Nat} {t1 t2 t3 : Tok} (hx : x.length ≤ 100) (e : skipN x g p = r)
    (hret : ∀ t h' tk', Fr h₀ L h' m → News h₀ L h' news → Q (.int r t) { s with heap := h', toks := tk' }) :
    wpAny (model row.prog w) (ktrTop dp un gd cn cs L a ccd cl outer) (call (.ref 506) [.str x t1, .int p t2, .str g t3]) Q E s := by
  revert X
  k_fill
  intro X
  refine wpAny_call ?_
  k_dflt k_extra "ktr_enter"
  iterate 5 (first | (k_unfold; (try dsimp only)) | walk1)
  refine While_inv (Lw.SkJ _ _ _ _) (by k_asm) (by k_asm) ⟨rfl, _, _, _, _, rfl, rfl, rfl, rfl, rfl⟩ ?_
  intro n1 m1 nw1 h1 tk1 F1 N1 J1
  obtain ⟨e1, p1, t1, t2, t3, a1, a2, a3, hn1, hr1⟩ := J1
  subst e1
  (try dsimp only)
  k_steps
  · rw [sk_stop hr1 hn1 (by assumption) (by assumption), e]
    exact hret _ _ _ (by k_asm) (by k_asm)
  · obtain ⟨b1, b2, b4⟩ := sk_on hr1 hn1 (by assumption) (by assumption)
    refine WhileStep.intro (by k_asm) (by k_asm) b1 ?_
    exact ⟨rfl, p1 + 1, _, _, _, if_other (b := "place") (by decide) a1, if_self, if_other (b := "place") (by decide) a3, b2, b4⟩
  · rw [sk_end hr1 hn1 (by assumption), e]
    exact hret _ _ _ (by k_asm) (by k_asm)
end Lw
end
section
theorem Lw.lay33 : True := by
  w_top off
  k_with_none
  k_with "ktr_enter" => (refine' code_def ?zk1 ?zk2 ?zk3 ?zk4 ?zk5 ?zkA ?zkF ?zkK ?zk6 ?zk7 ?zk8 ?zk9 ?zkB ?_ ?zc2 ?zc3 ?zc4 ?zc5; (case zkA => exact rfl); (case zkF => exact rfl); (case zkK => first | exact rfl | assumption); (case zk1 => k_asm); (case zk2 => k_asm); (case zk3 => k_asm); (case zk4 => k_asm); (case zk5 => k_asm); (case zk6 => k_is); (case zk7 => k_is); (case zk8 => ktr_room); (case zk9 => first | exact BindsTo.of_eq rfl | exact binds_K (by k_in) rfl (by k_is) rfl rfl rfl); (case zc5 => decide); (case zkB => exact locs rfl); (case zc2 => exact rfl); (case zc3 => exact rfl); (case zc4 => exact rfl); k_whole; intro g' L' h' FG' F' N' B' X' T'; (try dsimp only); (try k_fold))
  k_with "f_raise1" => ((case zB => k_asm); (case zF => k_asm); (case zX => k_asm); (case zN => k_asm); (case zT => k_asm); (case zhk => first | exact rfl | assumption); (case zd => ktr_room); (case zu => ktr_units))
  k_with "f_meansF" => (k_whole; intro t9 h9 tk9 F9 N9; (try dsimp only); (try k_fold))
  k_with "f_raise2" => ((case zF => k_asm); (case zX => k_asm); (case zN => k_asm); (case zI => exact Lw.ItemIn.mono (by assumption) (fun _ h => by (repeat (first | exact h | refine List.Mem.tail _ ?_)))))
  k_with "callWith ref" => (k_here; k_dflt (refine' callWith_K ?zk1 ?zk2 ?_; (case zk1 => k_asm); (case zk2 => k_is); k_whole))
  trivial
namespace Lw
variable {w : World} {tp : Program} {tl : List Str} {mean : ExcName → Option Value} {mg mb : Str → Option Value} {dp un : Nat} {gd : Option (List Code)} {cn : Str} {cs : Scope} {a : Addr} {ccd : Value} {cl : List (Str × Addr)} {outer : List Env} {A₀ : Around} {base h₀ : Heap} {L : Addr} {m : Str → Option Value} {news : List (Addr × Obj)} {s : Shared} {Q E : Value → Shared → Prop}
abbrev lamScope : Scope := { kind := .function, names := [("moment", .free)], isGenerator := false, isCoroutine := false, more := [] }
abbrev lamArgs : Arguments := { posonlyargs := [], args := [], vararg := none, kwonlyargs := [], kw_defaults := [], kwarg := none, defaults := [] }
/-- the clock: a lambda over a cell that holds this moment -/
noncomputable def ClockIn (led : List (Addr × Obj)) (f : Addr) (now : Int) : Prop := ∃ (qual : Str) (pm ctv : Value) (c' : Addr) (oc : Obj) (vs : Array Value) (t : Tok) (cell : Addr) (ocl : Obj) (tm : Tok) (pos : Pos), (f, kla_obj "<lambda>" qual lamArgs (.Name "moment" pos) lamScope [("moment", cell)] pm c' ctv) ∈ led ∧ (c', oc) ∈ led ∧ oc.data = .fields vs ∧ vs[1]? = some (.str qual t) ∧ (cell, ocl) ∈ led ∧ ocl.data = .cell (some (.int now tm))
theorem ClockIn.mono {l l' : List (Addr × Obj)} {f : Addr} {now : Int} (h : ClockIn l f now) (hs : ∀ p ∈ l, p ∈ l') : ClockIn l' f now := by
  obtain ⟨q, pm, ct, c', oc, vs, t, c, o, tm, ps, h1, h2, h3, h4, h5, h6⟩ := h
  exact ⟨q, pm, ct, c', oc, vs, t, c, o, tm, ps, hs _ h1, hs _ h2, h3, h4, hs _ h5, h6⟩
theorem ClockIn.fnAt {h₀ h : Heap} {L : Addr} {l : List (Addr × Obj)} {f : Addr} {now : Int} (N : News h₀ L h l) (I : ClockIn l f now) : FnAt f h := by
  obtain ⟨q, pm, ct, c', oc, vs, t, c, o, tm, ps, h1, h2, h3, h4, h5, h6⟩ := I
  exact FnAt.of N h1
theorem c_clock (B : Below A₀ base outer h₀) (F : Fr h₀ L s.heap m) (X : (hd.heap_1 w.params).In h₀) (N : News h₀ L s.heap news) (T : Top tp tl mean mg mb h₀) (hk : cs.kind = .function) (hdp : dp + 1 < recursionLimit) (hun : un + 8 < cLine) {f : Addr} {now : Int} (I : ClockIn news f now)
    (hret : ∀ t h' tk', Fr h₀ L h' m → News h₀ L h' news → Q (.int now t) { s with heap := h', toks := tk' }) :
    wpAny (model row.prog w) (ktrTop dp un gd cn cs L a ccd cl outer) (call (.ref f) []) Q E s := by
  obtain ⟨qual, pm, ct, c', oc, vs, t, c, o, tm, ps, h1, h2, h3, h4, h5, h6⟩ := I
  refine wpAny_call ?_
  refine kla_code (binds := []) B F X N T rfl rfl hk h1 (codeRec_news N h2 h3 h4) (by ktr_room) rfl (by intro y hy; cases hy) ?_ rfl rfl rfl (by decide)
  intro g L' h₁ FG F' N' B' X' T'
  refine nameX_F N' rfl h5 h6 ?_ rfl rfl
  exact leaveK_ F' N' fun kF kN => hret _ _ _ kF kN
end Lw
end
section
theorem Lw.lay34 : True := by
  w_top off
  k_with_none
  k_with "ktr_enter" => (refine' code_def ?zk1 ?zk2 ?zk3 ?zk4 ?zk5 ?zkA ?zkF ?zkK ?zk6 ?zk7 ?zk8 ?zk9 ?zkB ?_ ?zc2 ?zc3 ?zc4 ?zc5; (case zkA => exact rfl); (case zkF => exact rfl); (case zkK => first | exact rfl | assumption); (case zk1 => k_asm); (case zk2 => k_asm); (case zk3 => k_asm); (case zk4 => k_asm); (case zk5 => k_asm); (case zk6 => k_is); (case zk7 => k_is); (case zk8 => ktr_room); (case zk9 => first | exact BindsTo.of_eq rfl | exact binds_K (by k_in) rfl (by k_is) rfl rfl rfl); (case zc5 => decide); (case zkB => exact locs rfl); (case zc2 => exact rfl); (case zc3 => exact rfl); (case zc4 => exact rfl); k_whole; intro g' L' h' FG' F' N' B' X' T'; (try dsimp only); (try k_fold))
  k_with "f_raise1" => ((case zB => k_asm); (case zF => k_asm); (case zX => k_asm); (case zN => k_asm); (case zT => k_asm); (case zhk => first | exact rfl | assumption); (case zd => ktr_room); (case zu => ktr_units))
  k_with "f_meansF" => (k_whole; intro t9 h9 tk9 F9 N9; (try dsimp only); (try k_fold))
  k_with "f_raise2" => ((case zF => k_asm); (case zX => k_asm); (case zN => k_asm); (case zI => exact Lw.ItemIn.mono (by assumption) (fun _ h => by (repeat (first | exact h | refine List.Mem.tail _ ?_)))))
  k_with "callWith ref" => (k_here; k_dflt (refine' callWith_K ?zk1 ?zk2 ?_; (case zk1 => k_asm); (case zk2 => k_is); k_whole))
  trivial
namespace Lw
theorem fdiv_known {prog : Program} {w : World} {A : Around} {E : Value → Shared → Prop} {s : Shared} {a b q : Int} {t u : Tok} {Q : Value → Shared → Prop} (hb : b ≠ 0) (e : a.fdiv b = q) (hp : Builtin.divisionGoesByPylong a b = false) (h : Q (.int q s.toks) { s with toks := s.toks + 1 }) : wpAny (model prog w) A (binaryOp .FloorDiv (.int a t) (.int b u)) Q E s :=
  floordiv_int hb (e ▸ h) (.inl hp)
noncomputable def winKey (key : Str) (n : Int) : Str := Str.empty ++ key ++ "/" ++ Str.ofString (toString n)
noncomputable def pairObj (x y : Str) (t u : Tok) : Obj := { cls := .type "tuple", data := .seq [Value.str x t, .str y u].toArray }
end Lw
theorem Lw.lay35 : True := by
  w_top off
  k_with_none
  k_with "ktr_enter" => (refine' code_def ?zk1 ?zk2 ?zk3 ?zk4 ?zk5 ?zkA ?zkF ?zkK ?zk6 ?zk7 ?zk8 ?zk9 ?zkB ?_ ?zc2 ?zc3 ?zc4 ?zc5; (case zkA => exact rfl); (case zkF => exact rfl); (case zkK => first | exact rfl | assumption); (case zk1 => k_asm); (case zk2 => k_asm); (case zk3 => k_asm); (case zk4 => k_asm); (case zk5 => k_asm); (case zk6 => k_is); (case zk7 => k_is); (case zk8 => ktr_room); (case zk9 => first | exact BindsTo.of_eq rfl | exact binds_K (by k_in) rfl (by k_is) rfl rfl rfl); (case zc5 => decide); (case zkB => exact locs rfl); (case zc2 => exact rfl); (case zc3 => exact rfl); (case zc4 => exact rfl); k_whole; intro g' L' h' FG' F' N' B' X' T'; (try dsimp only); (try k_fold))
  k_with "f_raise1" => ((case zB => k_asm); (case zF => k_asm); (case zX => k_asm); (case zN => k_asm); (case zT => k_asm); (case zhk => first | exact rfl | assumption); (case zd => ktr_room); (case zu => ktr_units))
  k_with "f_meansF" => (k_whole; intro t9 h9 tk9 F9 N9; (try dsimp only); (try k_fold))
  k_with "f_raise2" => ((case zF => k_asm); (case zX => k_asm); (case zN => k_asm); (case zI => exact Lw.ItemIn.mono (by assumption) (fun _ h => by (repeat (first | exact h | refine List.Mem.tail _ ?_)))))
  k_with "binaryOp FloorDiv int int" => (k_here; k_dflt (refine Lw.fdiv_known (by omega) (by with_reducible assumption) (PyProof.noPylong_small (by omega)) ?_))
  k_with "callWith ref" => (k_here; k_dflt (refine' callWith_K ?zk1 ?zk2 ?_; (case zk1 => k_asm); (case zk2 => k_is); k_whole))
  trivial
namespace Lw
variable {w : World} {tp : Program} {tl : List Str} {mean : ExcName → Option Value} {mg mb : Str → Option Value} {dp un : Nat} {gd : Option (List Code)} {cn : Str} {cs : Scope} {a : Addr} {ccd : Value} {cl : List (Str × Addr)} {outer : List Env} {A₀ : Around} {base h₀ : Heap} {L : Addr} {m : Str → Option Value} {news : List (Addr × Obj)} {s : Shared} {Q E : Value → Shared → Prop}
theorem c_keysC (B : Below A₀ base outer h₀) (F : Fr h₀ L s.heap m) (X : (hd.heap_1 w.params).In h₀) (N : News h₀ L s.heap news) (T : Top tp tl mean mg mb h₀) (hk : cs.kind = .function) (hdp : dp + 1 < recursionLimit) (hun : un + 8 < cLine) {C : Value} {key : Str} {ex now q1 q2 q3 : Int} {t1 t2 t3 : Tok} (hkl : key.length ≤ 2000) (he : 0 < ex ∧ ex ≤ 100000000) (hn : 0 ≤ now ∧ now ≤ 10000000000) (e1 : (now - ex).fdiv ex = q1) (e2 : now.fdiv ex = q2) (e3 : (ex - now).fdiv ex = q3) (b1 : -1 ≤ q1 ∧ q1 ≤ 9999999999) (b2 : 0 ≤ q2 ∧ q2 ≤ 9999999999) (b3 : -9999999999 ≤ q3 ∧ q3 ≤ 1)
    (hret : ∀ D pv u1 u2 h' tk', Fr h₀ L h' m → News h₀ L h' ((D, pairObj pv (winKey key q2) u1 u2) :: news) → (∀ p ∈ news, p.1 < D) → (ex ≤ now → pv = winKey key q1) → Q (.ref D) { s with heap := h', toks := tk' }) :
    codeAny (model row.prog w) (ktrTop dp un gd cn cs L a ccd cl outer) (.call (.ref 325) ⟨[C, .str key t1, .int ex t2, .int now t3], []⟩) (fun r s' => match r with | .ok (.ret v) => Q v s' | .ok _ => False | .error e => E e s') s := by
  revert X
  k_fill
  intro X
  k_dflt k_extra "ktr_enter"
  k_steps
  all_goals first | exact hret _ _ _ _ _ _ (by k_asm) (by assumption) (by with_reducible assumption) (fun _ => rfl) | exact hret _ _ _ _ _ _ (by k_asm) (by assumption) (by with_reducible assumption) (fun h => absurd h (by omega))
theorem c_keysM (B : Below A₀ base outer h₀) (F : Fr h₀ L s.heap m) (X : (hd.heap_1 w.params).In h₀) (N : News h₀ L s.heap news) (T : Top tp tl mean mg mb h₀) (hk : cs.kind = .function) (hdp : dp + 1 < recursionLimit) (hun : un + 8 < cLine) {C : Value} {key : Str} {ex now q1 q2 q3 : Int} {t1 t2 t3 : Tok} (hkl : key.length ≤ 2000) (he : 0 < ex ∧ ex ≤ 100000000) (hn : 0 ≤ now ∧ now ≤ 10000000000) (e1 : (now - ex).fdiv ex = q1) (e2 : now.fdiv ex = q2) (e3 : (ex - now).fdiv ex = q3) (b1 : -1 ≤ q1 ∧ q1 ≤ 9999999999) (b2 : 0 ≤ q2 ∧ q2 ≤ 9999999999) (b3 : -9999999999 ≤ q3 ∧ q3 ≤ 1) {q : Addr} (hq : (q, methodObj (.ref 325) C) ∈ news)
    (hret : ∀ D pv u1 u2 h' tk', Fr h₀ L h' m → News h₀ L h' ((D, pairObj pv (winKey key q2) u1 u2) :: news) → (∀ p ∈ news, p.1 < D) → (ex ≤ now → pv = winKey key q1) → Q (.ref D) { s with heap := h', toks := tk' }) :
    wpAny (model row.prog w) (ktrTop dp un gd cn cs L a ccd cl outer) (call (.ref q) [.str key t1, .int ex t2, .int now t3]) Q E s := by
  exact call_meth N hq (c_keysC B F X N T hk hdp hun hkl he hn e1 e2 e3 b1 b2 b3 hret)
end Lw
end
section
theorem Lw.lay36 : True := by
  w_top off
  k_with_none
  k_with "ktr_enter" => (refine' code_def ?zk1 ?zk2 ?zk3 ?zk4 ?zk5 ?zkA ?zkF ?zkK ?zk6 ?zk7 ?zk8 ?zk9 ?zkB ?_ ?zc2 ?zc3 ?zc4 ?zc5; (case zkA => exact rfl); (case zkF => exact rfl); (case zkK => first | exact rfl | assumption); (case zk1 => k_asm); (case zk2 => k_asm); (case zk3 => k_asm); (case zk4 => k_asm); (case zk5 => k_asm); (case zk6 => k_is); (case zk7 => k_is); (case zk8 => ktr_room); (case zk9 => first | exact BindsTo.of_eq rfl | exact binds_K (by k_in) rfl (by k_is) rfl rfl rfl); (case zc5 => decide); (case zkB => exact locs rfl); (case zc2 => exact rfl); (case zc3 => exact rfl); (case zc4 => exact rfl); k_whole; intro g' L' h' FG' F' N' B' X' T'; (try dsimp only); (try k_fold))
  k_with "f_raise1" => ((case zB => k_asm); (case zF => k_asm); (case zX => k_asm); (case zN => k_asm); (case zT => k_asm); (case zhk => first | exact rfl | assumption); (case zd => ktr_room); (case zu => ktr_units))
  k_with "f_meansF" => (k_whole; intro t9 h9 tk9 F9 N9; (try dsimp only); (try k_fold))
  k_with "f_raise2" => ((case zF => k_asm); (case zX => k_asm); (case zN => k_asm); (case zI => exact Lw.ItemIn.mono (by assumption) (fun _ h => by (repeat (first | exact h | refine List.Mem.tail _ ?_)))))
  k_with "callWith ref" => (k_here; k_dflt (refine' callWith_K ?zk1 ?zk2 ?_; (case zk1 => k_asm); (case zk2 => k_is); k_whole))
  trivial
namespace Lw
open PyProof.V PySem.Spec
noncomputable def storeD (P : Params) (clk dS dE dV : Addr) (t1 t2 t3 t4 : Tok) : Obj := dictOf [⟨PyData.keyHash P "clock", .str "clock" t1, .ref clk⟩, ⟨PyData.keyHash P "storage", .str "storage" t2, .ref dS⟩, ⟨PyData.keyHash P "expirations", .str "expirations" t3, .ref dE⟩, ⟨PyData.keyHash P "events", .str "events" t4, .ref dV⟩] 4
/-- the store's object and its dict -/
noncomputable def StoreIn (P : Params) (led : List (Addr × Obj)) (st clk dS dE : Addr) : Prop := ∃ dst dV t1 t2 t3 t4, (st, instObj 454 dst) ∈ led ∧ (dst, storeD P clk dS dE dV t1 t2 t3 t4) ∈ led
theorem StoreIn.mono {P : Params} {l l' : List (Addr × Obj)} {st clk dS dE : Addr} (h : StoreIn P l st clk dS dE) (hs : ∀ p ∈ l, p ∈ l') : StoreIn P l' st clk dS dE := by
  obtain ⟨d, v, t1, t2, t3, t4, h1, h2⟩ := h
  exact ⟨d, v, t1, t2, t3, t4, hs _ h1, hs _ h2⟩
/-- a dict of texts and numbers -/
noncomputable def TabO (w : World) (o : Obj) (c : List (Str × Int)) : Prop := ∃ k, o.IsDictOf (PySem.strKind row.prog w) k ∧ FlatPairs PyData.str k (kdpD c)
noncomputable def TabIn (w : World) (led : List (Addr × Obj)) (d : Addr) (c : List (Str × Int)) : Prop := ∃ o, (d, o) ∈ led ∧ (d == sysModules) = false ∧ TabO w o c
theorem TabIn.mono {w : World} {l l' : List (Addr × Obj)} {d : Addr} {c : List (Str × Int)} (h : TabIn w l d c) (hs : ∀ p ∈ l, p ∈ l') : TabIn w l' d c := by
  obtain ⟨o, h1, h2, h3⟩ := h
  exact ⟨o, hs _ h1, h2, h3⟩
theorem TabIn.tab {w : World} {led : List (Addr × Obj)} {d : Addr} {c : List (Str × Int)} {h₀ h : Heap} {L : Addr} (T : TabIn w led d c) (N : News h₀ L h led) : StrTab row.prog w h d (kdpD c) := by
  obtain ⟨o, h1, h2, k, h3, h4⟩ := T
  exact TabAt.ofNews N h1 h2 h3 h4
section
variable {w : World} {A : Around} {E : Value → Shared → Prop} {s : Shared} {d : Addr} {c : List (Str × Int)} {k : Str} {e n : Int} {tk te : Tok} {Q : Value → Shared → Prop} {h₀ : Heap} {L : Addr} {led : List (Addr × Obj)}
theorem get2v (N : News h₀ L s.heap led) (T : TabIn w led d c) (hn : kdpLook c k e = n) (h : ∀ t, Q (.int n t) { s with toks := s.toks + 1 }) : wpAny (model row.prog w) A (call (.builtin "dict.get") [.ref d, .str k tk, .int e te]) Q E s :=
  kdp_get2 (T.tab N) (hn ▸ h)
theorem pop0 {dflt : Value} (N : News h₀ L s.heap led) (T : TabIn w led d c) (hk : kdpHas c k = false) (h : Q dflt { s with toks := s.toks + 1 }) : wpAny (model row.prog w) A (call (.builtin "dict.pop") [.ref d, .str k tk, dflt]) Q E s :=
  kt_pop_default PyProof.V.same_str (strKind_is _ _ _ _) (by rfl) (T.tab N) (PySem.F.args_dict_pop_3 _ _ _) (kdpD_none hk) h
theorem meth_get {name : Str} (e : name = "get") {pl : Sem Bool} {Q : Value × List Value → Shared → Prop} (N : News h₀ L s.heap led) (T : TabIn w led d c) (h : Q (.builtin "dict.get", [.ref d]) s) : wpAny (model row.prog w) A (getMethod (.ref d) name pl) Q E s := by subst e; exact getMethod_strTab_get (T.tab N) h
theorem meth_pop {name : Str} (e : name = "pop") {pl : Sem Bool} {Q : Value × List Value → Shared → Prop} (N : News h₀ L s.heap led) (T : TabIn w led d c) (h : Q (.builtin "dict.pop", [.ref d]) s) : wpAny (model row.prog w) A (getMethod (.ref d) name pl) Q E s := by subst e; exact getMethod_tab PySem.F.slot_dict_pop PySem.F.type_dict_pop (T.tab N) h
theorem itemv {value slice : PySem.Expr} (N : News h₀ L s.heap led) (T : TabIn w led d c) (hk : kdpHas c k = true) (hn : kdpLook c k 0 = n) (h : ∀ t, Q (.int n t) { s with toks := s.toks + 1 })
    (hs : subscripted slice false (.ref d) (.str k tk) = operate [.ref d, .str k tk] (getItem (.ref d) (.str k tk)) := by with_unfolding_all rfl) (hg : ∀ r, letTemporaryGo value (.ref d) r = pure () := by intro _; with_unfolding_all rfl) :
    wpAny (model row.prog w) A (subscriptTail value slice (.ref d) (.str k tk)) Q E s := kdp_item (T.tab N) hk (hn ▸ h) hs hg
theorem setv {m : Str → Option Value} {o : Obj} {u : Obj → List (Addr × Obj)} {Q : Unit → Shared → Prop} (F : Fr h₀ L s.heap m) (N : News h₀ L s.heap led) (U : UpdF d o led u) (T : TabO w o c) (hc : c.length ≤ 1000)
    (h : ∀ h' o', Fr h₀ L h' m → News h₀ L h' (u o') → TabO w o' (kdpPut c k n) → Q () { s with heap := h', toks := s.toks + 1 }) : wpAny (model row.prog w) A (setItem (.ref d) (.str k tk) (.int n te)) Q E s := by
  obtain ⟨kk, h1, h2⟩ := T
  exact kdp_setItem F N U h1 h2 (Nat.le_trans hc (by decide)) fun h' o' kvs' F' N' a b => h h' o' F' N' ⟨kvs', a, b⟩
end
noncomputable def Old (now x : Int) (c e : List (Str × Int)) (k : Str) : Prop := now < x ∨ (x = 0 ∧ 0 ≤ now ∧ kdpHas e k = false ∧ kdpHas c k = false)
theorem Old.e {now x : Int} {c e : List (Str × Int)} {k : Str} (h : Old now x c e k) (hx : x ≤ now) : kdpHas e k = false := by
  rcases h with h | h
  · omega
  · exact h.2.2.1
theorem Old.c {now x : Int} {c e : List (Str × Int)} {k : Str} (h : Old now x c e k) (hx : x ≤ now) : kdpHas c k = false := by
  rcases h with h | h
  · omega
  · exact h.2.2.2
theorem put_look (c : List (Str × Int)) (k : Str) (v d : Int) : kdpLook (kdpPut c k v) k d = v := by
  unfold kdpLook kdpPut
  split
  · rename_i h
    induction c with
    | nil => simp at h
    | cons p r ih =>
      by_cases hp : p.1 = k
      · simp [hp]
      · simp only [List.any_cons, hp, decide_false, Bool.false_or] at h
        simpa [hp] using ih h
  · rename_i h
    have : (c.find? fun p => decide (p.1 = k)) = none := by
      rw [List.find?_eq_none]; intro p hp he
      exact h (List.any_eq_true.mpr ⟨p, hp, he⟩)
    rw [List.find?_append, this]; simp
theorem put_look_other (c : List (Str × Int)) {k j : Str} (v d : Int) (hj : j ≠ k) : kdpLook (kdpPut c k v) j d = kdpLook c j d := by
  unfold kdpLook kdpPut
  split
  · rename_i h; clear h
    induction c with
    | nil => rfl
    | cons p r ih =>
      by_cases hp : p.1 = k
      · have : ¬ p.1 = j := fun q => hj (q.symm.trans hp)
        have h2 : ¬ k = j := fun q => hj q.symm
        simpa [hp, this, h2] using ih
      · by_cases hq : p.1 = j
        · have h3 : ¬ p.1 = k := hp
          simp only [List.map_cons, List.find?_cons, hp, hq, decide_false, decide_true, Bool.false_eq_true, if_false]; simp [hj, hq]
        · simpa [hp, hq] using ih
  · have h2 : ¬ k = j := fun q => hj q.symm
    rw [List.find?_append]
    cases c.find? fun p => decide (p.1 = j) <;> simp [h2]
theorem put_has (c : List (Str × Int)) (k : Str) (v : Int) : kdpHas (kdpPut c k v) k = true := by rw [kdpHas_put]; simp
theorem put_has_other (c : List (Str × Int)) {k j : Str} (v : Int) (hj : j ≠ k) : kdpHas (kdpPut c k v) j = kdpHas c j := by rw [kdpHas_put]; simp [hj]
end Lw
theorem Lw.lay37 : True := by
  w_top off
  k_with_none
  k_with "ktr_enter" => (refine' code_def ?zk1 ?zk2 ?zk3 ?zk4 ?zk5 ?zkA ?zkF ?zkK ?zk6 ?zk7 ?zk8 ?zk9 ?zkB ?_ ?zc2 ?zc3 ?zc4 ?zc5; (case zkA => exact rfl); (case zkF => exact rfl); (case zkK => first | exact rfl | assumption); (case zk1 => k_asm); (case zk2 => k_asm); (case zk3 => k_asm); (case zk4 => k_asm); (case zk5 => k_asm); (case zk6 => k_is); (case zk7 => k_is); (case zk8 => ktr_room); (case zk9 => first | exact BindsTo.of_eq rfl | exact binds_K (by k_in) rfl (by k_is) rfl rfl rfl); (case zc5 => decide); (case zkB => exact locs rfl); (case zc2 => exact rfl); (case zc3 => exact rfl); (case zc4 => exact rfl); k_whole; intro g' L' h' FG' F' N' B' X' T'; (try dsimp only); (try k_fold))
  k_with "f_raise1" => ((case zB => k_asm); (case zF => k_asm); (case zX => k_asm); (case zN => k_asm); (case zT => k_asm); (case zhk => first | exact rfl | assumption); (case zd => ktr_room); (case zu => ktr_units))
  k_with "f_meansF" => (k_whole; intro t9 h9 tk9 F9 N9; (try dsimp only); (try k_fold))
  k_with "f_raise2" => ((case zF => k_asm); (case zX => k_asm); (case zN => k_asm); (case zI => exact Lw.ItemIn.mono (by assumption) (fun _ h => by (repeat (first | exact h | refine List.Mem.tail _ ?_)))))
  k_with "callWith ref" => (k_here; k_dflt (refine' callWith_K ?zk1 ?zk2 ?_; (case zk1 => k_asm); (case zk2 => k_is); k_whole))
  trivial
namespace Lw
noncomputable def limD (P : Params) (st : Addr) (t1 : Tok) : Obj := dictOf [⟨PyData.keyHash P "storage", .str "storage" t1, .ref st⟩] 1
noncomputable def LimIn (P : Params) (led : List (Addr × Obj)) (lm st : Addr) : Prop := ∃ dl t1, (lm, instObj 695 dl) ∈ led ∧ (dl, limD P st t1) ∈ led
theorem LimIn.mono {P : Params} {l l' : List (Addr × Obj)} {lm st : Addr} (h : LimIn P l lm st) (hs : ∀ p ∈ l, p ∈ l') : LimIn P l' lm st := by
  obtain ⟨d, t1, h1, h2⟩ := h
  exact ⟨d, t1, hs _ h1, hs _ h2⟩
section
variable {w : World} {A : Around} {E : Value → Shared → Prop} {s : Shared} {h₀ : Heap} {L : Addr} {m : Str → Option Value} {led : List (Addr × Obj)} {st clk dS dE lm : Addr} {expr : Bool} {pl : Sem Bool}
section
variable {Q : Value → Shared → Prop} (F : Fr h₀ L s.heap m) (X : (hd.heap_1 w.params).In h₀) (N : News h₀ L s.heap led)
include F X N
theorem st_storage {name : Str} (e : name = "storage") (I : StoreIn w.params led st clk dS dE) (hq : Q (.ref dS) { s with toks := s.toks + 1 }) : wpAny (model row.prog w) A (getAttr (.ref st) name expr) Q E s := by
  subst e
  revert X
  k_fill
  intro X
  obtain ⟨dst, dV, t1, t2, t3, t4, h1, h2⟩ := I
  unfold storeD at h2
  (refine' get_own F X (InstAt.of_news N h1 h2) ?k1 ?k2 ?k3 ?k4 ?k5 ?k6 hq; (case k1 => k_is); (case k2 => k_is); (case k3 => k_is); (case k4 => k_is); (case k5 => k_get); (case k6 => rfl))
theorem st_expir {name : Str} (e : name = "expirations") (I : StoreIn w.params led st clk dS dE) (hq : Q (.ref dE) { s with toks := s.toks + 1 }) : wpAny (model row.prog w) A (getAttr (.ref st) name expr) Q E s := by
  subst e
  revert X
  k_fill
  intro X
  obtain ⟨dst, dV, t1, t2, t3, t4, h1, h2⟩ := I
  unfold storeD at h2
  (refine' get_own F X (InstAt.of_news N h1 h2) ?k1 ?k2 ?k3 ?k4 ?k5 ?k6 hq; (case k1 => k_is); (case k2 => k_is); (case k3 => k_is); (case k4 => k_is); (case k5 => k_get); (case k6 => rfl))
theorem st_clock {name : Str} (e : name = "clock") (I : StoreIn w.params led st clk dS dE) (hq : Q (.ref clk) { s with toks := s.toks + 1 }) : wpAny (model row.prog w) A (getAttr (.ref st) name expr) Q E s := by
  subst e
  revert X
  k_fill
  intro X
  obtain ⟨dst, dV, t1, t2, t3, t4, h1, h2⟩ := I
  unfold storeD at h2
  (refine' get_own F X (InstAt.of_news N h1 h2) ?k1 ?k2 ?k3 ?k4 ?k5 ?k6 hq; (case k1 => k_is); (case k2 => k_is); (case k3 => k_is); (case k4 => k_is); (case k5 => k_get); (case k6 => rfl))
theorem lm_storage {name : Str} (e : name = "storage") (I : LimIn w.params led lm st) (hq : Q (.ref st) { s with toks := s.toks + 1 }) : wpAny (model row.prog w) A (getAttr (.ref lm) name expr) Q E s := by
  subst e
  revert X
  k_fill
  intro X
  obtain ⟨dl, t1, h1, h2⟩ := I
  unfold limD at h2
  (refine' get_own F X (InstAt.of_news N h1 h2) ?k1 ?k2 ?k3 ?k4 ?k5 ?k6 hq; (case k1 => k_is); (case k2 => k_is); (case k3 => k_is); (case k4 => k_is); (case k5 => k_get); (case k6 => rfl))
end
section
variable (F : Fr h₀ L s.heap m) (X : (hd.heap_1 w.params).In h₀) (N : News h₀ L s.heap led)
include F X N
theorem st_clockM {name : Str} (e : name = "clock") (I : StoreIn w.params led st clk dS dE) {Q : Value × List Value → Shared → Prop} (hq : Q (.ref clk, []) { s with toks := s.toks + 1 }) : wpAny (model row.prog w) A (getMethod (.ref st) name pl) Q E s := by
  subst e
  have ha := st_clock (w := w) (A := A) (E := E) (expr := false) (Q := fun v s' => Q (v, []) s') F X N rfl I hq
  revert X
  k_fill
  intro X
  obtain ⟨dst, dV, t1, t2, t3, t4, h1, h2⟩ := I
  (refine' method_usual (X.keeps F.keep) (InstAt.of_news N h1 h2) ?k1 ?k2 (r := none) ?k3 rfl ha; (case k1 => k_is); (case k2 => k_is); (case k3 => k_is))
theorem st_swk {name : Str} (e : name = "sliding_window_keys") (I : StoreIn w.params led st clk dS dE) {Q : Value × List Value → Shared → Prop} (hq : ∀ q h', Fr h₀ L h' m → News h₀ L h' ((q, methodObj (.ref 325) (.ref 454)) :: led) → (∀ r ∈ led, r.1 < q) → Q (.ref q, []) { s with heap := h', toks := s.toks + 1 }) : wpAny (model row.prog w) A (getMethod (.ref st) name pl) Q E s := by
  subst e
  revert X
  k_fill
  intro X
  obtain ⟨dst, dV, t1, t2, t3, t4, h1, h2⟩ := I
  unfold storeD at h2
  (refine' kmu_cm F X N (InstAt.of_news N h1 h2) ?k5 ?k6 ?k7 ?k8 ?k9 ?k10 ?k11 ?k12 ?k13 hq; (case k5 => k_is); (case k6 => k_is); (case k7 => k_is); (case k8 => k_is); (case k9 => k_is); (case k10 => k_is); (case k11 => decide +kernel); (case k12 => k_get); (case k13 => k_is))
theorem st_get {name : Str} (e : name = "get") (I : StoreIn w.params led st clk dS dE) {Q : Value × List Value → Shared → Prop} (hq : Q (.ref 379, [.ref st]) s) : wpAny (model row.prog w) A (getMethod (.ref st) name pl) Q E s := by
  subst e
  revert X
  k_fill
  intro X
  obtain ⟨dst, dV, t1, t2, t3, t4, h1, h2⟩ := I
  unfold storeD at h2
  (refine' method_inst F X (InstAt.of_news N h1 h2) ?k1 ?k2 ?k3 ?k4 hq; (case k1 => k_is); (case k2 => k_is); (case k3 => k_is); (case k4 => k_get))
theorem st_incr {name : Str} (e : name = "incr") (I : StoreIn w.params led st clk dS dE) {Q : Value × List Value → Shared → Prop} (hq : Q (.ref 364, [.ref st]) s) : wpAny (model row.prog w) A (getMethod (.ref st) name pl) Q E s := by
  subst e
  revert X
  k_fill
  intro X
  obtain ⟨dst, dV, t1, t2, t3, t4, h1, h2⟩ := I
  unfold storeD at h2
  (refine' method_inst F X (InstAt.of_news N h1 h2) ?k1 ?k2 ?k3 ?k4 hq; (case k1 => k_is); (case k2 => k_is); (case k3 => k_is); (case k4 => k_get))
theorem st_info {name : Str} (e : name = "_get_sliding_window_info") (I : StoreIn w.params led st clk dS dE) {Q : Value × List Value → Shared → Prop} (hq : Q (.ref 423, [.ref st]) s) : wpAny (model row.prog w) A (getMethod (.ref st) name pl) Q E s := by
  subst e
  revert X
  k_fill
  intro X
  obtain ⟨dst, dV, t1, t2, t3, t4, h1, h2⟩ := I
  unfold storeD at h2
  (refine' method_inst F X (InstAt.of_news N h1 h2) ?k1 ?k2 ?k3 ?k4 hq; (case k1 => k_is); (case k2 => k_is); (case k3 => k_is); (case k4 => k_get))
theorem st_acq {name : Str} (e : name = "acquire_sliding_window_entry") (I : StoreIn w.params led st clk dS dE) {Q : Value × List Value → Shared → Prop} (hq : Q (.ref 416, [.ref st]) s) : wpAny (model row.prog w) A (getMethod (.ref st) name pl) Q E s := by
  subst e
  revert X
  k_fill
  intro X
  obtain ⟨dst, dV, t1, t2, t3, t4, h1, h2⟩ := I
  unfold storeD at h2
  (refine' method_inst F X (InstAt.of_news N h1 h2) ?k1 ?k2 ?k3 ?k4 hq; (case k1 => k_is); (case k2 => k_is); (case k3 => k_is); (case k4 => k_get))
theorem st_gsw {name : Str} (e : name = "get_sliding_window") (I : StoreIn w.params led st clk dS dE) {Q : Value × List Value → Shared → Prop} (hq : Q (.ref 430, [.ref st]) s) : wpAny (model row.prog w) A (getMethod (.ref st) name pl) Q E s := by
  subst e
  revert X
  k_fill
  intro X
  obtain ⟨dst, dV, t1, t2, t3, t4, h1, h2⟩ := I
  unfold storeD at h2
  (refine' method_inst F X (InstAt.of_news N h1 h2) ?k1 ?k2 ?k3 ?k4 hq; (case k1 => k_is); (case k2 => k_is); (case k3 => k_is); (case k4 => k_get))
theorem lm_hit {name : Str} (e : name = "hit") (I : LimIn w.params led lm st) {Q : Value × List Value → Shared → Prop} (hq : Q (.ref 665, [.ref lm]) s) : wpAny (model row.prog w) A (getMethod (.ref lm) name pl) Q E s := by
  subst e
  revert X
  k_fill
  intro X
  obtain ⟨dl, t1, h1, h2⟩ := I
  unfold limD at h2
  (refine' method_inst F X (InstAt.of_news N h1 h2) ?k1 ?k2 ?k3 ?k4 hq; (case k1 => k_is); (case k2 => k_is); (case k3 => k_is); (case k4 => k_get))
theorem lm_stats {name : Str} (e : name = "get_window_stats") (I : LimIn w.params led lm st) {Q : Value × List Value → Shared → Prop} (hq : Q (.ref 683, [.ref lm]) s) : wpAny (model row.prog w) A (getMethod (.ref lm) name pl) Q E s := by
  subst e
  revert X
  k_fill
  intro X
  obtain ⟨dl, t1, h1, h2⟩ := I
  unfold limD at h2
  (refine' method_inst F X (InstAt.of_news N h1 h2) ?k1 ?k2 ?k3 ?k4 hq; (case k1 => k_is); (case k2 => k_is); (case k3 => k_is); (case k4 => k_get))
theorem lm_wc {name : Str} (e : name = "_weighted_count") (I : LimIn w.params led lm st) {Q : Value × List Value → Shared → Prop} (hq : Q (.ref 656, [.ref lm]) s) : wpAny (model row.prog w) A (getMethod (.ref lm) name pl) Q E s := by
  subst e
  revert X
  k_fill
  intro X
  obtain ⟨dl, t1, h1, h2⟩ := I
  unfold limD at h2
  (refine' method_inst F X (InstAt.of_news N h1 h2) ?k1 ?k2 ?k3 ?k4 hq; (case k1 => k_is); (case k2 => k_is); (case k3 => k_is); (case k4 => k_get))
end
end
end Lw
end
section
theorem Lw.lay38 : True := by
  w_top off
  k_with_none
  k_with "ktr_enter" => (refine' code_def ?zk1 ?zk2 ?zk3 ?zk4 ?zk5 ?zkA ?zkF ?zkK ?zk6 ?zk7 ?zk8 ?zk9 ?zkB ?_ ?zc2 ?zc3 ?zc4 ?zc5; (case zkA => exact rfl); (case zkF => exact rfl); (case zkK => first | exact rfl | assumption); (case zk1 => k_asm); (case zk2 => k_asm); (case zk3 => k_asm); (case zk4 => k_asm); (case zk5 => k_asm); (case zk6 => k_is); (case zk7 => k_is); (case zk8 => ktr_room); (case zk9 => first | exact BindsTo.of_eq rfl | exact binds_K (by k_in) rfl (by k_is) rfl rfl rfl); (case zc5 => decide); (case zkB => exact locs rfl); (case zc2 => exact rfl); (case zc3 => exact rfl); (case zc4 => exact rfl); k_whole; intro g' L' h' FG' F' N' B' X' T'; (try dsimp only); (try k_fold))
  k_with "f_raise1" => ((case zB => k_asm); (case zF => k_asm); (case zX => k_asm); (case zN => k_asm); (case zT => k_asm); (case zhk => first | exact rfl | assumption); (case zd => ktr_room); (case zu => ktr_units))
  k_with "f_meansF" => (k_whole; intro t9 h9 tk9 F9 N9; (try dsimp only); (try k_fold))
  k_with "f_raise2" => ((case zF => k_asm); (case zX => k_asm); (case zN => k_asm); (case zI => exact Lw.ItemIn.mono (by assumption) (fun _ h => by (repeat (first | exact h | refine List.Mem.tail _ ?_)))))
  k_with "f_int" => first | with_reducible assumption | exact Lw.ClockIn.mono (by with_reducible assumption) (fun _ h => by (repeat (first | exact h | refine List.Mem.tail _ ?_))) | exact Lw.StoreIn.mono (by with_reducible assumption) (fun _ h => by (repeat (first | exact h | refine List.Mem.tail _ ?_))) | exact Lw.TabIn.mono (by with_reducible assumption) (fun _ h => by (repeat (first | exact h | refine List.Mem.tail _ ?_))) | exact Lw.LimIn.mono (by with_reducible assumption) (fun _ h => by (repeat (first | exact h | refine List.Mem.tail _ ?_))) | exact ⟨_, by k_mem, by with_reducible assumption, by with_reducible assumption⟩
  k_with "call ref" => (k_here; (with_reducible show wpAny _ _ (call (Value.ref _) []) _ _ _); k_dflt (refine' Lw.c_clock ?zB ?zF ?zX ?zN ?zT ?zhk ?zd ?zu ?zi ?_; k_extra "f_raise1"; (case zi => k_extra "f_int"); k_extra "f_meansF"))
  k_with "callWith ref" => (k_here; k_dflt (refine callWith_F0 (Lw.ClockIn.fnAt (by k_asm) (by k_extra "f_int")) ?_; k_whole; try dsimp only [List.nil_append, List.cons_append]))
  k_with "call builtin:dict.get" => (k_here; k_dflt (refine Lw.get2v (by k_asm) (by k_extra "f_int") (by with_reducible assumption) ?_); intro _)
  k_with "call builtin:dict.pop" => (k_here; k_dflt (first | refine Lw.pop0 (by k_asm) (by k_extra "f_int") (Lw.Old.e (by with_reducible assumption) (by with_reducible assumption)) ?_ | refine Lw.pop0 (by k_asm) (by k_extra "f_int") (Lw.Old.c (by with_reducible assumption) (by with_reducible assumption)) ?_))
  k_with "getAttr ref" => (k_here; k_dflt (first | refine Lw.st_storage (by k_asm) (by k_asm) (by k_asm) (by with_reducible rfl) (by k_extra "f_int") ?_ | refine Lw.st_expir (by k_asm) (by k_asm) (by k_asm) (by with_reducible rfl) (by k_extra "f_int") ?_))
  k_with "getMethod ref" => (k_here; k_dflt (first | refine Lw.meth_get (by with_reducible rfl) (by k_asm) (by k_extra "f_int") ?_ | refine Lw.meth_pop (by with_reducible rfl) (by k_asm) (by k_extra "f_int") ?_ | refine Lw.st_clockM (by k_asm) (by k_asm) (by k_asm) (by with_reducible rfl) (by k_extra "f_int") ?_))
  k_with "callWith ref" => (k_here; k_dflt (refine' callWith_K ?zk1 ?zk2 ?_; (case zk1 => k_asm); (case zk2 => k_is); k_whole))
  trivial
namespace Lw
variable {w : World} {tp : Program} {tl : List Str} {mean : ExcName → Option Value} {mg mb : Str → Option Value} {dp un : Nat} {gd : Option (List Code)} {cn : Str} {cs : Scope} {a : Addr} {ccd : Value} {cl : List (Str × Addr)} {outer : List Env} {A₀ : Around} {base h₀ : Heap} {L : Addr} {m : Str → Option Value} {news : List (Addr × Obj)} {s : Shared} {Q E : Value → Shared → Prop}
theorem c_get (B : Below A₀ base outer h₀) (F : Fr h₀ L s.heap m) (X : (hd.heap_1 w.params).In h₀) (N : News h₀ L s.heap news) (T : Top tp tl mean mg mb h₀) (hk : cs.kind = .function) (hdp : dp + 2 < recursionLimit) (hun : un + 16 < cLine) {st clk dS dE : Addr} {now x n : Int} {c e : List (Str × Int)} {key : Str} {t1 : Tok} (I : StoreIn w.params news st clk dS dE) (J : ClockIn news clk now) (TS : TabIn w news dS c) (TE : TabIn w news dE e) (hx : kdpLook e key 0 = x) (hn : kdpLook c key 0 = n) (ho : Old now x c e key)
    (hret : ∀ t h' tk', Fr h₀ L h' m → News h₀ L h' news → Q (.int n t) { s with heap := h', toks := tk' }) :
    wpAny (model row.prog w) (ktrTop dp un gd cn cs L a ccd cl outer) (call (.ref 379) [.ref st, .str key t1]) Q E s := by
  revert X
  k_fill
  intro X
  refine wpAny_call ?_
  k_dflt k_extra "ktr_enter"
  k_steps
  all_goals exact hret _ _ _ (by k_asm) (by k_asm)
end Lw
end
section
theorem Lw.lay39 : True := by
  w_top off
  k_with_none
  k_with "ktr_enter" => (refine' code_def ?zk1 ?zk2 ?zk3 ?zk4 ?zk5 ?zkA ?zkF ?zkK ?zk6 ?zk7 ?zk8 ?zk9 ?zkB ?_ ?zc2 ?zc3 ?zc4 ?zc5; (case zkA => exact rfl); (case zkF => exact rfl); (case zkK => first | exact rfl | assumption); (case zk1 => k_asm); (case zk2 => k_asm); (case zk3 => k_asm); (case zk4 => k_asm); (case zk5 => k_asm); (case zk6 => k_is); (case zk7 => k_is); (case zk8 => ktr_room); (case zk9 => first | exact BindsTo.of_eq rfl | exact binds_K (by k_in) rfl (by k_is) rfl rfl rfl); (case zc5 => decide); (case zkB => exact locs rfl); (case zc2 => exact rfl); (case zc3 => exact rfl); (case zc4 => exact rfl); k_whole; intro g' L' h' FG' F' N' B' X' T'; (try dsimp only); (try k_fold))
  k_with "f_raise1" => ((case zB => k_asm); (case zF => k_asm); (case zX => k_asm); (case zN => k_asm); (case zT => k_asm); (case zhk => first | exact rfl | assumption); (case zd => ktr_room); (case zu => ktr_units))
  k_with "f_meansF" => (k_whole; intro t9 h9 tk9 F9 N9; (try dsimp only); (try k_fold))
  k_with "f_raise2" => ((case zF => k_asm); (case zX => k_asm); (case zN => k_asm); (case zI => exact Lw.ItemIn.mono (by assumption) (fun _ h => by (repeat (first | exact h | refine List.Mem.tail _ ?_)))))
  k_with "callWith ref" => (k_here; k_dflt (refine' callWith_K ?zk1 ?zk2 ?_; (case zk1 => k_asm); (case zk2 => k_is); k_whole))
  trivial
namespace Lw
noncomputable def infoObj (n ttl : Int) (u1 u2 u3 u4 : Tok) : Obj := { cls := .type "tuple", data := .seq #[.int 0 u1, .int 0 u2, .int n u3, .int ttl u4] }
end Lw
theorem Lw.lay40 : True := by
  w_top off
  k_with_none
  k_with "ktr_enter" => (refine' code_def ?zk1 ?zk2 ?zk3 ?zk4 ?zk5 ?zkA ?zkF ?zkK ?zk6 ?zk7 ?zk8 ?zk9 ?zkB ?_ ?zc2 ?zc3 ?zc4 ?zc5; (case zkA => exact rfl); (case zkF => exact rfl); (case zkK => first | exact rfl | assumption); (case zk1 => k_asm); (case zk2 => k_asm); (case zk3 => k_asm); (case zk4 => k_asm); (case zk5 => k_asm); (case zk6 => k_is); (case zk7 => k_is); (case zk8 => ktr_room); (case zk9 => first | exact BindsTo.of_eq rfl | exact binds_K (by k_in) rfl (by k_is) rfl rfl rfl); (case zc5 => decide); (case zkB => exact locs rfl); (case zc2 => exact rfl); (case zc3 => exact rfl); (case zc4 => exact rfl); k_whole; intro g' L' h' FG' F' N' B' X' T'; (try dsimp only); (try k_fold))
  k_with "f_raise1" => ((case zB => k_asm); (case zF => k_asm); (case zX => k_asm); (case zN => k_asm); (case zT => k_asm); (case zhk => first | exact rfl | assumption); (case zd => ktr_room); (case zu => ktr_units))
  k_with "f_meansF" => (k_whole; intro t9 h9 tk9 F9 N9; (try dsimp only); (try k_fold))
  k_with "f_raise2" => ((case zF => k_asm); (case zX => k_asm); (case zN => k_asm); (case zI => exact Lw.ItemIn.mono (by assumption) (fun _ h => by (repeat (first | exact h | refine List.Mem.tail _ ?_)))))
  k_with "f_int" => first | with_reducible assumption | exact Lw.ClockIn.mono (by with_reducible assumption) (fun _ h => by (repeat (first | exact h | refine List.Mem.tail _ ?_))) | exact Lw.StoreIn.mono (by with_reducible assumption) (fun _ h => by (repeat (first | exact h | refine List.Mem.tail _ ?_))) | exact Lw.TabIn.mono (by with_reducible assumption) (fun _ h => by (repeat (first | exact h | refine List.Mem.tail _ ?_))) | exact Lw.LimIn.mono (by with_reducible assumption) (fun _ h => by (repeat (first | exact h | refine List.Mem.tail _ ?_))) | exact ⟨_, by k_mem, by with_reducible assumption, by with_reducible assumption⟩
  k_with "call ref" => (k_here; (with_reducible show wpAny _ _ (call (Value.ref _) []) _ _ _); k_dflt (refine' Lw.c_clock ?zB ?zF ?zX ?zN ?zT ?zhk ?zd ?zu ?zi ?_; k_extra "f_raise1"; (case zi => k_extra "f_int"); k_extra "f_meansF"))
  k_with "callWith ref" => (k_here; k_dflt (refine callWith_F0 (Lw.ClockIn.fnAt (by k_asm) (by k_extra "f_int")) ?_; k_whole; try dsimp only [List.nil_append, List.cons_append]))
  k_with "call builtin:dict.get" => (k_here; k_dflt (refine Lw.get2v (by k_asm) (by k_extra "f_int") (by with_reducible assumption) ?_); intro _)
  k_with "call builtin:dict.pop" => (k_here; k_dflt (first | refine Lw.pop0 (by k_asm) (by k_extra "f_int") (Lw.Old.e (by with_reducible assumption) (by with_reducible assumption)) ?_ | refine Lw.pop0 (by k_asm) (by k_extra "f_int") (Lw.Old.c (by with_reducible assumption) (by with_reducible assumption)) ?_))
  k_with "getAttr ref" => (k_here; k_dflt (first | refine Lw.st_storage (by k_asm) (by k_asm) (by k_asm) (by with_reducible rfl) (by k_extra "f_int") ?_ | refine Lw.st_expir (by k_asm) (by k_asm) (by k_asm) (by with_reducible rfl) (by k_extra "f_int") ?_))
  k_with "getMethod ref" => (k_here; k_dflt (first | refine Lw.meth_get (by with_reducible rfl) (by k_asm) (by k_extra "f_int") ?_ | refine Lw.meth_pop (by with_reducible rfl) (by k_asm) (by k_extra "f_int") ?_ | refine Lw.st_clockM (by k_asm) (by k_asm) (by k_asm) (by with_reducible rfl) (by k_extra "f_int") ?_))
  k_with "getMethod ref" => (k_here; k_dflt (refine Lw.st_get (by k_asm) (by k_asm) (by k_asm) (by with_reducible rfl) (by k_extra "f_int") ?_))
  k_with "call ref" => (k_here; (with_reducible show wpAny _ _ (call (Value.ref 379) _) _ _ _); k_dflt (refine' Lw.c_get ?zB ?zF ?zX ?zN ?zT ?zhk ?zd ?zu ?zi ?zj ?zts ?zte ?zx ?zn ?zo ?_; k_extra "f_raise1"; (case zi => k_extra "f_int"); (case zj => k_extra "f_int"); (case zts => k_extra "f_int"); (case zte => k_extra "f_int"); (case zx => with_reducible assumption); (case zn => with_reducible assumption); (case zo => with_reducible assumption); k_extra "f_meansF"))
  k_with "callWith ref" => (k_here; k_dflt (refine' callWith_K ?zk1 ?zk2 ?_; (case zk1 => k_asm); (case zk2 => k_is); k_whole))
  trivial
namespace Lw
variable {w : World} {tp : Program} {tl : List Str} {mean : ExcName → Option Value} {mg mb : Str → Option Value} {dp un : Nat} {gd : Option (List Code)} {cn : Str} {cs : Scope} {a : Addr} {ccd : Value} {cl : List (Str × Addr)} {outer : List Env} {A₀ : Around} {base h₀ : Heap} {L : Addr} {m : Str → Option Value} {news : List (Addr × Obj)} {s : Shared} {Q E : Value → Shared → Prop}
theorem c_info (B : Below A₀ base outer h₀) (F : Fr h₀ L s.heap m) (X : (hd.heap_1 w.params).In h₀) (N : News h₀ L s.heap news) (T : Top tp tl mean mg mb h₀) (hk : cs.kind = .function) (hdp : dp + 3 < recursionLimit) (hun : un + 24 < cLine) {st clk dS dE : Addr} {pk ck : Str} {ex now n x : Int} {c e : List (Str × Int)} {t1 t2 t3 t4 : Tok} (I : StoreIn w.params news st clk dS dE) (J : ClockIn news clk now) (TS : TabIn w news dS c) (TE : TabIn w news dE e) (he : 0 < ex ∧ ex ≤ 100000000) (xp : kdpLook e pk 0 = 0) (np : kdpLook c pk 0 = 0) (op : Old now 0 c e pk) (xc : kdpLook e ck 0 = x) (nc : kdpLook c ck 0 = n) (oc : Old now x c e ck)
    (hret : ∀ D u1 u2 u3 u4 h' tk', Fr h₀ L h' m → News h₀ L h' ((D, infoObj n (ex - now.fmod ex + ex) u1 u2 u3 u4) :: news) → (∀ p ∈ news, p.1 < D) → Q (.ref D) { s with heap := h', toks := tk' }) :
    wpAny (model row.prog w) (ktrTop dp un gd cn cs L a ccd cl outer) (call (.ref 423) [.ref st, .str pk t1, .str ck t2, .int ex t3, .int now t4]) Q E s := by
  revert X
  k_fill
  intro X
  refine wpAny_call ?_
  k_dflt k_extra "ktr_enter"
  k_steps
  all_goals exact hret _ _ _ _ _ _ _ (by k_asm) (by assumption) (by with_reducible assumption)
end Lw
end
section
local macro_rules | `(tactic| k_all) => `(tactic| k_extra "k_all")
theorem Lw.lay41 : True := by
  w_top off
  k_with_none
  k_with "ktr_enter" => (refine' code_def ?zk1 ?zk2 ?zk3 ?zk4 ?zk5 ?zkA ?zkF ?zkK ?zk6 ?zk7 ?zk8 ?zk9 ?zkB ?_ ?zc2 ?zc3 ?zc4 ?zc5; (case zkA => exact rfl); (case zkF => exact rfl); (case zkK => first | exact rfl | assumption); (case zk1 => k_asm); (case zk2 => k_asm); (case zk3 => k_asm); (case zk4 => k_asm); (case zk5 => k_asm); (case zk6 => k_is); (case zk7 => k_is); (case zk8 => ktr_room); (case zk9 => first | exact BindsTo.of_eq rfl | exact binds_K (by k_in) rfl (by k_is) rfl rfl rfl); (case zc5 => decide); (case zkB => exact locs rfl); (case zc2 => exact rfl); (case zc3 => exact rfl); (case zc4 => exact rfl); k_whole; intro g' L' h' FG' F' N' B' X' T'; (try dsimp only); (try k_fold))
  k_with "f_raise1" => ((case zB => k_asm); (case zF => k_asm); (case zX => k_asm); (case zN => k_asm); (case zT => k_asm); (case zhk => first | exact rfl | assumption); (case zd => ktr_room); (case zu => ktr_units))
  k_with "f_meansF" => (k_whole; intro t9 h9 tk9 F9 N9; (try dsimp only); (try k_fold))
  k_with "f_raise2" => ((case zF => k_asm); (case zX => k_asm); (case zN => k_asm); (case zI => exact Lw.ItemIn.mono (by assumption) (fun _ h => by (repeat (first | exact h | refine List.Mem.tail _ ?_)))))
  k_with "f_int" => first | with_reducible assumption | exact Lw.ClockIn.mono (by with_reducible assumption) (fun _ h => by (repeat (first | exact h | refine List.Mem.tail _ ?_))) | exact Lw.StoreIn.mono (by with_reducible assumption) (fun _ h => by (repeat (first | exact h | refine List.Mem.tail _ ?_))) | exact Lw.TabIn.mono (by with_reducible assumption) (fun _ h => by (repeat (first | exact h | refine List.Mem.tail _ ?_))) | exact Lw.LimIn.mono (by with_reducible assumption) (fun _ h => by (repeat (first | exact h | refine List.Mem.tail _ ?_))) | exact ⟨_, by k_mem, by with_reducible assumption, by with_reducible assumption⟩
  k_with "call ref" => (k_here; (with_reducible show wpAny _ _ (call (Value.ref _) []) _ _ _); k_dflt (refine' Lw.c_clock ?zB ?zF ?zX ?zN ?zT ?zhk ?zd ?zu ?zi ?_; k_extra "f_raise1"; (case zi => k_extra "f_int"); k_extra "f_meansF"))
  k_with "callWith ref" => (k_here; k_dflt (refine callWith_F0 (Lw.ClockIn.fnAt (by k_asm) (by k_extra "f_int")) ?_; k_whole; try dsimp only [List.nil_append, List.cons_append]))
  k_with "binaryOp FloorDiv int int" => (k_here; k_dflt (refine Lw.fdiv_known (by omega) (by with_reducible assumption) (PyProof.noPylong_small (by omega)) ?_))
  k_with "call builtin:dict.get" => (k_here; k_dflt (refine Lw.get2v (by k_asm) (by k_extra "f_int") (by with_reducible assumption) ?_); intro _)
  k_with "call builtin:dict.pop" => (k_here; k_dflt (first | refine Lw.pop0 (by k_asm) (by k_extra "f_int") (Lw.Old.e (by with_reducible assumption) (by with_reducible assumption)) ?_ | refine Lw.pop0 (by k_asm) (by k_extra "f_int") (Lw.Old.c (by with_reducible assumption) (by with_reducible assumption)) ?_))
  k_with "getAttr ref" => (k_here; k_dflt (first | refine Lw.st_storage (by k_asm) (by k_asm) (by k_asm) (by with_reducible rfl) (by k_extra "f_int") ?_ | refine Lw.st_expir (by k_asm) (by k_asm) (by k_asm) (by with_reducible rfl) (by k_extra "f_int") ?_))
  k_with "getMethod ref" => (k_here; k_dflt (first | refine Lw.meth_get (by with_reducible rfl) (by k_asm) (by k_extra "f_int") ?_ | refine Lw.meth_pop (by with_reducible rfl) (by k_asm) (by k_extra "f_int") ?_ | refine Lw.st_clockM (by k_asm) (by k_asm) (by k_asm) (by with_reducible rfl) (by k_extra "f_int") ?_))
  k_with "getMethod ref" => (k_here; k_dflt (refine Lw.st_get (by k_asm) (by k_asm) (by k_asm) (by with_reducible rfl) (by k_extra "f_int") ?_))
  k_with "call ref" => (k_here; (with_reducible show wpAny _ _ (call (Value.ref 379) _) _ _ _); k_dflt (refine' Lw.c_get ?zB ?zF ?zX ?zN ?zT ?zhk ?zd ?zu ?zi ?zj ?zts ?zte ?zx ?zn ?zo ?_; k_extra "f_raise1"; (case zi => k_extra "f_int"); (case zj => k_extra "f_int"); (case zts => k_extra "f_int"); (case zte => k_extra "f_int"); (case zx => with_reducible assumption); (case zn => with_reducible assumption); (case zo => with_reducible assumption); k_extra "f_meansF"))
  k_with "getMethod ref" => (k_here; k_dflt (first | refine Lw.st_incr (by k_asm) (by k_asm) (by k_asm) (by with_reducible rfl) (by k_extra "f_int") ?_ | refine Lw.st_info (by k_asm) (by k_asm) (by k_asm) (by with_reducible rfl) (by k_extra "f_int") ?_))
  k_with "k_all" => with_reducible assumption
  k_with "call ref" => (k_here; (with_reducible show wpAny _ _ (call (Value.ref 364) _ _) _ _ _); k_dflt (refine wpAny_call ?_; k_extra "ktr_enter"))
  k_with "call ref" => (k_here; (with_reducible show wpAny _ _ (call (Value.ref 423) _) _ _ _); k_dflt (refine' Lw.c_info ?zB ?zF ?zX ?zN ?zT ?zhk ?zd ?zu ?zi ?zj ?zts ?zte ?zx1 ?zx2 ?zx3 ?zx4 ?zx5 ?zx6 ?zx7 ?_; k_extra "f_raise1"; (case zi => k_extra "f_int"); (case zj => k_extra "f_int"); (case zts => k_extra "f_int"); (case zte => k_extra "f_int"); (case zx1 => with_reducible assumption); (case zx2 => with_reducible assumption); (case zx3 => with_reducible assumption); (case zx5 => with_reducible assumption); (case zx6 => with_reducible assumption); (case zx4 => with_reducible assumption); (case zx7 => with_reducible assumption); k_whole; intro D9 u1 u2 u3 u4 h9 tk9 F9 N9 l1; (try k_lt l1); (try dsimp only [Lw.infoObj] at N9); (try dsimp only); (try k_fold)))
  k_with "call ref" => (k_here; (with_reducible show wpAny _ _ (call (Value.ref _) [Value.str _ _, Value.int _ _, Value.int _ _]) _ _ _); k_dflt (refine' Lw.c_keysM ?zB ?zF ?zX ?zN ?zT ?zhk ?zd ?zu ?zx ?zx1 ?zx2 ?zx3 ?zx4 ?zx5 ?zx6 ?zx7 ?zx8 ?zq ?_; k_extra "f_raise1"; (case zq => k_mem); (case zx => with_reducible assumption); (case zx1 => with_reducible assumption); (case zx2 => with_reducible assumption); (case zx3 => with_reducible assumption); (case zx4 => with_reducible assumption); (case zx5 => with_reducible assumption); (case zx6 => with_reducible assumption); (case zx7 => with_reducible assumption); (case zx8 => with_reducible assumption); k_whole; intro D9 pv9 u1 u2 h9 tk9 F9 N9 l1 e9; (have e8 := e9 (by with_reducible assumption)); subst e8; clear e9; (try k_lt l1); (try dsimp only); (try k_fold)))
  k_with "getMethod ref" => (k_here; k_dflt (refine Lw.st_swk (by k_asm) (by k_asm) (by k_asm) (by with_reducible rfl) (by k_extra "f_int") ?_); intro q' h' F' N' l1; (try k_lt l1))
  k_with "setItem ref str" => (k_here; k_dflt (refine' Lw.setv ?zF ?zN ?zU ?zT ?zz ?_; (case zF => k_asm); (case zN => k_asm); (case zU => k_updF); (case zT => with_reducible assumption); (case zz => with_reducible assumption)); intro h' o' F' N' T'; (try dsimp only at N'))
  k_with "subscriptTail" => (k_here; (with_reducible show wpAny _ _ (subscriptTail _ _ (Value.ref _) (Value.str _ _)) _ _ _); k_dflt (refine Lw.itemv (by k_asm) (by k_extra "f_int") (Lw.put_has _ _ _) (Lw.put_look _ _ _ _) ?_); intro _)
  k_with "call builtin:dict.get" => (k_here; k_dflt (refine Lw.get2v (by k_asm) (by k_extra "f_int") (Lw.put_look _ _ _ _) ?_); intro _)
  k_with "callWith ref" => (k_here; k_dflt (refine' callWith_K ?zk1 ?zk2 ?_; (case zk1 => k_asm); (case zk2 => k_is); k_whole))
  trivial
namespace Lw
variable {w : World} {tp : Program} {tl : List Str} {mean : ExcName → Option Value} {mg mb : Str → Option Value} {dp un : Nat} {gd : Option (List Code)} {cn : Str} {cs : Scope} {a : Addr} {ccd : Value} {cl : List (Str × Addr)} {outer : List Env} {A₀ : Around} {base h₀ : Heap} {L : Addr} {m : Str → Option Value} {news : List (Addr × Obj)} {s : Shared} {Q E : Value → Shared → Prop}
/-- what a hit leaves behind -/
noncomputable def Hitted (n lim now ex : Int) (k : Str) (c e : List (Str × Int)) (b : Bool) (c' e' : List (Str × Int)) : Prop := (n + 1 > lim ∧ b = false ∧ c' = c ∧ e' = e) ∨ (n + 1 ≤ lim ∧ b = true ∧ c' = kdpPut c k (n + 1) ∧ e' = if n = 0 then kdpPut e k (now + 2 * ex) else e)
theorem c_acq {st clk dS dE : Addr} {oS oE : Obj} (B : Below A₀ base outer h₀) (F : Fr h₀ L s.heap m) (X : (hd.heap_1 w.params).In h₀) (N : News h₀ L s.heap ((dS, oS) :: (dE, oE) :: news)) (T : Top tp tl mean mg mb h₀) (hk : cs.kind = .function) (hdp : dp + 4 < recursionLimit) (hun : un + 32 < cLine) {key : Str} {lim ex now n x q1 q2 q3 : Int} {c e : List (Str × Int)} {t1 t2 t3 t4 : Tok} (I : StoreIn w.params news st clk dS dE) (J : ClockIn news clk now) (hoS : ∀ p ∈ news, p.1 ≠ dS) (hoE : ∀ p ∈ news, p.1 ≠ dE) (hne : @Ne Nat dS dE) (lS : (dS == sysModules) = false) (lE : (dE == sysModules) = false) (TS : TabO w oS c) (TE : TabO w oE e) (hkl : key.length ≤ 2000) (he : 0 < ex ∧ ex ≤ 100000000) (hn : 0 ≤ now ∧ now ≤ 10000000000) (e1 : (now - ex).fdiv ex = q1) (e2 : now.fdiv ex = q2) (e3 : (ex - now).fdiv ex = q3) (b1 : -1 ≤ q1 ∧ q1 ≤ 9999999999) (b2 : 0 ≤ q2 ∧ q2 ≤ 9999999999) (b3 : -9999999999 ≤ q3 ∧ q3 ≤ 1) (hle : ex ≤ now) (e4 : ((0 : Int) * 0).fdiv ex = 0) (xp : kdpLook e (winKey key q1) 0 = 0) (np : kdpLook c (winKey key q1) 0 = 0) (op : Old now 0 c e (winKey key q1)) (xc : kdpLook e (winKey key q2) 0 = x) (nc : kdpLook c (winKey key q2) 0 = n) (oc : Old now x c e (winKey key q2)) (hn0 : 0 ≤ n ∧ n ≤ 100) (hlim : 0 ≤ lim ∧ lim ≤ 100) (hcl : c.length ≤ 1000) (hel : e.length ≤ 1000)
    (hret : ∀ b oS' oE' c' e' h' tk', Fr h₀ L h' m → News h₀ L h' ((dS, oS') :: (dE, oE') :: news) → TabO w oS' c' → TabO w oE' e' → Hitted n lim now ex (winKey key q2) c e b c' e' → Q (.bool b) { s with heap := h', toks := tk' }) :
    wpAny (model row.prog w) (ktrTop dp un gd cn cs L a ccd cl outer) (call (.ref 416) [.ref st, .str key t1, .int lim t2, .int ex t3, .int 1 t4]) Q E s := by
  revert X
  k_fill
  intro X
  refine wpAny_call ?_
  k_dflt k_extra "ktr_enter"
  k_steps
  all_goals first
    | (refine hret false oS oE c e _ _ (by k_asm) (newsSub (by assumption) (fun _ h => by (repeat (first | exact h | refine List.Mem.tail _ ?_)))) TS TE (.inl ⟨?_, rfl, rfl, rfl⟩); omega)
    | (refine hret true _ _ _ _ _ _ (by k_asm) (newsSub (by assumption) (fun _ h => by (repeat (first | exact h | refine List.Mem.tail _ ?_)))) (by with_reducible assumption) (by with_reducible assumption) (.inr ⟨?_, rfl, rfl, (if_pos ?_).symm⟩) <;> omega)
    | (refine hret true _ _ _ _ _ _ (by k_asm) (newsSub (by assumption) (fun _ h => by (repeat (first | exact h | refine List.Mem.tail _ ?_)))) (by with_reducible assumption) (by with_reducible assumption) (.inr ⟨?_, rfl, rfl, (if_neg ?_).symm⟩) <;> omega)
end Lw
end
section
theorem Lw.lay42 : True := by
  w_top off
  k_with_none
  k_with "ktr_enter" => (refine' code_def ?zk1 ?zk2 ?zk3 ?zk4 ?zk5 ?zkA ?zkF ?zkK ?zk6 ?zk7 ?zk8 ?zk9 ?zkB ?_ ?zc2 ?zc3 ?zc4 ?zc5; (case zkA => exact rfl); (case zkF => exact rfl); (case zkK => first | exact rfl | assumption); (case zk1 => k_asm); (case zk2 => k_asm); (case zk3 => k_asm); (case zk4 => k_asm); (case zk5 => k_asm); (case zk6 => k_is); (case zk7 => k_is); (case zk8 => ktr_room); (case zk9 => first | exact BindsTo.of_eq rfl | exact binds_K (by k_in) rfl (by k_is) rfl rfl rfl); (case zc5 => decide); (case zkB => exact locs rfl); (case zc2 => exact rfl); (case zc3 => exact rfl); (case zc4 => exact rfl); k_whole; intro g' L' h' FG' F' N' B' X' T'; (try dsimp only); (try k_fold))
  k_with "f_raise1" => ((case zB => k_asm); (case zF => k_asm); (case zX => k_asm); (case zN => k_asm); (case zT => k_asm); (case zhk => first | exact rfl | assumption); (case zd => ktr_room); (case zu => ktr_units))
  k_with "f_meansF" => (k_whole; intro t9 h9 tk9 F9 N9; (try dsimp only); (try k_fold))
  k_with "f_raise2" => ((case zF => k_asm); (case zX => k_asm); (case zN => k_asm); (case zI => exact Lw.ItemIn.mono (by assumption) (fun _ h => by (repeat (first | exact h | refine List.Mem.tail _ ?_)))))
  k_with "callWith ref" => (k_here; k_dflt (refine' callWith_K ?zk1 ?zk2 ?_; (case zk1 => k_asm); (case zk2 => k_is); k_whole))
  trivial
namespace Lw
variable {w : World} {tp : Program} {tl : List Str} {mean : ExcName → Option Value} {mg mb : Str → Option Value} {dp un : Nat} {gd : Option (List Code)} {cn : Str} {cs : Scope} {a : Addr} {ccd : Value} {cl : List (Str × Addr)} {outer : List Env} {A₀ : Around} {base h₀ : Heap} {L : Addr} {m : Str → Option Value} {news : List (Addr × Obj)} {s : Shared} {Q E : Value → Shared → Prop}
theorem c_expiryE (B : Below A₀ base outer h₀) (F : Fr h₀ L s.heap m) (X : (hd.heap_1 w.params).In h₀) (N : News h₀ L s.heap news) (T : Top tp tl mean mg mb h₀) (hk : cs.kind = .function) (hdp : dp + 2 < recursionLimit) (hun : un + 16 < cLine) {x : Addr} {it : Item} {ex : Int} (I : ItemIn w.params news x it) (hm : 0 ≤ it.m ∧ it.m < 10) (e : it.k.sec * it.m = ex)
    (hret : ∀ t h' tk', Fr h₀ L h' m → News h₀ L h' news → Q (.int ex t) { s with heap := h', toks := tk' }) :
    wpAny (model row.prog w) (ktrTop dp un gd cn cs L a ccd cl outer) (call (.ref 174) [.ref x]) Q E s :=
  c_expiry B F X N T hk hdp hun I hm (e ▸ hret)
end Lw
theorem Lw.lay43 : True := by
  w_top off
  k_with_none
  k_with "ktr_enter" => (refine' code_def ?zk1 ?zk2 ?zk3 ?zk4 ?zk5 ?zkA ?zkF ?zkK ?zk6 ?zk7 ?zk8 ?zk9 ?zkB ?_ ?zc2 ?zc3 ?zc4 ?zc5; (case zkA => exact rfl); (case zkF => exact rfl); (case zkK => first | exact rfl | assumption); (case zk1 => k_asm); (case zk2 => k_asm); (case zk3 => k_asm); (case zk4 => k_asm); (case zk5 => k_asm); (case zk6 => k_is); (case zk7 => k_is); (case zk8 => ktr_room); (case zk9 => first | exact BindsTo.of_eq rfl | exact binds_K (by k_in) rfl (by k_is) rfl rfl rfl); (case zc5 => decide); (case zkB => exact locs rfl); (case zc2 => exact rfl); (case zc3 => exact rfl); (case zc4 => exact rfl); k_whole; intro g' L' h' FG' F' N' B' X' T'; (try dsimp only); (try k_fold))
  k_with "f_raise1" => ((case zB => k_asm); (case zF => k_asm); (case zX => k_asm); (case zN => k_asm); (case zT => k_asm); (case zhk => first | exact rfl | assumption); (case zd => ktr_room); (case zu => ktr_units))
  k_with "f_meansF" => (k_whole; intro t9 h9 tk9 F9 N9; (try dsimp only); (try k_fold))
  k_with "f_raise2" => ((case zF => k_asm); (case zX => k_asm); (case zN => k_asm); (case zI => exact Lw.ItemIn.mono (by assumption) (fun _ h => by (repeat (first | exact h | refine List.Mem.tail _ ?_)))))
  k_with "f_int" => first | with_reducible assumption | exact Lw.ClockIn.mono (by with_reducible assumption) (fun _ h => by (repeat (first | exact h | refine List.Mem.tail _ ?_))) | exact Lw.StoreIn.mono (by with_reducible assumption) (fun _ h => by (repeat (first | exact h | refine List.Mem.tail _ ?_))) | exact Lw.TabIn.mono (by with_reducible assumption) (fun _ h => by (repeat (first | exact h | refine List.Mem.tail _ ?_))) | exact Lw.LimIn.mono (by with_reducible assumption) (fun _ h => by (repeat (first | exact h | refine List.Mem.tail _ ?_))) | exact ⟨_, by k_mem, by with_reducible assumption, by with_reducible assumption⟩
  k_with "getAttr ref" => (k_here; (with_reducible show wpAny _ _ (getAttr (Value.ref _) (Str.ofString "amount") _) _ _ _); k_dflt (refine' Lw.it_amount ?zF ?zX ?zN ?zI ?_; k_extra "f_raise2"; k_whole; intro t'; (try dsimp only)))
  k_with "getAttr ref" => (k_here; (with_reducible show wpAny _ _ (getAttr (Value.ref _) (Str.ofString "multiples") _) _ _ _); k_dflt (refine' Lw.it_multiples ?zF ?zX ?zN ?zI ?_; k_extra "f_raise2"; k_whole; intro t'; (try dsimp only)))
  k_with "getAttr ref" => (k_here; (with_reducible show wpAny _ _ (getAttr (Value.ref _) (Str.ofString "namespace") _) _ _ _); k_dflt (refine' Lw.it_namespace ?zF ?zX ?zN ?zI ?_; k_extra "f_raise2"; k_whole; intro t'; (try dsimp only)))
  k_with "getAttr ref" => (k_here; (with_reducible show wpAny _ _ (getAttr (Value.ref _) (Str.ofString "GRANULARITY") _) _ _ _); k_dflt (refine' Lw.it_gran ?zF ?zX ?zN ?zI ?_; k_extra "f_raise2"; k_whole; (try dsimp only)))
  k_with "getMethod ref" => (k_here; (with_reducible show wpAny _ _ (getMethod (Value.ref _) (Str.ofString "key_for") _) _ _ _); k_dflt (refine' Lw.it_key_for ?zF ?zX ?zN ?zI ?_; k_extra "f_raise2"; k_whole; (try dsimp only)))
  k_with "getMethod ref" => (k_here; (with_reducible show wpAny _ _ (getMethod (Value.ref _) (Str.ofString "get_expiry") _) _ _ _); k_dflt (refine' Lw.it_get_expiry ?zF ?zX ?zN ?zI ?_; k_extra "f_raise2"; k_whole; (try dsimp only)))
  k_with "getAttr ref" => (k_here; (with_reducible show wpAny _ _ (getAttr (Value.ref (Lw.Wn.gr _)) (Str.ofString "seconds") _) _ _ _); k_dflt (refine' Lw.gr_sec ?zB ?zF ?zX ?zN ?zT ?zhk ?zd ?zu ?_; k_extra "f_raise1"; k_extra "f_meansF"))
  k_with "getAttr ref" => (k_here; (with_reducible show wpAny _ _ (getAttr (Value.ref (Lw.Wn.gr _)) (Str.ofString "name") _) _ _ _); k_dflt (refine' Lw.gr_nm ?zB ?zF ?zX ?zN ?zT ?zhk ?zd ?zu ?_; k_extra "f_raise1"; k_extra "f_meansF"))
  k_with "ki_room" => exact Lw.ItemIn.mono (by with_reducible assumption) (fun _ h => by (repeat (first | exact h | refine List.Mem.tail _ ?_)))
  k_with "call ref" => (k_here; (with_reducible show wpAny _ _ (call (Value.ref 181) [Value.ref _, Value.ref _]) _ _ _); k_dflt (refine' Lw.c_key ?zB ?zF ?zX ?zN ?zT ?zhk ?zd ?zu ?zi ?zx1 ?zx2 ?zx3 ?zx4 ?zx5 ?_; k_extra "f_raise1"; (case zi => k_extra "ki_room"); (case zx1 => with_reducible assumption); (case zx3 => first | with_reducible assumption | exact Fr.tup (by assumption) (by assumption)); (case zx2 => with_reducible assumption); (case zx4 => with_reducible assumption); (case zx5 => with_reducible assumption); k_extra "f_meansF"))
  k_with "call ref" => (k_here; (with_reducible show wpAny _ _ (call (Value.ref 174) _) _ _ _); k_dflt (refine' Lw.c_expiryE ?zB ?zF ?zX ?zN ?zT ?zhk ?zd ?zu ?zi ?zx1 ?zx2 ?_; k_extra "f_raise1"; (case zi => k_extra "ki_room"); (case zx1 => with_reducible assumption); (case zx2 => with_reducible assumption); k_extra "f_meansF"))
  k_with "getAttr ref" => (k_here; k_dflt (refine Lw.lm_storage (by k_asm) (by k_asm) (by k_asm) (by with_reducible rfl) (by k_extra "f_int") ?_))
  k_with "getMethod ref" => (k_here; k_dflt (refine Lw.st_acq (by k_asm) (by k_asm) (by k_asm) (by with_reducible rfl) (by k_extra "f_int") ?_))
  k_with "call ref" => (k_here; (with_reducible show wpAny _ _ (call (Value.ref 416) _) _ _ _); k_dflt (refine' Lw.c_acq ?zB ?zF ?zX ?zN ?zT ?zhk ?zd ?zu ?zi ?zj ?zx1 ?zx2 ?zx3 ?zx4 ?zx5 ?zx6 ?zx7 ?zx8 ?zx9 ?zy1 ?zy2 ?zy3 ?zy4 ?zy5 ?zy6 ?zy7 ?zy8 ?zy9 ?zz1 ?zz2 ?zz3 ?zz4 ?zz5 ?zz6 ?zz7 ?zz8 ?zz9 ?zzz ?_; k_extra "f_raise1"; (case zi => k_extra "f_int"); (case zj => k_extra "f_int"); (case zx6 => with_reducible assumption); (case zx7 => with_reducible assumption); (case zy2 => with_reducible assumption); (case zy3 => with_reducible assumption); (case zy4 => with_reducible assumption); (case zz4 => with_reducible assumption); (case zz5 => with_reducible assumption); (all_goals (try with_reducible assumption)); k_whole; intro b9 o9 p9 c9 e9 h9 tk9 F9 N9 T9 U9 H9; (try dsimp only); (try k_fold)))
  k_with "callWith ref" => (k_here; k_dflt (refine' callWith_K ?zk1 ?zk2 ?_; (case zk1 => k_asm); (case zk2 => k_is); k_whole))
  trivial
namespace Lw
variable {w : World} {tp : Program} {tl : List Str} {mean : ExcName → Option Value} {mg mb : Str → Option Value} {dp un : Nat} {gd : Option (List Code)} {cn : Str} {cs : Scope} {a : Addr} {ccd : Value} {cl : List (Str × Addr)} {outer : List Env} {A₀ : Around} {base h₀ : Heap} {L : Addr} {m : Str → Option Value} {news : List (Addr × Obj)} {s : Shared} {Q E : Value → Shared → Prop}
theorem c_hit {st clk dS dE : Addr} {oS oE : Obj} (B : Below A₀ base outer h₀) (F : Fr h₀ L s.heap m) (X : (hd.heap_1 w.params).In h₀) (N : News h₀ L s.heap ((dS, oS) :: (dE, oE) :: news)) (T : Top tp tl mean mg mb h₀) (hk : cs.kind = .function) (hdp : dp + 9 < recursionLimit) (hun : un + 72 < cLine) {lm nm x : Addr} {it : Item} {l : List Value} {ps : List Str} {ex now n x0 q1 q2 q3 : Int} {c e : List (Str × Int)} (LI : LimIn w.params news lm st) (SI : StoreIn w.params news st clk dS dE) (J : ClockIn news clk now) (I : ItemIn w.params news x it) (ho : it.Ok) (hm : 0 ≤ it.m ∧ it.m < 10) (hS : SafeArgs l ps) (hT : IsTup h₀ nm l.toArray) (hl : l.length ≤ 2) (hp : (ps.map (·.length)).sum ≤ 1000) (hex : it.k.sec * it.m = ex) (hoS : ∀ p ∈ news, p.1 ≠ dS) (hoE : ∀ p ∈ news, p.1 ≠ dE) (hne : @Ne Nat dS dE) (lS : (dS == sysModules) = false) (lE : (dE == sysModules) = false) (TS : TabO w oS c) (TE : TabO w oE e) (hkl : (it.key ps).length ≤ 2000) (he : 0 < ex ∧ ex ≤ 100000000) (hn : 0 ≤ now ∧ now ≤ 10000000000) (e1 : (now - ex).fdiv ex = q1) (e2 : now.fdiv ex = q2) (e3 : (ex - now).fdiv ex = q3) (b1 : -1 ≤ q1 ∧ q1 ≤ 9999999999) (b2 : 0 ≤ q2 ∧ q2 ≤ 9999999999) (b3 : -9999999999 ≤ q3 ∧ q3 ≤ 1) (hle : ex ≤ now) (e4 : ((0 : Int) * 0).fdiv ex = 0) (xp : kdpLook e (winKey (it.key ps) q1) 0 = 0) (np : kdpLook c (winKey (it.key ps) q1) 0 = 0) (op : Old now 0 c e (winKey (it.key ps) q1)) (xc : kdpLook e (winKey (it.key ps) q2) 0 = x0) (nc : kdpLook c (winKey (it.key ps) q2) 0 = n) (oc : Old now x0 c e (winKey (it.key ps) q2)) (hn0 : 0 ≤ n ∧ n ≤ 100) (hlim : 0 ≤ it.a ∧ it.a ≤ 100) (hcl : c.length ≤ 1000) (hel : e.length ≤ 1000)
    (hret : ∀ b oS' oE' c' e' h' tk', Fr h₀ L h' m → News h₀ L h' ((dS, oS') :: (dE, oE') :: news) → TabO w oS' c' → TabO w oE' e' → Hitted n it.a now ex (winKey (it.key ps) q2) c e b c' e' → Q (.bool b) { s with heap := h', toks := tk' }) :
    wpAny (model row.prog w) (ktrTop dp un gd cn cs L a ccd cl outer) (call (.ref 665) [.ref lm, .ref x, .ref nm]) Q E s := by
  revert X
  k_fill
  intro X
  refine wpAny_call ?_
  k_dflt k_extra "ktr_enter"
  k_steps
  all_goals exact hret _ _ _ _ _ _ _ (by k_asm) (by k_asm) (by with_reducible assumption) (by with_reducible assumption) (by with_reducible assumption)
end Lw
end
section
theorem Lw.lay44 : True := by
  w_top off
  k_with_none
  k_with "ktr_enter" => (refine' code_def ?zk1 ?zk2 ?zk3 ?zk4 ?zk5 ?zkA ?zkF ?zkK ?zk6 ?zk7 ?zk8 ?zk9 ?zkB ?_ ?zc2 ?zc3 ?zc4 ?zc5; (case zkA => exact rfl); (case zkF => exact rfl); (case zkK => first | exact rfl | assumption); (case zk1 => k_asm); (case zk2 => k_asm); (case zk3 => k_asm); (case zk4 => k_asm); (case zk5 => k_asm); (case zk6 => k_is); (case zk7 => k_is); (case zk8 => ktr_room); (case zk9 => first | exact BindsTo.of_eq rfl | exact binds_K (by k_in) rfl (by k_is) rfl rfl rfl); (case zc5 => decide); (case zkB => exact locs rfl); (case zc2 => exact rfl); (case zc3 => exact rfl); (case zc4 => exact rfl); k_whole; intro g' L' h' FG' F' N' B' X' T'; (try dsimp only); (try k_fold))
  k_with "f_raise1" => ((case zB => k_asm); (case zF => k_asm); (case zX => k_asm); (case zN => k_asm); (case zT => k_asm); (case zhk => first | exact rfl | assumption); (case zd => ktr_room); (case zu => ktr_units))
  k_with "f_meansF" => (k_whole; intro t9 h9 tk9 F9 N9; (try dsimp only); (try k_fold))
  k_with "f_raise2" => ((case zF => k_asm); (case zX => k_asm); (case zN => k_asm); (case zI => exact Lw.ItemIn.mono (by assumption) (fun _ h => by (repeat (first | exact h | refine List.Mem.tail _ ?_)))))
  k_with "callWith ref" => (k_here; k_dflt (refine' callWith_K ?zk1 ?zk2 ?_; (case zk1 => k_asm); (case zk2 => k_is); k_whole))
  trivial
/-! an own subclass of tuple with an own __new__: tuple.__new__ and the call of the class -/
namespace Lw
open PySem.Builtin
section
variable {M : Model} {h : Heap} {C : Addr} {oc : Value} {od : Option Addr} {cd : ClassData} {sl : Array (Option Value)}
theorem tp_mro (hC : h.get? C = some ⟨oc, od, .cls cd, sl⟩) : Looks M h (mroOf (.ref C)) cd.mro := ((Looks.ld (part := none) hC).andThen .now).andThen .now
theorem tp_made (hC : h.get? C = some ⟨oc, od, .cls cd, sl⟩) (hm : cd.mro = [.ref C, .type "tuple", .type "object"]) (h4 : sl.toList[4]? = some (some .none)) : Looks M h (Bind.madeBy (.ref C)) none := by
  intro A Q E s k q
  unfold Bind.madeBy
  refine wpAny_bind (tp_mro hC A _ E s k ?_)
  rw [hm, List.forIn_cons]
  refine wpAny_bind (wpAny_bind (wpAny_bind (wpAny_bind (wpAny_loadPart (k _ _ hC) (wpAny_pure ?_)))))
  dsimp only
  rw [← Array.getElem?_toList, h4]
  exact wpAny_pure (wpAny_pure (wpAny_pure q))
theorem tp_bb : Slots.bestBase [.type "tuple"] = pure (.type "tuple") := by kernel_rfl
theorem tp_mt : Bind.madeBy (.type "tuple") = pure (some "tuple.__new__") := by kernel_rfl
theorem tp_base (hC : h.get? C = some ⟨oc, od, .cls cd, sl⟩) (hm : cd.mro = [.ref C, .type "tuple", .type "object"]) (hb : cd.bases = [.type "tuple"]) (h4 : sl.toList[4]? = some (some .none)) : Looks M h (Bind.staticBase (.ref C)) (.type "tuple") := by
  intro A Q E s k q
  have L1 := tp_made (M := M) hC hm h4
  unfold Bind.staticBase
  refine wpAny_bind (tp_mro hC A _ E s k ?_)
  rw [hm, List.forIn_cons]
  refine wpAny_bind (wpAny_bind ?_)
  dsimp only
  refine wpAny_bind (L1 A _ E s k ?_)
  simp only [Option.isSome_none, Bool.false_eq_true, if_false]
  have LD : Looks M h (classData C) cd := (Looks.ld hC).andThen .now
  refine wpAny_bind (LD A _ E s k ?_)
  rw [hb, tp_bb]
  refine wpAny_bind (wpAny_pure (wpAny_pure ?_))
  dsimp only
  rw [List.forIn_cons]
  refine wpAny_bind ?_
  dsimp only
  rw [tp_mt]
  refine wpAny_bind (wpAny_pure ?_)
  simp only [Option.isSome_some, if_true]
  exact wpAny_pure (wpAny_pure (wpAny_pure q))
end
end Lw
theorem Lw.lay45 : True := by
  w_top off
  k_with_none
  k_with "ktr_enter" => (refine' code_def ?zk1 ?zk2 ?zk3 ?zk4 ?zk5 ?zkA ?zkF ?zkK ?zk6 ?zk7 ?zk8 ?zk9 ?zkB ?_ ?zc2 ?zc3 ?zc4 ?zc5; (case zkA => exact rfl); (case zkF => exact rfl); (case zkK => first | exact rfl | assumption); (case zk1 => k_asm); (case zk2 => k_asm); (case zk3 => k_asm); (case zk4 => k_asm); (case zk5 => k_asm); (case zk6 => k_is); (case zk7 => k_is); (case zk8 => ktr_room); (case zk9 => first | exact BindsTo.of_eq rfl | exact binds_K (by k_in) rfl (by k_is) rfl rfl rfl); (case zc5 => decide); (case zkB => exact locs rfl); (case zc2 => exact rfl); (case zc3 => exact rfl); (case zc4 => exact rfl); k_whole; intro g' L' h' FG' F' N' B' X' T'; (try dsimp only); (try k_fold))
  k_with "f_raise1" => ((case zB => k_asm); (case zF => k_asm); (case zX => k_asm); (case zN => k_asm); (case zT => k_asm); (case zhk => first | exact rfl | assumption); (case zd => ktr_room); (case zu => ktr_units))
  k_with "f_meansF" => (k_whole; intro t9 h9 tk9 F9 N9; (try dsimp only); (try k_fold))
  k_with "f_raise2" => ((case zF => k_asm); (case zX => k_asm); (case zN => k_asm); (case zI => exact Lw.ItemIn.mono (by assumption) (fun _ h => by (repeat (first | exact h | refine List.Mem.tail _ ?_)))))
  k_with "callWith ref" => (k_here; k_dflt (refine' callWith_K ?zk1 ?zk2 ?_; (case zk1 => k_asm); (case zk2 => k_is); k_whole))
  trivial
namespace Lw
open PySem.Builtin
section
variable {prog : Program} {w : World} {A : Around} {E : Value → Shared → Prop} {s : Shared} {K : Frag} {C D : Addr} {h₀ : Heap} {L : Addr} {m : Str → Option Value} {news : List (Addr × Obj)} {oc : Value} {od : Option Addr} {cd : ClassData} {sl : Array (Option Value)} {items : Array Value} {n : Nat}
noncomputable def tpObj (C dx : Addr) (items : Array Value) : Obj := { cls := .ref C, dict := some dx, data := .seq items }
theorem tpn_kind : builtinKind "tuple.__new__" = some .builtinFn := by decide +kernel
theorem tpn_split : splitId "tuple.__new__" = some ("tuple", "__new__") := by decide +kernel
theorem tpn_quiet : ∃ x, x = Manifest.signature? "tuple.__new__" := ⟨_, rfl⟩
theorem tpn_args (C D : Addr) : argsOk "tuple.__new__" ⟨[.ref C, .ref D], []⟩ := by unfold argsOk; kernel_rfl
theorem tp_new {Q : Value → Shared → Prop} (F : Fr h₀ L s.heap m) (X₀ : K.In h₀) (N : News h₀ L s.heap news) (hC : K.lookup C = some ⟨oc, od, .cls cd, sl⟩) (hm : cd.mro = [.ref C, .type "tuple", .type "object"]) (hb : cd.bases = [.type "tuple"]) (h4 : sl.toList[4]? = some (some .none)) (hdel : cd.hasDel = false)
    (hi : findIn K (.ref C) "__init__" = some (some (.builtin "object.__init__"))) (hsub : mroIn K C (.type "tuple") = some true) (hD : (D, ({ cls := .type "tuple", data := .seq items n } : Obj)) ∈ news) (hz : items.size ≤ 100)
    (h : ∀ x dx h', Fr h₀ L h' m → News h₀ L h' ((x, tpObj C dx items) :: (dx, emptyDict) :: news) → (∀ p ∈ news, p.1 < dx) → dx < x → Q (.ref x) { s with heap := h' }) :
    wpAny (model prog w) A (call (.builtin "tuple.__new__") [.ref C, .ref D]) Q E s := by
  obtain ⟨hh, g, d, t, os⟩ := s
  have X := X₀.keeps F.keep
  have hC' := X _ _ hC
  dsimp only at X hC'
  have B1 := tp_base (M := model prog w) hC' hm hb h4
  have S1 := looks_mroIn (M := model prog w) X hsub
  have I1 := looks_findIn (M := model prog w) X hi
  have MT := Looks.of_pure (M := model prog w) (h := hh) tp_mt
  have TY : Looks (model prog w) hh (isType (.ref C)) true := (Looks.ld (part := none) hC').andThen .now
  refine wpAny_call ?_
  refine codeAny_call_builtin_code (Code.quiet_builtin _ (by decide +kernel)) ?_
  simp only [checkBuiltinCall, tpn_kind, tpn_split]
  repeat (first | simp only [bne_self_eq_false, Bool.false_eq_true, if_false, Bool.not_true, beq_self_eq_true, if_true] | lk)
  refine codeAny_builtin PySem.F.entry_tuple_new ?_
  unfold Builtin.«tuple.__new__»
  have HB : Looks (model prog w) hh (Bind.madeHere "tuple.__new__" (.ref C)) () := by unfold Bind.madeHere; exact B1.andThen (MT.andThen (Looks.of_pure (by simp only [Option.map_some, bne_self_eq_false, Bool.false_eq_true, if_false])))
  have hDs := (N _ hD).1
  have hz' : items.size ≤ sizeLine := Nat.le_trans hz (by decide)
  repeat (first | (with_reducible refine wpAny_collect_seq D (.inr rfl) hDs rfl rfl ?_ hz') | simp only [bne_self_eq_false, Bool.false_eq_true, if_false, Bool.not_true, beq_self_eq_true, if_true] | lk)
  intro h1 hk
  have F1 : Fr h₀ L h1 m := F.keeps hk
  have N1 : News h₀ L h1 news := N.grown hk
  have hC1 := hk _ _ hC'
  have e : items.toList.toArray = items := by simp
  refine wpAny_bind (wpAny_pure ?_)
  (try dsimp only)
  rw [e]
  show wpAny _ _ (alloc emptyDict >>= _) _ _ _
  refine wpAny_bind (wpAny_alloc ?_)
  show wpAny _ _ (newObj (.ref C) (.seq items) (some h1.objs.size) >>= _) _ _ _
  unfold newObj
  have hz2 : ¬ items.size > sizeLine := Nat.not_lt.mpr hz'
  dsimp only
  rw [if_neg hz2]
  refine wpAny_bind (wpAny_bind (wpAny_alloc ?_))
  have hC2 := Heap.get?_push_of_some (tpObj C h1.objs.size items) (Heap.get?_push_of_some emptyDict hC1)
  show wpAny _ _ (classHasDel C >>= _) _ _ _
  unfold classHasDel
  refine wpAny_bind (wpAny_bind (wpAny_load hC2 (wpAny_pure ?_)))
  rw [hdel]
  refine wpAny_pure (wpAny_pure ?_)
  have N2 := (N1.push F1 emptyDict).push (F1.push _) (tpObj C h1.objs.size items)
  rw [Heap.size_push] at N2 ⊢
  exact h _ _ _ ((F1.push _).push _) N2 (fun p hp => Heap.lt_size (N1 p hp).1) (Nat.lt_succ_self _)
end
end Lw
end
section
theorem Lw.lay46 : True := by
  w_top off
  k_with_none
  k_with "ktr_enter" => (refine' code_def ?zk1 ?zk2 ?zk3 ?zk4 ?zk5 ?zkA ?zkF ?zkK ?zk6 ?zk7 ?zk8 ?zk9 ?zkB ?_ ?zc2 ?zc3 ?zc4 ?zc5; (case zkA => exact rfl); (case zkF => exact rfl); (case zkK => first | exact rfl | assumption); (case zk1 => k_asm); (case zk2 => k_asm); (case zk3 => k_asm); (case zk4 => k_asm); (case zk5 => k_asm); (case zk6 => k_is); (case zk7 => k_is); (case zk8 => ktr_room); (case zk9 => first | exact BindsTo.of_eq rfl | exact binds_K (by k_in) rfl (by k_is) rfl rfl rfl); (case zc5 => decide); (case zkB => exact locs rfl); (case zc2 => exact rfl); (case zc3 => exact rfl); (case zc4 => exact rfl); k_whole; intro g' L' h' FG' F' N' B' X' T'; (try dsimp only); (try k_fold))
  k_with "f_raise1" => ((case zB => k_asm); (case zF => k_asm); (case zX => k_asm); (case zN => k_asm); (case zT => k_asm); (case zhk => first | exact rfl | assumption); (case zd => ktr_room); (case zu => ktr_units))
  k_with "f_meansF" => (k_whole; intro t9 h9 tk9 F9 N9; (try dsimp only); (try k_fold))
  k_with "f_raise2" => ((case zF => k_asm); (case zX => k_asm); (case zN => k_asm); (case zI => exact Lw.ItemIn.mono (by assumption) (fun _ h => by (repeat (first | exact h | refine List.Mem.tail _ ?_)))))
  k_with "callWith ref" => (k_here; k_dflt (refine' callWith_K ?zk1 ?zk2 ?_; (case zk1 => k_asm); (case zk2 => k_is); k_whole))
  trivial
namespace Lw
open PySem.Builtin
section
variable {prog : Program} {w : World} {A : Around} {E : Value → Shared → Prop} {s : Shared} {K : Frag} {C f p : Addr} {h₀ : Heap} {L : Addr} {m : Str → Option Value} {oc : Value} {od : Option Addr} {cd : ClassData} {sl : Array (Option Value)}
theorem oi_args3 (a b c : Value) : argsOk "object.__init__" ⟨[a, b, c], []⟩ := by unfold argsOk; kernel_rfl
/-- what the own __new__ hands back -/
noncomputable def TpBack (C : Addr) (h₀ : Heap) (L : Addr) (m : Str → Option Value) (Q : Value → Shared → Prop) (v : Value) (s' : Shared) : Prop := ∃ x dx items, v = .ref x ∧ Fr h₀ L s'.heap m ∧ s'.heap.get? x = some (tpObj C dx items) ∧ Q (.ref x) s'
theorem tp_call {Q : Value → Shared → Prop} {v1 v2 mc : Value} {rest : List Value} (F : Fr h₀ L s.heap m) (X₀ : K.In h₀) (hC : K.lookup C = some ⟨oc, od, .cls cd, sl⟩) (hm : cd.mro = [.ref C, .type "tuple", .type "object"]) (hb : cd.bases = [.type "tuple"]) (h4 : sl.toList[4]? = some (some .none)) (hab : cd.abstract = false)
    (hi : findIn K (.ref C) "__init__" = some (some (.builtin "object.__init__"))) (hs1 : mroIn K C (.ref C) = some true) (hs2 : mroIn K C (.type "object") = some true) (hcall : specialIn K (.ref C) "__call__" = some (some (.builtin "type.__call__"))) (htyp : instIn K (.ref C) (.type "type") = some true)
    (hmc : typeIn K (.ref C) = some mc) (hr : readsIn K C mc = true) (hfc : findCls K (.ref C) mc "__new__" = some (.get (.builtin "staticmethod.__get__") (.ref p) .none (.ref C))) (hp : recIn K p "staticmethod" = some (.ref f :: rest))
    (h : wpAny (model prog w) (A.under (.builtin "type.__call__" ⟨[.ref C, v1, v2], []⟩)) (call (.ref f) [.ref C, v1, v2]) (TpBack C h₀ L m Q) E { s with toks := s.toks + 1 }) :
    wpAny (model prog w) A (call (.ref C) [v1, v2]) Q E s := by
  obtain ⟨hh, g, d, t, os⟩ := s
  have X := X₀.keeps F.keep
  have hC' := X _ _ hC
  dsimp only at X hC'
  have call := looks_specialIn (M := model prog w) X hcall
  have typ := looks_instIn (M := model prog w) X htyp
  have made := tp_made (M := model prog w) hC' hm h4
  have hmr := tp_mro (M := model prog w) hC'
  refine wpAny_call ?_
  refine codeAny_of_tree ?_
  show wpAny _ _ (callAny (.ref C) _) _ _ _
  refine nd_load hC' ?_
  show wpAny _ _ (callAny.viaDunder (.ref C) _) _ _ _
  unfold callAny.viaDunder
  refine wpAny_bind (call.at ?_)
  dsimp only
  rw [tc_bind]
  refine wpAny_bind (wpAny_pure (wpAny_bind (wpAny_pure ?_)))
  refine wpAny_pure (a := Fin.again (.call (.builtin "type.__call__") ⟨.ref C :: [v1, v2], []⟩)) (And.intro rfl ?_)
  refine codeAny_call_builtin_at (Code.quiet_builtin _ (by decide +kernel)) entry_typeCall (check_slot tc_kind tc_split typ (tc_args _ _ _) ?_)
  unfold Builtin.«type.__call__»
  have hme : cd.mro.isEmpty = false := by rw [hm]; rfl
  repeat (first | simp only [hme, Bool.false_eq_true, if_false] | (with_reducible refine wpAny_mono h ?_ fun _ _ e => e) | (with_reducible refine cls_sm (s := ⟨hh, g, d, t, os⟩) F X₀ hmc hr hfc hp rfl ?_) | lk)
  intro v s' z
  obtain ⟨x, dx, items, rfl, F1, hx, q⟩ := z
  obtain ⟨h1, g1, d1, t1, os1⟩ := s'
  have X1 := X₀.keeps F1.keep
  dsimp only at X1 hx q
  have hC1 := X1 _ _ hC
  have T1 : Looks (model prog w) h1 (typeOf (.ref x)) (.ref C) := (Looks.ld hx).andThen .now
  have S1 := looks_mroIn (M := model prog w) X1 hs1
  have S2 := looks_mroIn (M := model prog w) X1 hs2
  have I1 := looks_findIn (M := model prog w) X1 hi
  have M1 := tp_made (M := model prog w) hC1 hm h4
  have IS1 : Looks (model prog w) h1 (isInstance (.ref x) (.ref C)) true := by unfold isInstance; exact T1.andThen S1
  have IS2 : Looks (model prog w) h1 (isInstance (.ref x) (.type "object")) true := by unfold isInstance; exact T1.andThen S2
  refine wpAny_bind (IS1.here ?_)
  simp only [Bool.not_true, Bool.false_eq_true, if_false]
  refine wpAny_bind (wpAny_holding ?_)
  unfold callSpecial? specialOf
  refine wpAny_bind (wpAny_bind (T1.here (I1.here ?_)))
  dsimp only
  refine wpAny_holding ?_
  rw [oi_bind]
  refine wpAny_bind (wpAny_pure (wpAny_bind (wpAny_call ?_)))
  refine codeAny_call_builtin oi_plain entry_oi (@check_slot (model prog w) _ _ _ "object.__init__" "object" "__init__" (.ref x) [v1, v2] [] _ oi_kind oi_split IS2 (oi_args3 _ _ _) ?_)
  unfold Builtin.«object.__init__»
  dsimp only [List.cons_append, List.nil_append]
  simp only [List.isEmpty_cons, Bool.not_false, Bool.true_or, if_true]
  refine wpAny_bind (T1.here (wpAny_bind (I1.here (wpAny_bind (M1.here ?_)))))
  simp only [bne_self_eq_false, Bool.false_eq_true, if_false]
  refine wpAny_pure ?_
  exact wpAny_pure (wpAny_pure q)
end
end Lw
end
section
local macro_rules | `(tactic| k_inst) => `(tactic| k_extra "k_inst")
theorem Lw.lay47 : True := by
  w_top off
  k_with_none
  k_with "ktr_enter" => (refine' code_def ?zk1 ?zk2 ?zk3 ?zk4 ?zk5 ?zkA ?zkF ?zkK ?zk6 ?zk7 ?zk8 ?zk9 ?zkB ?_ ?zc2 ?zc3 ?zc4 ?zc5; (case zkA => exact rfl); (case zkF => exact rfl); (case zkK => first | exact rfl | assumption); (case zk1 => k_asm); (case zk2 => k_asm); (case zk3 => k_asm); (case zk4 => k_asm); (case zk5 => k_asm); (case zk6 => k_is); (case zk7 => k_is); (case zk8 => ktr_room); (case zk9 => first | exact BindsTo.of_eq rfl | exact binds_K (by k_in) rfl (by k_is) rfl rfl rfl); (case zc5 => decide); (case zkB => exact locs rfl); (case zc2 => exact rfl); (case zc3 => exact rfl); (case zc4 => exact rfl); k_whole; intro g' L' h' FG' F' N' B' X' T'; (try dsimp only); (try k_fold))
  k_with "f_raise1" => ((case zB => k_asm); (case zF => k_asm); (case zX => k_asm); (case zN => k_asm); (case zT => k_asm); (case zhk => first | exact rfl | assumption); (case zd => ktr_room); (case zu => ktr_units))
  k_with "f_meansF" => (k_whole; intro t9 h9 tk9 F9 N9; (try dsimp only); (try k_fold))
  k_with "f_raise2" => ((case zF => k_asm); (case zX => k_asm); (case zN => k_asm); (case zI => exact Lw.ItemIn.mono (by assumption) (fun _ h => by (repeat (first | exact h | refine List.Mem.tail _ ?_)))))
  k_with "k_inst" => first | (refine' InstAt.of_news ?zN ?zh1 ?zh2; (case zN => k_asm); (case zh1 => k_mem); (case zh2 => k_mem)) | (refine' InstAt.of_K ?zX ?zh1 ?zh2; (case zX => first | assumption | exact Frag.In.keeps (by k_asm) (Fr.keep (by k_asm))); (case zh1 => k_is); (case zh2 => k_is)) | (refine' Lw.inst_ks ?zX ?zh1 ?zh2; (case zX => first | assumption | exact Frag.In.keeps (by k_asm) (Fr.keep (by k_asm))); (case zh1 => first | with_reducible assumption | k_is); (case zh2 => first | with_reducible assumption | k_is)) | (refine' Lw.inst_ns ?zN ?zh1 ?zh2; (case zN => k_asm); (case zh1 => k_mem); (case zh2 => k_mem))
  k_with "call builtin:issubclass" => (k_here; (with_reducible show wpAny _ _ (call (Value.builtin "issubclass") [Value.ref _, Value.type "tuple"]) _ _ _); k_dflt (refine' Lw.issub_tuple ?zX ?zc ?zm ?_; (case zX => k_in); (case zc => k_is); (case zm => k_is); k_whole))
  k_with "call builtin:tuple.__getitem__" => (k_here; k_dflt (refine' Lw.getitem_sub ?zX ?zI ?zr ?zm ?za ?zb ?zc ?zd ?_; (case zX => k_in); (case zI => k_inst); (case zr => rfl); (case zm => k_is); (case za => decide); (case zb => decide); (case zc => rfl); (case zd => rfl); k_whole))
  k_with "getMethod type:tuple" => (k_here; refine' method_type ?zF ?zX ?zm ?zs ?ze ?zh ?_; (case zF => k_asm); (case zX => k_asm); (case zm => with_reducible exact Lw.meta_tuple); (case zs => decide +kernel); (case ze => k_dflt k_is); (case zh => k_handed))
  k_with "callWith ref" => (k_here; k_dflt (refine' callWith_K ?zk1 ?zk2 ?_; (case zk1 => k_asm); (case zk2 => k_is); k_whole))
  trivial
namespace Lw
noncomputable def statsObj (r : Value) (i : Int) (dx : Addr) (u : Tok) : Obj := tpObj 588 dx #[r, .int i u]
variable {w : World} {tp : Program} {tl : List Str} {mean : ExcName → Option Value} {mg mb : Str → Option Value} {dp un : Nat} {gd : Option (List Code)} {cn : Str} {cs : Scope} {a : Addr} {ccd : Value} {cl : List (Str × Addr)} {outer : List Env} {A₀ : Around} {base h₀ : Heap} {L : Addr} {m : Str → Option Value} {news : List (Addr × Obj)} {s : Shared} {Q E : Value → Shared → Prop}
theorem c_new588 (B : Below A₀ base outer h₀) (F : Fr h₀ L s.heap m) (X : (hd.heap_1 w.params).In h₀) (N : News h₀ L s.heap news) (T : Top tp tl mean mg mb h₀) (hk : cs.kind = .function) (hdp : dp + 2 < recursionLimit) (hun : un + 16 < cLine) {D : Addr} {i : Int} {t : Tok}
    (hret : ∀ x dx u h' tk', Fr h₀ L h' m → News h₀ L h' ((x, statsObj (.ref D) i dx u) :: (dx, emptyDict) :: news) → (∀ p ∈ news, p.1 < dx) → dx < x → Q (.ref x) { s with heap := h', toks := tk' }) :
    wpAny (model row.prog w) (ktrTop dp un gd cn cs L a ccd cl outer) (call (.ref 588) [.ref D, .int i t]) Q E s := by
  revert X
  k_fill
  intro X
  refine' tp_call (K := hd.heap_1 w.params) (f := 538) (p := 589) F X ?k1 ?k2 ?k3 ?k4 ?k5 ?k6 ?k7 ?k8 ?k9 ?k10 ?k11 ?k12 ?k13 ?k14 ?_
  case k1 => k_is
  case k2 => rfl
  case k3 => rfl
  case k4 => rfl
  case k5 => rfl
  case k6 => k_is
  case k7 => k_is
  case k8 => k_is
  case k9 => k_is
  case k10 => k_is
  case k11 => k_is
  case k12 => k_is
  case k13 => k_is
  case k14 => k_is
  refine wpAny_call ?_
  k_dflt k_extra "ktr_enter"
  k_steps
  k_dflt (refine' tp_new (K := hd.heap_1 w.params) ?F ?X ?N ?C ?r1 ?r2 ?r3 ?r4 ?i ?s ?D ?z ?_; (case F => k_asm); (case X => k_asm); (case N => k_asm); (case C => k_is); (case r1 => rfl); (case r2 => rfl); (case r3 => rfl); (case r4 => rfl); (case i => k_is); (case s => k_is); (case D => exact .head _); (case z => exact (by decide : 2 ≤ 100)))
  intro x9 d9 h9 F9 N9 l1 l2
  k_steps
  all_goals (refine ⟨x9, d9, #[.ref D, .int i t], rfl, by k_asm, ?_, hret x9 d9 t _ _ (by k_asm) ?_ (fun p hp => l1 p (.tail _ hp)) l2⟩)
  · exact ((by with_reducible assumption : News _ _ _ _) _ (.head _)).1
  · exact newsSub (by assumption) (fun p hp => (List.mem_cons.mp hp).elim (fun e => List.mem_cons.mpr (.inl e)) (fun h => (List.mem_cons.mp h).elim (fun e => .tail _ (List.mem_cons.mpr (.inl e))) (fun h => .tail _ (.tail _ (.tail _ h)))))
/-- the namedtuple's field 1 -/
theorem tg_w1 (B : Below A₀ base outer h₀) (F : Fr h₀ L s.heap m) (X : (hd.heap_1 w.params).In h₀) (N : News h₀ L s.heap news) (T : Top tp tl mean mg mb h₀) (hk : cs.kind = .function)
    (hdp : dp + 1 < recursionLimit) (hun : un + 8 < cLine) {G dx : Addr} {v0 v1 : Value} {n : Nat} {sl : Array (Option Value)} {od : Obj} (hl : (G, (⟨.ref 588, some dx, .seq #[v0, v1] n, sl⟩ : Obj)) ∈ news) (hdx : (dx, od) ∈ news)
    (hret : ∀ h' tk', Fr h₀ L h' m → News h₀ L h' news → Q v1 { s with heap := h', toks := tk' }) :
    wpAny (model row.prog w) (ktrTop dp un gd cn cs L a ccd cl outer) (call (.ref 478) [.ref 583, .ref G, .ref 588]) Q E s := by
  revert X
  k_fill
  intro X
  refine wpAny_call ?_
  k_dflt k_extra "ktr_enter"
  k_steps
  all_goals exact hret _ _ (by k_asm) (by k_asm)
theorem c_rem (B : Below A₀ base outer h₀) (F : Fr h₀ L s.heap m) (X : (hd.heap_1 w.params).In h₀) (N : News h₀ L s.heap news) (T : Top tp tl mean mg mb h₀) (hk : cs.kind = .function)
    (hdp : dp + 1 < recursionLimit) (hun : un + 9 < cLine) {G dx : Addr} {r : Value} {i : Int} {u : Tok} {expr : Bool} (hl : (G, statsObj r i dx u) ∈ news) (hdx : (dx, emptyDict) ∈ news)
    (hret : ∀ h' tk', Fr h₀ L h' m → News h₀ L h' news → Q (.int i u) { s with heap := h', toks := tk' }) :
    wpAny (model row.prog w) (ktrTop dp un gd cn cs L a ccd cl outer) (getAttr (.ref G) "remaining" expr) Q E s := by
  revert X
  k_fill
  intro X
  refine get_bind_tup (K := hd.heap_1 w.params) (f := 478) (a := .ref 583) (C := 588) (X.keeps F.keep) (inst_ns N hl hdx) ?h0 ?h1 (findObj_data ?h2 ?h3 ?h4 ?h5) ?h6 ?h7
  case h0 => k_is
  case h1 => k_is
  case h2 => show isClsIn _ _ = true; k_is
  case h3 => k_is
  case h4 => k_is
  case h5 => k_is
  case h6 => k_is
  case h7 => exact tg_w1 (un := un + 1) (Q := fun v s' => wpAny (model row.prog w) (ktrTop dp un gd cn cs L a ccd cl outer) (handedOut v) Q E s') (s := { s with toks := s.toks + 1 }) B F X N T hk hdp (by omega) hl hdx fun h' tk' F' N' => handed_on rfl (hret h' tk' F' N')
end Lw
end
section
local macro_rules | `(tactic| k_all) => `(tactic| k_extra "k_all")
theorem Lw.lay48 : True := by
  w_top off
  k_with_none
  k_with "ktr_enter" => (refine' code_def ?zk1 ?zk2 ?zk3 ?zk4 ?zk5 ?zkA ?zkF ?zkK ?zk6 ?zk7 ?zk8 ?zk9 ?zkB ?_ ?zc2 ?zc3 ?zc4 ?zc5; (case zkA => exact rfl); (case zkF => exact rfl); (case zkK => first | exact rfl | assumption); (case zk1 => k_asm); (case zk2 => k_asm); (case zk3 => k_asm); (case zk4 => k_asm); (case zk5 => k_asm); (case zk6 => k_is); (case zk7 => k_is); (case zk8 => ktr_room); (case zk9 => first | exact BindsTo.of_eq rfl | exact binds_K (by k_in) rfl (by k_is) rfl rfl rfl); (case zc5 => decide); (case zkB => exact locs rfl); (case zc2 => exact rfl); (case zc3 => exact rfl); (case zc4 => exact rfl); k_whole; intro g' L' h' FG' F' N' B' X' T'; (try dsimp only); (try k_fold))
  k_with "f_raise1" => ((case zB => k_asm); (case zF => k_asm); (case zX => k_asm); (case zN => k_asm); (case zT => k_asm); (case zhk => first | exact rfl | assumption); (case zd => ktr_room); (case zu => ktr_units))
  k_with "f_meansF" => (k_whole; intro t9 h9 tk9 F9 N9; (try dsimp only); (try k_fold))
  k_with "f_raise2" => ((case zF => k_asm); (case zX => k_asm); (case zN => k_asm); (case zI => exact Lw.ItemIn.mono (by assumption) (fun _ h => by (repeat (first | exact h | refine List.Mem.tail _ ?_)))))
  k_with "f_int" => first | with_reducible assumption | exact Lw.ClockIn.mono (by with_reducible assumption) (fun _ h => by (repeat (first | exact h | refine List.Mem.tail _ ?_))) | exact Lw.StoreIn.mono (by with_reducible assumption) (fun _ h => by (repeat (first | exact h | refine List.Mem.tail _ ?_))) | exact Lw.TabIn.mono (by with_reducible assumption) (fun _ h => by (repeat (first | exact h | refine List.Mem.tail _ ?_))) | exact Lw.LimIn.mono (by with_reducible assumption) (fun _ h => by (repeat (first | exact h | refine List.Mem.tail _ ?_))) | exact ⟨_, by k_mem, by with_reducible assumption, by with_reducible assumption⟩
  k_with "getAttr ref" => (k_here; (with_reducible show wpAny _ _ (getAttr (Value.ref _) (Str.ofString "amount") _) _ _ _); k_dflt (refine' Lw.it_amount ?zF ?zX ?zN ?zI ?_; k_extra "f_raise2"; k_whole; intro t'; (try dsimp only)))
  k_with "getAttr ref" => (k_here; (with_reducible show wpAny _ _ (getAttr (Value.ref _) (Str.ofString "multiples") _) _ _ _); k_dflt (refine' Lw.it_multiples ?zF ?zX ?zN ?zI ?_; k_extra "f_raise2"; k_whole; intro t'; (try dsimp only)))
  k_with "getAttr ref" => (k_here; (with_reducible show wpAny _ _ (getAttr (Value.ref _) (Str.ofString "namespace") _) _ _ _); k_dflt (refine' Lw.it_namespace ?zF ?zX ?zN ?zI ?_; k_extra "f_raise2"; k_whole; intro t'; (try dsimp only)))
  k_with "getAttr ref" => (k_here; (with_reducible show wpAny _ _ (getAttr (Value.ref _) (Str.ofString "GRANULARITY") _) _ _ _); k_dflt (refine' Lw.it_gran ?zF ?zX ?zN ?zI ?_; k_extra "f_raise2"; k_whole; (try dsimp only)))
  k_with "getMethod ref" => (k_here; (with_reducible show wpAny _ _ (getMethod (Value.ref _) (Str.ofString "key_for") _) _ _ _); k_dflt (refine' Lw.it_key_for ?zF ?zX ?zN ?zI ?_; k_extra "f_raise2"; k_whole; (try dsimp only)))
  k_with "getMethod ref" => (k_here; (with_reducible show wpAny _ _ (getMethod (Value.ref _) (Str.ofString "get_expiry") _) _ _ _); k_dflt (refine' Lw.it_get_expiry ?zF ?zX ?zN ?zI ?_; k_extra "f_raise2"; k_whole; (try dsimp only)))
  k_with "getAttr ref" => (k_here; (with_reducible show wpAny _ _ (getAttr (Value.ref (Lw.Wn.gr _)) (Str.ofString "seconds") _) _ _ _); k_dflt (refine' Lw.gr_sec ?zB ?zF ?zX ?zN ?zT ?zhk ?zd ?zu ?_; k_extra "f_raise1"; k_extra "f_meansF"))
  k_with "getAttr ref" => (k_here; (with_reducible show wpAny _ _ (getAttr (Value.ref (Lw.Wn.gr _)) (Str.ofString "name") _) _ _ _); k_dflt (refine' Lw.gr_nm ?zB ?zF ?zX ?zN ?zT ?zhk ?zd ?zu ?_; k_extra "f_raise1"; k_extra "f_meansF"))
  k_with "call ref" => (k_here; (with_reducible show wpAny _ _ (call (Value.ref _) []) _ _ _); k_dflt (refine' Lw.c_clock ?zB ?zF ?zX ?zN ?zT ?zhk ?zd ?zu ?zi ?_; k_extra "f_raise1"; (case zi => k_extra "f_int"); k_extra "f_meansF"))
  k_with "callWith ref" => (k_here; k_dflt (refine callWith_F0 (Lw.ClockIn.fnAt (by k_asm) (by k_extra "f_int")) ?_; k_whole; try dsimp only [List.nil_append, List.cons_append]))
  k_with "binaryOp FloorDiv int int" => (k_here; k_dflt (refine Lw.fdiv_known (by omega) (by with_reducible assumption) (PyProof.noPylong_small (by omega)) ?_))
  k_with "call builtin:dict.get" => (k_here; k_dflt (refine Lw.get2v (by k_asm) (by k_extra "f_int") (by with_reducible assumption) ?_); intro _)
  k_with "call builtin:dict.pop" => (k_here; k_dflt (first | refine Lw.pop0 (by k_asm) (by k_extra "f_int") (Lw.Old.e (by with_reducible assumption) (by with_reducible assumption)) ?_ | refine Lw.pop0 (by k_asm) (by k_extra "f_int") (Lw.Old.c (by with_reducible assumption) (by with_reducible assumption)) ?_))
  k_with "getAttr ref" => (k_here; k_dflt (first | refine Lw.st_storage (by k_asm) (by k_asm) (by k_asm) (by with_reducible rfl) (by k_extra "f_int") ?_ | refine Lw.st_expir (by k_asm) (by k_asm) (by k_asm) (by with_reducible rfl) (by k_extra "f_int") ?_))
  k_with "getMethod ref" => (k_here; k_dflt (first | refine Lw.meth_get (by with_reducible rfl) (by k_asm) (by k_extra "f_int") ?_ | refine Lw.meth_pop (by with_reducible rfl) (by k_asm) (by k_extra "f_int") ?_ | refine Lw.st_clockM (by k_asm) (by k_asm) (by k_asm) (by with_reducible rfl) (by k_extra "f_int") ?_))
  k_with "getMethod ref" => (k_here; k_dflt (refine Lw.st_get (by k_asm) (by k_asm) (by k_asm) (by with_reducible rfl) (by k_extra "f_int") ?_))
  k_with "call ref" => (k_here; (with_reducible show wpAny _ _ (call (Value.ref 379) _) _ _ _); k_dflt (refine' Lw.c_get ?zB ?zF ?zX ?zN ?zT ?zhk ?zd ?zu ?zi ?zj ?zts ?zte ?zx ?zn ?zo ?_; k_extra "f_raise1"; (case zi => k_extra "f_int"); (case zj => k_extra "f_int"); (case zts => k_extra "f_int"); (case zte => k_extra "f_int"); (case zx => with_reducible assumption); (case zn => with_reducible assumption); (case zo => with_reducible assumption); k_extra "f_meansF"))
  k_with "getMethod ref" => (k_here; k_dflt (first | refine Lw.st_incr (by k_asm) (by k_asm) (by k_asm) (by with_reducible rfl) (by k_extra "f_int") ?_ | refine Lw.st_info (by k_asm) (by k_asm) (by k_asm) (by with_reducible rfl) (by k_extra "f_int") ?_))
  k_with "k_all" => with_reducible assumption
  k_with "call ref" => (k_here; (with_reducible show wpAny _ _ (call (Value.ref 364) _ _) _ _ _); k_dflt (refine wpAny_call ?_; k_extra "ktr_enter"))
  k_with "call ref" => (k_here; (with_reducible show wpAny _ _ (call (Value.ref 423) _) _ _ _); k_dflt (refine' Lw.c_info ?zB ?zF ?zX ?zN ?zT ?zhk ?zd ?zu ?zi ?zj ?zts ?zte ?zx1 ?zx2 ?zx3 ?zx4 ?zx5 ?zx6 ?zx7 ?_; k_extra "f_raise1"; (case zi => k_extra "f_int"); (case zj => k_extra "f_int"); (case zts => k_extra "f_int"); (case zte => k_extra "f_int"); (case zx1 => with_reducible assumption); (case zx2 => with_reducible assumption); (case zx3 => with_reducible assumption); (case zx5 => with_reducible assumption); (case zx6 => with_reducible assumption); (case zx4 => with_reducible assumption); (case zx7 => with_reducible assumption); k_whole; intro D9 u1 u2 u3 u4 h9 tk9 F9 N9 l1; (try k_lt l1); (try dsimp only [Lw.infoObj] at N9); (try dsimp only); (try k_fold)))
  k_with "call ref" => (k_here; (with_reducible show wpAny _ _ (call (Value.ref _) [Value.str _ _, Value.int _ _, Value.int _ _]) _ _ _); k_dflt (refine' Lw.c_keysM ?zB ?zF ?zX ?zN ?zT ?zhk ?zd ?zu ?zx ?zx1 ?zx2 ?zx3 ?zx4 ?zx5 ?zx6 ?zx7 ?zx8 ?zq ?_; k_extra "f_raise1"; (case zq => k_mem); (case zx => with_reducible assumption); (case zx1 => with_reducible assumption); (case zx2 => with_reducible assumption); (case zx3 => with_reducible assumption); (case zx4 => with_reducible assumption); (case zx5 => with_reducible assumption); (case zx6 => with_reducible assumption); (case zx7 => with_reducible assumption); (case zx8 => with_reducible assumption); k_whole; intro D9 pv9 u1 u2 h9 tk9 F9 N9 l1 e9; (have e8 := e9 (by with_reducible assumption)); subst e8; clear e9; (try k_lt l1); (try dsimp only); (try k_fold)))
  k_with "getMethod ref" => (k_here; k_dflt (refine Lw.st_swk (by k_asm) (by k_asm) (by k_asm) (by with_reducible rfl) (by k_extra "f_int") ?_); intro q' h' F' N' l1; (try k_lt l1))
  k_with "ki_room" => exact Lw.ItemIn.mono (by with_reducible assumption) (fun _ h => by (repeat (first | exact h | refine List.Mem.tail _ ?_)))
  k_with "call ref" => (k_here; (with_reducible show wpAny _ _ (call (Value.ref 181) [Value.ref _, Value.ref _]) _ _ _); k_dflt (refine' Lw.c_key ?zB ?zF ?zX ?zN ?zT ?zhk ?zd ?zu ?zi ?zx1 ?zx2 ?zx3 ?zx4 ?zx5 ?_; k_extra "f_raise1"; (case zi => k_extra "ki_room"); (case zx1 => with_reducible assumption); (case zx3 => first | with_reducible assumption | exact Fr.tup (by assumption) (by assumption)); (case zx2 => with_reducible assumption); (case zx4 => with_reducible assumption); (case zx5 => with_reducible assumption); k_extra "f_meansF"))
  k_with "call ref" => (k_here; (with_reducible show wpAny _ _ (call (Value.ref 174) _) _ _ _); k_dflt (refine' Lw.c_expiryE ?zB ?zF ?zX ?zN ?zT ?zhk ?zd ?zu ?zi ?zx1 ?zx2 ?_; k_extra "f_raise1"; (case zi => k_extra "ki_room"); (case zx1 => with_reducible assumption); (case zx2 => with_reducible assumption); k_extra "f_meansF"))
  k_with "getAttr ref" => (k_here; k_dflt (refine Lw.lm_storage (by k_asm) (by k_asm) (by k_asm) (by with_reducible rfl) (by k_extra "f_int") ?_))
  k_with "getMethod ref" => (k_here; k_dflt (first | refine Lw.st_gsw (by k_asm) (by k_asm) (by k_asm) (by with_reducible rfl) (by k_extra "f_int") ?_ | refine Lw.lm_wc (by k_asm) (by k_asm) (by k_asm) (by with_reducible rfl) (by k_extra "f_int") ?_))
  k_with "call ref" => (k_here; (first | (with_reducible show wpAny _ _ (call (Value.ref 430) _) _ _ _) | (with_reducible show wpAny _ _ (call (Value.ref 656) _) _ _ _)); k_dflt (refine wpAny_call ?_; k_extra "ktr_enter"))
  k_with "callWith ref" => (k_here; k_dflt (refine' callWith_K ?zk1 ?zk2 ?_; (case zk1 => k_asm); (case zk2 => k_is); k_whole))
  trivial
namespace Lw
variable {w : World} {tp : Program} {tl : List Str} {mean : ExcName → Option Value} {mg mb : Str → Option Value} {dp un : Nat} {gd : Option (List Code)} {cn : Str} {cs : Scope} {a : Addr} {ccd : Value} {cl : List (Str × Addr)} {outer : List Env} {A₀ : Around} {base h₀ : Heap} {L : Addr} {m : Str → Option Value} {news : List (Addr × Obj)} {s : Shared} {Q E : Value → Shared → Prop}
theorem stats_arg {a n : Int} (h : n ≤ a) : (if a - (0 + n) > 0 then a - (0 + n) else 0) = a - n := by split <;> omega
theorem c_stats (B : Below A₀ base outer h₀) (F : Fr h₀ L s.heap m) (X : (hd.heap_1 w.params).In h₀) (N : News h₀ L s.heap news) (T : Top tp tl mean mg mb h₀) (hk : cs.kind = .function) (hdp : dp + 9 < recursionLimit) (hun : un + 72 < cLine) {lm st clk dS dE nm x : Addr} {it : Item} {l : List Value} {ps : List Str} {ex now n x0 q1 q2 q3 : Int} {c e : List (Str × Int)} (LI : LimIn w.params news lm st) (SI : StoreIn w.params news st clk dS dE) (J : ClockIn news clk now) (I : ItemIn w.params news x it) (ho : it.Ok) (hm : 0 ≤ it.m ∧ it.m < 10) (hS : SafeArgs l ps) (hT : IsTup h₀ nm l.toArray) (hl : l.length ≤ 2) (hp : (ps.map (·.length)).sum ≤ 1000) (hex : it.k.sec * it.m = ex) (TS : TabIn w news dS c) (TE : TabIn w news dE e) (hkl : (it.key ps).length ≤ 2000) (he : 0 < ex ∧ ex ≤ 100000000) (hn : 0 ≤ now ∧ now ≤ 10000000000) (e1 : (now - ex).fdiv ex = q1) (e2 : now.fdiv ex = q2) (e3 : (ex - now).fdiv ex = q3) (b1 : -1 ≤ q1 ∧ q1 ≤ 9999999999) (b2 : 0 ≤ q2 ∧ q2 ≤ 9999999999) (b3 : -9999999999 ≤ q3 ∧ q3 ≤ 1) (hle : ex ≤ now) (e4 : ((0 : Int) * 0).fdiv ex = 0) (xp : kdpLook e (winKey (it.key ps) q1) 0 = 0) (np : kdpLook c (winKey (it.key ps) q1) 0 = 0) (op : Old now 0 c e (winKey (it.key ps) q1)) (xc : kdpLook e (winKey (it.key ps) q2) 0 = x0) (nc : kdpLook c (winKey (it.key ps) q2) 0 = n) (oc : Old now x0 c e (winKey (it.key ps) q2)) (hn0 : 0 ≤ n ∧ n ≤ 100) (hlim : n ≤ it.a ∧ it.a ≤ 100)
    (hret : ∀ D r dx u h' tk', Fr h₀ L h' m → News h₀ L h' ((D, statsObj r (it.a - n) dx u) :: (dx, emptyDict) :: news) → (∀ p ∈ news, p.1 < dx) → dx < D → Q (.ref D) { s with heap := h', toks := tk' }) :
    wpAny (model row.prog w) (ktrTop dp un gd cn cs L a ccd cl outer) (call (.ref 683) [.ref lm, .ref x, .ref nm]) Q E s := by
  revert X
  k_fill
  intro X
  refine wpAny_call ?_
  k_dflt k_extra "ktr_enter"
  k_steps
  all_goals rw [stats_arg hlim.1]
  all_goals k_dflt (refine c_new588 (by k_asm) (by k_asm) (by k_asm) (by k_asm) (by k_asm) (by first | exact rfl | assumption) (by ktr_room) (by ktr_units) ?_)
  all_goals (intro x9 d9 u9 h9 tk9 F9 N9 l1 l2)
  k_steps
  all_goals exact hret _ _ _ _ _ _ (by k_asm) (newsSub (by assumption) (sub2 (fun _ h => by (repeat (first | exact h | refine List.Mem.tail _ ?_))))) (fun p hp => l1 p (by (repeat (first | exact hp | refine List.Mem.tail _ ?_)))) l2
end Lw
end
section
theorem Lw.lay49 : True := by
  w_top off
  k_with_none
  k_with "ktr_enter" => (refine' code_def ?zk1 ?zk2 ?zk3 ?zk4 ?zk5 ?zkA ?zkF ?zkK ?zk6 ?zk7 ?zk8 ?zk9 ?zkB ?_ ?zc2 ?zc3 ?zc4 ?zc5; (case zkA => exact rfl); (case zkF => exact rfl); (case zkK => first | exact rfl | assumption); (case zk1 => k_asm); (case zk2 => k_asm); (case zk3 => k_asm); (case zk4 => k_asm); (case zk5 => k_asm); (case zk6 => k_is); (case zk7 => k_is); (case zk8 => ktr_room); (case zk9 => first | exact BindsTo.of_eq rfl | exact binds_K (by k_in) rfl (by k_is) rfl rfl rfl); (case zc5 => decide); (case zkB => exact locs rfl); (case zc2 => exact rfl); (case zc3 => exact rfl); (case zc4 => exact rfl); k_whole; intro g' L' h' FG' F' N' B' X' T'; (try dsimp only); (try k_fold))
  k_with "f_raise1" => ((case zB => k_asm); (case zF => k_asm); (case zX => k_asm); (case zN => k_asm); (case zT => k_asm); (case zhk => first | exact rfl | assumption); (case zd => ktr_room); (case zu => ktr_units))
  k_with "f_meansF" => (k_whole; intro t9 h9 tk9 F9 N9; (try dsimp only); (try k_fold))
  k_with "f_raise2" => ((case zF => k_asm); (case zX => k_asm); (case zN => k_asm); (case zI => exact Lw.ItemIn.mono (by assumption) (fun _ h => by (repeat (first | exact h | refine List.Mem.tail _ ?_)))))
  k_with "callWith ref" => (k_here; k_dflt (refine' callWith_K ?zk1 ?zk2 ?_; (case zk1 => k_asm); (case zk2 => k_is); k_whole))
  trivial
namespace Lw
theorem eq_known {M : Model} {A : Around} {E Q : Value → Shared → Prop} {s : Shared} {prog : Program} {w : World} {x y : Str} {t t' : Tok} {b : Bool} (h : (x == y) = b) (hq : Q (.bool b) s) : wpAny (model prog w) A (compareOp .Eq (.str x t) (.str y t')) Q E s := eq_str (h.symm ▸ hq)
/-- what a limit's text looks like from a place on, place for place -/
structure Reads1 (x : Str) (p s1 p1 p2 s3 p3 s4 p4 p5 : Nat) : Prop where
  e1 : skipN x " \t\n\x0b\x0c\r\x1c\x1d\x1e\x1f" p = s1
  e2 : skipN x "0123456789" s1 = p1
  n1 : p1 ≠ s1
  e3 : skipN x " \t\n\x0b\x0c\r\x1c\x1d\x1e\x1f" p1 = p2
  c1 : (Txt.slice x (some p2) (some (p2 + 1)) == "/") = false
  c2 : (Txt.lower (Txt.slice x (some p2) (some (p2 + 3))) == "per") = true
  e4 : skipN x " \t\n\x0b\x0c\r\x1c\x1d\x1e\x1f" (p2 + 3) = s3
  e5 : skipN x "0123456789" s3 = p3
  e6 : skipN x " \t\n\x0b\x0c\r\x1c\x1d\x1e\x1f" p3 = s4
  e7 : skipN x "abcdefghijklmnopqrstuvwxyz" s4 = p4
  n2 : p4 ≠ s4
  e8 : skipN x " \t\n\x0b\x0c\r\x1c\x1d\x1e\x1f" p4 = p5
noncomputable def rdObj (x : Str) (s1 p1 s3 p3 s4 p4 p5 : Nat) (u1 u2 u3 u4 : Tok) : Obj := { cls := .type "tuple", data := .seq [Value.str (Txt.slice x (some s1) (some p1)) u1, .str (Txt.slice x (some s3) (some p3)) u2, .str (Txt.slice x (some s4) (some p4)) u3, .int p5 u4].toArray }
end Lw
theorem Lw.lay50 : True := by
  w_top off
  k_with_none
  k_with "ktr_enter" => (refine' code_def ?zk1 ?zk2 ?zk3 ?zk4 ?zk5 ?zkA ?zkF ?zkK ?zk6 ?zk7 ?zk8 ?zk9 ?zkB ?_ ?zc2 ?zc3 ?zc4 ?zc5; (case zkA => exact rfl); (case zkF => exact rfl); (case zkK => first | exact rfl | assumption); (case zk1 => k_asm); (case zk2 => k_asm); (case zk3 => k_asm); (case zk4 => k_asm); (case zk5 => k_asm); (case zk6 => k_is); (case zk7 => k_is); (case zk8 => ktr_room); (case zk9 => first | exact BindsTo.of_eq rfl | exact binds_K (by k_in) rfl (by k_is) rfl rfl rfl); (case zc5 => decide); (case zkB => exact locs rfl); (case zc2 => exact rfl); (case zc3 => exact rfl); (case zc4 => exact rfl); k_whole; intro g' L' h' FG' F' N' B' X' T'; (try dsimp only); (try k_fold))
  k_with "f_raise1" => ((case zB => k_asm); (case zF => k_asm); (case zX => k_asm); (case zN => k_asm); (case zT => k_asm); (case zhk => first | exact rfl | assumption); (case zd => ktr_room); (case zu => ktr_units))
  k_with "f_meansF" => (k_whole; intro t9 h9 tk9 F9 N9; (try dsimp only); (try k_fold))
  k_with "f_raise2" => ((case zF => k_asm); (case zX => k_asm); (case zN => k_asm); (case zI => exact Lw.ItemIn.mono (by assumption) (fun _ h => by (repeat (first | exact h | refine List.Mem.tail _ ?_)))))
  k_with "call ref" => (k_here; (with_reducible show wpAny _ _ (call (Value.ref 506) [Value.str _ _, Value.int _ _, Value.str _ _]) _ _ _); k_dflt ((first | (refine' Lw.c_skip ?zB ?zF ?zX ?zN ?zT ?zhk ?zd ?zu ?zx ?ze ?_; (case ze => with_reducible assumption)) | ((rw [show (Value.int (_ + 3) _) = Value.int (((_ + 3 : Nat) : Int)) _ from rfl]); refine' Lw.c_skip ?zB ?zF ?zX ?zN ?zT ?zhk ?zd ?zu ?zx ?ze ?_; (case ze => with_reducible assumption))); k_extra "f_raise1"; (case zx => with_reducible assumption); k_extra "f_meansF"))
  k_with "compareOp Eq str str" => (k_here; k_dflt (refine Lw.eq_known (by with_reducible assumption) ?_))
  k_with "callWith ref" => (k_here; k_dflt (refine' callWith_K ?zk1 ?zk2 ?_; (case zk1 => k_asm); (case zk2 => k_is); k_whole))
  trivial
namespace Lw
variable {w : World} {tp : Program} {tl : List Str} {mean : ExcName → Option Value} {mg mb : Str → Option Value} {dp un : Nat} {gd : Option (List Code)} {cn : Str} {cs : Scope} {a : Addr} {ccd : Value} {cl : List (Str × Addr)} {outer : List Env} {A₀ : Around} {base h₀ : Heap} {L : Addr} {m : Str → Option Value} {news : List (Addr × Obj)} {s : Shared} {Q E : Value → Shared → Prop}
theorem c_read (B : Below A₀ base outer h₀) (F : Fr h₀ L s.heap m) (X : (hd.heap_1 w.params).In h₀) (N : News h₀ L s.heap news) (T : Top tp tl mean mg mb h₀) (hk : cs.kind = .function) (hdp : dp + 3 < recursionLimit) (hun : un + 24 < cLine) {x : Str} {p s1 p1 p2 s3 p3 s4 p4 p5 : Nat} {t1 t2 : Tok} (hx : x.length ≤ 100) (hr : Reads1 x p s1 p1 p2 s3 p3 s4 p4 p5)
    (hret : ∀ D u1 u2 u3 u4 h' tk', Fr h₀ L h' m → News h₀ L h' ((D, rdObj x s1 p1 s3 p3 s4 p4 p5 u1 u2 u3 u4) :: news) → (∀ p ∈ news, p.1 < D) → Q (.ref D) { s with heap := h', toks := tk' }) :
    wpAny (model row.prog w) (ktrTop dp un gd cn cs L a ccd cl outer) (call (.ref 513) [.str x t1, .int p t2]) Q E s := by
  obtain ⟨e1, e2, n1, e3, c1, c2, e4, e5, e6, e7, n2, e8⟩ := hr
  revert X
  k_fill
  intro X
  refine wpAny_call ?_
  k_dflt k_extra "ktr_enter"
  k_steps
  all_goals first | (exfalso; omega) | exact hret _ _ _ _ _ _ _ (by k_asm) (by assumption) (by with_reducible assumption)
end Lw
end
section
theorem Lw.lay51 : True := by
  w_top off
  k_with_none
  k_with "ktr_enter" => (refine' code_def ?zk1 ?zk2 ?zk3 ?zk4 ?zk5 ?zkA ?zkF ?zkK ?zk6 ?zk7 ?zk8 ?zk9 ?zkB ?_ ?zc2 ?zc3 ?zc4 ?zc5; (case zkA => exact rfl); (case zkF => exact rfl); (case zkK => first | exact rfl | assumption); (case zk1 => k_asm); (case zk2 => k_asm); (case zk3 => k_asm); (case zk4 => k_asm); (case zk5 => k_asm); (case zk6 => k_is); (case zk7 => k_is); (case zk8 => ktr_room); (case zk9 => first | exact BindsTo.of_eq rfl | exact binds_K (by k_in) rfl (by k_is) rfl rfl rfl); (case zc5 => decide); (case zkB => exact locs rfl); (case zc2 => exact rfl); (case zc3 => exact rfl); (case zc4 => exact rfl); k_whole; intro g' L' h' FG' F' N' B' X' T'; (try dsimp only); (try k_fold))
  k_with "f_raise1" => ((case zB => k_asm); (case zF => k_asm); (case zX => k_asm); (case zN => k_asm); (case zT => k_asm); (case zhk => first | exact rfl | assumption); (case zd => ktr_room); (case zu => ktr_units))
  k_with "f_meansF" => (k_whole; intro t9 h9 tk9 F9 N9; (try dsimp only); (try k_fold))
  k_with "f_raise2" => ((case zF => k_asm); (case zX => k_asm); (case zN => k_asm); (case zI => exact Lw.ItemIn.mono (by assumption) (fun _ h => by (repeat (first | exact h | refine List.Mem.tail _ ?_)))))
  k_with "callWith ref" => (k_here; k_dflt (refine' callWith_K ?zk1 ?zk2 ?_; (case zk1 => k_asm); (case zk2 => k_is); k_whole))
  trivial
namespace Lw
theorem upd_tail {led r r' : List (Addr × Obj)} {q d : Addr} {oq od o o' : Obj} (h : ∀ p ∈ led, p.1 < q) (hm : (d, od) ∈ led) (u : Upd d o o' r r') : Upd d o o' ((q, oq) :: r) ((q, oq) :: r') := .tail (Nat.ne_of_gt (h _ hm)) u
theorem upd_head {r : List (Addr × Obj)} {d : Addr} {o o' : Obj} (h : ∀ p ∈ r, p.1 < d) : Upd d o o' ((d, o) :: r) ((d, o') :: r) := .head fun p hp => Nat.ne_of_lt (h p hp)
theorem lt_of_led {led : List (Addr × Obj)} {q d : Addr} {o : Obj} (h : ∀ p ∈ led, p.1 < q) (hm : (d, o) ∈ led) : d < q := h _ hm
end Lw
theorem Lw.lay52 : True := by
  k_with "f_int" => first | exact List.Mem.head _ | exact List.Mem.tail _ (List.Mem.head _) | exact List.Mem.tail _ (List.Mem.tail _ (List.Mem.head _)) | exact List.Mem.tail _ (List.Mem.tail _ (List.Mem.tail _ (List.Mem.head _)))
  trivial
local macro_rules | `(tactic| k_upd) => `(tactic| k_extra "k_upd")
theorem Lw.lay53 : True := by
  k_with "k_upd" => first | exact Lw.upd_head (by with_reducible assumption) | exact Lw.upd_tail (by with_reducible assumption) (by k_extra "f_int") (Lw.upd_head (by with_reducible assumption)) | exact Lw.upd_tail (by with_reducible assumption) (by k_extra "f_int") (Lw.upd_tail (by with_reducible assumption) (by k_extra "f_int") (Lw.upd_head (by with_reducible assumption))) | exact Lw.upd_tail (by with_reducible assumption) (by k_extra "f_int") (Lw.upd_tail (by with_reducible assumption) (by k_extra "f_int") (Lw.upd_tail (by with_reducible assumption) (by k_extra "f_int") (Lw.upd_head (by with_reducible assumption)))) | exact Lw.upd_tail (by with_reducible assumption) (by k_extra "f_int") (Lw.upd_tail (by with_reducible assumption) (by k_extra "f_int") (Lw.upd_tail (by with_reducible assumption) (by k_extra "f_int") (Lw.upd_tail (by with_reducible assumption) (by k_extra "f_int") (Lw.upd_head (by with_reducible assumption)))))
  trivial
theorem Lw.lay54 : True := by
  w_top off
  k_with_none
  k_with "ktr_enter" => (refine' code_def ?zk1 ?zk2 ?zk3 ?zk4 ?zk5 ?zkA ?zkF ?zkK ?zk6 ?zk7 ?zk8 ?zk9 ?zkB ?_ ?zc2 ?zc3 ?zc4 ?zc5; (case zkA => exact rfl); (case zkF => exact rfl); (case zkK => first | exact rfl | assumption); (case zk1 => k_asm); (case zk2 => k_asm); (case zk3 => k_asm); (case zk4 => k_asm); (case zk5 => k_asm); (case zk6 => k_is); (case zk7 => k_is); (case zk8 => ktr_room); (case zk9 => first | exact BindsTo.of_eq rfl | exact binds_K (by k_in) rfl (by k_is) rfl rfl rfl); (case zc5 => decide); (case zkB => exact locs rfl); (case zc2 => exact rfl); (case zc3 => exact rfl); (case zc4 => exact rfl); k_whole; intro g' L' h' FG' F' N' B' X' T'; (try dsimp only); (try k_fold))
  k_with "f_raise1" => ((case zB => k_asm); (case zF => k_asm); (case zX => k_asm); (case zN => k_asm); (case zT => k_asm); (case zhk => first | exact rfl | assumption); (case zd => ktr_room); (case zu => ktr_units))
  k_with "f_meansF" => (k_whole; intro t9 h9 tk9 F9 N9; (try dsimp only); (try k_fold))
  k_with "f_raise2" => ((case zF => k_asm); (case zX => k_asm); (case zN => k_asm); (case zI => exact Lw.ItemIn.mono (by assumption) (fun _ h => by (repeat (first | exact h | refine List.Mem.tail _ ?_)))))
  k_with "f_int" => first | exact List.Mem.head _ | exact List.Mem.tail _ (List.Mem.head _) | exact List.Mem.tail _ (List.Mem.tail _ (List.Mem.head _)) | exact List.Mem.tail _ (List.Mem.tail _ (List.Mem.tail _ (List.Mem.head _)))
  k_with "k_upd" => first | exact Lw.upd_head (by with_reducible assumption) | exact Lw.upd_tail (by with_reducible assumption) (by k_extra "f_int") (Lw.upd_head (by with_reducible assumption)) | exact Lw.upd_tail (by with_reducible assumption) (by k_extra "f_int") (Lw.upd_tail (by with_reducible assumption) (by k_extra "f_int") (Lw.upd_head (by with_reducible assumption))) | exact Lw.upd_tail (by with_reducible assumption) (by k_extra "f_int") (Lw.upd_tail (by with_reducible assumption) (by k_extra "f_int") (Lw.upd_tail (by with_reducible assumption) (by k_extra "f_int") (Lw.upd_head (by with_reducible assumption)))) | exact Lw.upd_tail (by with_reducible assumption) (by k_extra "f_int") (Lw.upd_tail (by with_reducible assumption) (by k_extra "f_int") (Lw.upd_tail (by with_reducible assumption) (by k_extra "f_int") (Lw.upd_tail (by with_reducible assumption) (by k_extra "f_int") (Lw.upd_head (by with_reducible assumption)))))
  k_with "call ref" => (k_here; (with_reducible show wpAny _ _ (call (Value.ref 506) [Value.str _ _, Value.int _ _, Value.str _ _]) _ _ _); k_dflt ((first | (refine' Lw.c_skip ?zB ?zF ?zX ?zN ?zT ?zhk ?zd ?zu ?zx ?ze ?_; (case ze => with_reducible assumption)) | ((rw [show (Value.int (_ + 3) _) = Value.int (((_ + 3 : Nat) : Int)) _ from rfl]); refine' Lw.c_skip ?zB ?zF ?zX ?zN ?zT ?zhk ?zd ?zu ?zx ?ze ?_; (case ze => with_reducible assumption))); k_extra "f_raise1"; (case zx => with_reducible assumption); k_extra "f_meansF"))
  k_with "compareOp Eq str str" => (k_here; k_dflt (refine Lw.eq_known (by with_reducible assumption) ?_))
  k_with "exec While" => (k_here; k_dflt (refine whl_start 1 ?_))
  k_with "call ref" => (k_here; (with_reducible show wpAny _ _ (call (Value.ref 513) [Value.str _ _, Value.int 0 _]) _ _ _); k_dflt ((rw [show (Value.int 0 _) = Value.int (((0 : Nat) : Int)) _ from rfl]); refine' Lw.c_read ?zB ?zF ?zX ?zN ?zT ?zhk ?zd ?zu ?zx ?ze ?_; (case ze => with_reducible assumption); k_extra "f_raise1"; (case zx => with_reducible assumption); k_whole; intro D9 u1 u2 u3 u4 h9 tk9 F9 N9 l1; (try dsimp only); (try k_fold)))
  k_with "callWith ref" => (k_here; k_dflt (refine' callWith_K ?zk1 ?zk2 ?_; (case zk1 => k_asm); (case zk2 => k_is); k_whole))
  trivial
namespace Lw
variable {w : World} {tp : Program} {tl : List Str} {mean : ExcName → Option Value} {mg mb : Str → Option Value} {dp un : Nat} {gd : Option (List Code)} {cn : Str} {cs : Scope} {a : Addr} {ccd : Value} {cl : List (Str × Addr)} {outer : List Env} {A₀ : Around} {base h₀ : Heap} {L : Addr} {m : Str → Option Value} {news : List (Addr × Obj)} {s : Shared} {Q E : Value → Shared → Prop}
theorem c_reads (B : Below A₀ base outer h₀) (F : Fr h₀ L s.heap m) (X : (hd.heap_1 w.params).In h₀) (N : News h₀ L s.heap news) (T : Top tp tl mean mg mb h₀) (hk : cs.kind = .function) (hdp : dp + 4 < recursionLimit) (hun : un + 32 < cLine) {x : Str} {s1 p1 p2 s3 p3 s4 p4 p5 : Nat} {t1 : Tok} (hx : x.length ≤ 100) (hr : Reads1 x 0 s1 p1 p2 s3 p3 s4 p4 p5) (he : p5 = x.length)
    (hret : ∀ l D n u1 u2 u3 u4 h' tk', Fr h₀ L h' m → News h₀ L h' ((D, rdObj x s1 p1 s3 p3 s4 p4 p5 u1 u2 u3 u4) :: (l, listOf #[.ref D] n) :: news) → (∀ p ∈ news, p.1 < l) → l < D → Q (.ref l) { s with heap := h', toks := tk' }) :
    wpAny (model row.prog w) (ktrTop dp un gd cn cs L a ccd cl outer) (call (.ref 520) [.str x t1]) Q E s := by
  revert X
  k_fill
  intro X
  refine wpAny_call ?_
  k_dflt k_extra "ktr_enter"
  k_steps
  all_goals first | (exfalso; omega) | exact hret _ _ _ _ _ _ _ _ _ (by k_asm) (by assumption) (by with_reducible assumption) (lt_of_led (by with_reducible assumption) (by k_extra "f_int"))
end Lw
end
section
theorem Lw.lay55 : True := by
  w_top off
  k_with_none
  k_with "ktr_enter" => (refine' code_def ?zk1 ?zk2 ?zk3 ?zk4 ?zk5 ?zkA ?zkF ?zkK ?zk6 ?zk7 ?zk8 ?zk9 ?zkB ?_ ?zc2 ?zc3 ?zc4 ?zc5; (case zkA => exact rfl); (case zkF => exact rfl); (case zkK => first | exact rfl | assumption); (case zk1 => k_asm); (case zk2 => k_asm); (case zk3 => k_asm); (case zk4 => k_asm); (case zk5 => k_asm); (case zk6 => k_is); (case zk7 => k_is); (case zk8 => ktr_room); (case zk9 => first | exact BindsTo.of_eq rfl | exact binds_K (by k_in) rfl (by k_is) rfl rfl rfl); (case zc5 => decide); (case zkB => exact locs rfl); (case zc2 => exact rfl); (case zc3 => exact rfl); (case zc4 => exact rfl); k_whole; intro g' L' h' FG' F' N' B' X' T'; (try dsimp only); (try k_fold))
  k_with "f_raise1" => ((case zB => k_asm); (case zF => k_asm); (case zX => k_asm); (case zN => k_asm); (case zT => k_asm); (case zhk => first | exact rfl | assumption); (case zd => ktr_room); (case zu => ktr_units))
  k_with "f_meansF" => (k_whole; intro t9 h9 tk9 F9 N9; (try dsimp only); (try k_fold))
  k_with "f_raise2" => ((case zF => k_asm); (case zX => k_asm); (case zN => k_asm); (case zI => exact Lw.ItemIn.mono (by assumption) (fun _ h => by (repeat (first | exact h | refine List.Mem.tail _ ?_)))))
  k_with "callWith ref" => (k_here; k_dflt (refine' callWith_K ?zk1 ?zk2 ?_; (case zk1 => k_asm); (case zk2 => k_is); k_whole))
  trivial
namespace Lw
variable {w : World} {tp : Program} {tl : List Str} {mean : ExcName → Option Value} {mg mb : Str → Option Value} {dp un : Nat} {gd : Option (List Code)} {cn : Str} {cs : Scope} {a : Addr} {ccd : Value} {cl : List (Str × Addr)} {outer : List Env} {A₀ : Around} {base h₀ : Heap} {L : Addr} {m : Str → Option Value} {news : List (Addr × Obj)} {s : Shared} {Q E : Value → Shared → Prop}
theorem c_checkD (B : Below A₀ base outer h₀) (F : Fr h₀ L s.heap m) (X : (hd.heap_1 w.params).In h₀) (N : News h₀ L s.heap news) (T : Top tp tl mean mg mb h₀) (hk : cs.kind = .function) (hdp : dp + 3 < recursionLimit) (hun : un + 24 < cLine) (k' : Wn) {k : Wn} {x : Str} {t : Tok} {q : Addr} (hx : x.length ≤ 64) (hq : (q, methodObj (.ref 164) (.ref k'.cls)) ∈ news) (hs : ∀ k' : Wn, k'.says x = decide (k' = k))
    (hret : ∀ h' tk', Fr h₀ L h' m → News h₀ L h' news → Q (.bool (decide (k' = k))) { s with heap := h', toks := tk' }) :
    wpAny (model row.prog w) (ktrTop dp un gd cn cs L a ccd cl outer) (call (.ref q) [.str x t]) Q E s :=
  c_checkM B F X N T hk hdp hun hx hq (by rw [hs k']; exact hret)
theorem gran_last {k : Wn} {P : Prop} (h1 : ¬ Wn.y = k) (h2 : ¬ Wn.o = k) (h3 : ¬ Wn.d = k) (h4 : ¬ Wn.h = k) (h5 : ¬ Wn.i = k) (h6 : ¬ Wn.s = k) : P := by
  cases k <;> simp_all
end Lw
theorem Lw.lay56 : True := by
  w_top off
  k_with_none
  k_with "ktr_enter" => (refine' code_def ?zk1 ?zk2 ?zk3 ?zk4 ?zk5 ?zkA ?zkF ?zkK ?zk6 ?zk7 ?zk8 ?zk9 ?zkB ?_ ?zc2 ?zc3 ?zc4 ?zc5; (case zkA => exact rfl); (case zkF => exact rfl); (case zkK => first | exact rfl | assumption); (case zk1 => k_asm); (case zk2 => k_asm); (case zk3 => k_asm); (case zk4 => k_asm); (case zk5 => k_asm); (case zk6 => k_is); (case zk7 => k_is); (case zk8 => ktr_room); (case zk9 => first | exact BindsTo.of_eq rfl | exact binds_K (by k_in) rfl (by k_is) rfl rfl rfl); (case zc5 => decide); (case zkB => exact locs rfl); (case zc2 => exact rfl); (case zc3 => exact rfl); (case zc4 => exact rfl); k_whole; intro g' L' h' FG' F' N' B' X' T'; (try dsimp only); (try k_fold))
  k_with "f_raise1" => ((case zB => k_asm); (case zF => k_asm); (case zX => k_asm); (case zN => k_asm); (case zT => k_asm); (case zhk => first | exact rfl | assumption); (case zd => ktr_room); (case zu => ktr_units))
  k_with "f_meansF" => (k_whole; intro t9 h9 tk9 F9 N9; (try dsimp only); (try k_fold))
  k_with "f_raise2" => ((case zF => k_asm); (case zX => k_asm); (case zN => k_asm); (case zI => exact Lw.ItemIn.mono (by assumption) (fun _ h => by (repeat (first | exact h | refine List.Mem.tail _ ?_)))))
  k_with "callWith ref" => (k_here; k_dflt (refine' callWith_K ?zk1 ?zk2 ?_; (case zk1 => k_asm); (case zk2 => k_is); k_whole))
  trivial
namespace Lw
variable {w : World} {tp : Program} {tl : List Str} {mean : ExcName → Option Value} {mg mb : Str → Option Value} {dp un : Nat} {gd : Option (List Code)} {cn : Str} {cs : Scope} {a : Addr} {ccd : Value} {cl : List (Str × Addr)} {outer : List Env} {A₀ : Around} {base h₀ : Heap} {L : Addr} {m : Str → Option Value} {news : List (Addr × Obj)} {s : Shared} {Q E : Value → Shared → Prop}
theorem c_gran (B : Below A₀ base outer h₀) (F : Fr h₀ L s.heap m) (X : (hd.heap_1 w.params).In h₀) (N : News h₀ L s.heap news) (T : Top tp tl mean mg mb h₀) (hk : cs.kind = .function) (hdp : dp + 5 < recursionLimit) (hun : un + 40 < cLine) {k : Wn} {g : Str} {i j : Int} {t t2 t3 : Tok} (hg : g.length ≤ 64) (hs : ∀ k' : Wn, k'.says g = decide (k' = k)) (hj : 0 < j)
    (hret : ∀ x dx t1 t2 t3 t4 t5 t6 h' tk', Fr h₀ L h' m → News h₀ L h' ((x, instObj k.cls dx) :: (dx, itemD w.params ⟨k, i, j, "LIMITER"⟩ t1 t2 t3 t4 t5 t6) :: news) → (∀ p ∈ news, p.1 < dx) → dx < x → Q (.ref x) { s with heap := h', toks := tk' }) :
    wpAny (model row.prog w) (ktrTop dp un gd cn cs L a ccd cl outer) (call (.ref 612) [.str g t, .int i t2, .int j t3]) Q E s := by
  revert X
  k_fill
  intro X
  refine wpAny_call ?_
  k_dflt k_extra "ktr_enter"
  k_steps
  k_dflt (refine c_checkD (by k_asm) (by k_asm) (by k_asm) (by k_asm) (by k_asm) (by first | exact rfl | assumption) (by ktr_room) (by ktr_units) .y hg (by k_mem) hs ?_)
  intro h9 tk9 F9 N9
  k_steps
  · have e9 : Wn.y = k := by assumption
    subst e9
    k_dflt (refine c_new2 (k := .y) (by k_asm) (by k_asm) (by k_asm) (by k_asm) (by k_asm) (by first | exact rfl | assumption) (by ktr_room) (by ktr_units) hj ?_)
    intro x9 d9 t1 t2 t3 t4 t5 t6 h9 tk9 F9 N9 l1 l2
    k_steps
    exact hret _ _ _ _ _ _ _ _ _ _ (by k_asm) (newsSub (by assumption) (sub2 (fun _ h => by (repeat (first | exact h | refine List.Mem.tail _ ?_))))) (fun p hp => l1 p (by (repeat (first | exact hp | refine List.Mem.tail _ ?_)))) l2
  k_dflt (refine c_checkD (by k_asm) (by k_asm) (by k_asm) (by k_asm) (by k_asm) (by first | exact rfl | assumption) (by ktr_room) (by ktr_units) .o hg (by k_mem) hs ?_)
  intro h9 tk9 F9 N9
  k_steps
  · have e9 : Wn.o = k := by assumption
    subst e9
    k_dflt (refine c_new2 (k := .o) (by k_asm) (by k_asm) (by k_asm) (by k_asm) (by k_asm) (by first | exact rfl | assumption) (by ktr_room) (by ktr_units) hj ?_)
    intro x9 d9 t1 t2 t3 t4 t5 t6 h9 tk9 F9 N9 l1 l2
    k_steps
    exact hret _ _ _ _ _ _ _ _ _ _ (by k_asm) (newsSub (by assumption) (sub2 (fun _ h => by (repeat (first | exact h | refine List.Mem.tail _ ?_))))) (fun p hp => l1 p (by (repeat (first | exact hp | refine List.Mem.tail _ ?_)))) l2
  k_dflt (refine c_checkD (by k_asm) (by k_asm) (by k_asm) (by k_asm) (by k_asm) (by first | exact rfl | assumption) (by ktr_room) (by ktr_units) .d hg (by k_mem) hs ?_)
  intro h9 tk9 F9 N9
  k_steps
  · have e9 : Wn.d = k := by assumption
    subst e9
    k_dflt (refine c_new2 (k := .d) (by k_asm) (by k_asm) (by k_asm) (by k_asm) (by k_asm) (by first | exact rfl | assumption) (by ktr_room) (by ktr_units) hj ?_)
    intro x9 d9 t1 t2 t3 t4 t5 t6 h9 tk9 F9 N9 l1 l2
    k_steps
    exact hret _ _ _ _ _ _ _ _ _ _ (by k_asm) (newsSub (by assumption) (sub2 (fun _ h => by (repeat (first | exact h | refine List.Mem.tail _ ?_))))) (fun p hp => l1 p (by (repeat (first | exact hp | refine List.Mem.tail _ ?_)))) l2
  k_dflt (refine c_checkD (by k_asm) (by k_asm) (by k_asm) (by k_asm) (by k_asm) (by first | exact rfl | assumption) (by ktr_room) (by ktr_units) .h hg (by k_mem) hs ?_)
  intro h9 tk9 F9 N9
  k_steps
  · have e9 : Wn.h = k := by assumption
    subst e9
    k_dflt (refine c_new2 (k := .h) (by k_asm) (by k_asm) (by k_asm) (by k_asm) (by k_asm) (by first | exact rfl | assumption) (by ktr_room) (by ktr_units) hj ?_)
    intro x9 d9 t1 t2 t3 t4 t5 t6 h9 tk9 F9 N9 l1 l2
    k_steps
    exact hret _ _ _ _ _ _ _ _ _ _ (by k_asm) (newsSub (by assumption) (sub2 (fun _ h => by (repeat (first | exact h | refine List.Mem.tail _ ?_))))) (fun p hp => l1 p (by (repeat (first | exact hp | refine List.Mem.tail _ ?_)))) l2
  k_dflt (refine c_checkD (by k_asm) (by k_asm) (by k_asm) (by k_asm) (by k_asm) (by first | exact rfl | assumption) (by ktr_room) (by ktr_units) .i hg (by k_mem) hs ?_)
  intro h9 tk9 F9 N9
  k_steps
  · have e9 : Wn.i = k := by assumption
    subst e9
    k_dflt (refine c_new2 (k := .i) (by k_asm) (by k_asm) (by k_asm) (by k_asm) (by k_asm) (by first | exact rfl | assumption) (by ktr_room) (by ktr_units) hj ?_)
    intro x9 d9 t1 t2 t3 t4 t5 t6 h9 tk9 F9 N9 l1 l2
    k_steps
    exact hret _ _ _ _ _ _ _ _ _ _ (by k_asm) (newsSub (by assumption) (sub2 (fun _ h => by (repeat (first | exact h | refine List.Mem.tail _ ?_))))) (fun p hp => l1 p (by (repeat (first | exact hp | refine List.Mem.tail _ ?_)))) l2
  k_dflt (refine c_checkD (by k_asm) (by k_asm) (by k_asm) (by k_asm) (by k_asm) (by first | exact rfl | assumption) (by ktr_room) (by ktr_units) .s hg (by k_mem) hs ?_)
  intro h9 tk9 F9 N9
  k_steps
  · have e9 : Wn.s = k := by assumption
    subst e9
    k_dflt (refine c_new2 (k := .s) (by k_asm) (by k_asm) (by k_asm) (by k_asm) (by k_asm) (by first | exact rfl | assumption) (by ktr_room) (by ktr_units) hj ?_)
    intro x9 d9 t1 t2 t3 t4 t5 t6 h9 tk9 F9 N9 l1 l2
    k_steps
    exact hret _ _ _ _ _ _ _ _ _ _ (by k_asm) (newsSub (by assumption) (sub2 (fun _ h => by (repeat (first | exact h | refine List.Mem.tail _ ?_))))) (fun p hp => l1 p (by (repeat (first | exact hp | refine List.Mem.tail _ ?_)))) l2
  all_goals exact gran_last (by assumption) (by assumption) (by assumption) (by assumption) (by assumption) (by assumption)
end Lw
end
section
theorem Lw.lay57 : True := by
  w_top off
  k_with_none
  k_with "ktr_enter" => (refine' code_def ?zk1 ?zk2 ?zk3 ?zk4 ?zk5 ?zkA ?zkF ?zkK ?zk6 ?zk7 ?zk8 ?zk9 ?zkB ?_ ?zc2 ?zc3 ?zc4 ?zc5; (case zkA => exact rfl); (case zkF => exact rfl); (case zkK => first | exact rfl | assumption); (case zk1 => k_asm); (case zk2 => k_asm); (case zk3 => k_asm); (case zk4 => k_asm); (case zk5 => k_asm); (case zk6 => k_is); (case zk7 => k_is); (case zk8 => ktr_room); (case zk9 => first | exact BindsTo.of_eq rfl | exact binds_K (by k_in) rfl (by k_is) rfl rfl rfl); (case zc5 => decide); (case zkB => exact locs rfl); (case zc2 => exact rfl); (case zc3 => exact rfl); (case zc4 => exact rfl); k_whole; intro g' L' h' FG' F' N' B' X' T'; (try dsimp only); (try k_fold))
  k_with "f_raise1" => ((case zB => k_asm); (case zF => k_asm); (case zX => k_asm); (case zN => k_asm); (case zT => k_asm); (case zhk => first | exact rfl | assumption); (case zd => ktr_room); (case zu => ktr_units))
  k_with "f_meansF" => (k_whole; intro t9 h9 tk9 F9 N9; (try dsimp only); (try k_fold))
  k_with "f_raise2" => ((case zF => k_asm); (case zX => k_asm); (case zN => k_asm); (case zI => exact Lw.ItemIn.mono (by assumption) (fun _ h => by (repeat (first | exact h | refine List.Mem.tail _ ?_)))))
  k_with "callWith ref" => (k_here; k_dflt (refine' callWith_K ?zk1 ?zk2 ?_; (case zk1 => k_asm); (case zk2 => k_is); k_whole))
  trivial
/-! a for loop by what holds between its turns: over a list of the ledger, a tuple, a range; any target; turns may make things that stay -/
namespace Lw
section
variable {prog : Program} {w : World} {A : Around} {E : Value → Shared → Prop} {s : Shared} {env : Env} {h₀ : Heap} {target : Expr} {body : List Stmt} {Q : Flow → Shared → Prop} {m : Str → Option Value} {news : List (Addr × Obj)}
noncomputable def LEnd (h₀ : Heap) (L I : Addr) (it : Obj) (J : (Str → Option Value) → List (Addr × Obj) → Prop) (s₁ s₂ : Shared) : Prop :=
  ∃ h' tk m' news', s₂ = { s₁ with heap := h', toks := tk } ∧ Fr h₀ L h' m' ∧ News h₀ L h' ((I, it) :: news') ∧ (∀ p ∈ news', p.1 ≠ I) ∧ J m' news'
noncomputable def LPost (h₀ : Heap) (L I : Addr) (it : Obj) (J : (Str → Option Value) → List (Addr × Obj) → Prop) (s₁ : Shared) (Q : Flow → Shared → Prop) (f : Flow) (s₂ : Shared) : Prop := match f with
  | .ret v => Q (.ret v) s₂
  | .brk => Q .next s₂
  | _ => LEnd h₀ L I it J s₁ s₂
theorem LPost.go {L I : Addr} {it : Obj} {J : (Str → Option Value) → List (Addr × Obj) → Prop} {s₁ : Shared} {Q : Flow → Shared → Prop} {h' : Heap} {tk : Nat} {m' : Str → Option Value} {news' : List (Addr × Obj)} (F : Fr h₀ L h' m') (N : News h₀ L h' ((I, it) :: news')) (ho : ∀ p ∈ news', p.1 ≠ I) (hJ : J m' news') :
    LPost h₀ L I it J s₁ Q .next { s₁ with heap := h', toks := tk } := ⟨h', tk, m', news', rfl, F, N, ho, hJ⟩
theorem LPost.ret {L I : Addr} {it : Obj} {J : (Str → Option Value) → List (Addr × Obj) → Prop} {s₁ s₂ : Shared} {Q : Flow → Shared → Prop} {v : Value} (h : Q (.ret v) s₂) : LPost h₀ L I it J s₁ Q (.ret v) s₂ := h
theorem for_core {I : Addr} {fp : List Addr} {n : Nat} {P : Nat → Value → Prop} {St : Nat → Heap → Prop} (J : Nat → (Str → Option Value) → List (Addr × Obj) → Prop) (W : Walks prog w A I fp [I] n P St)
    (hgo : ∀ i v (s : Shared) (Q : Unit → Shared → Prop) (E : Value → Shared → Prop), St i s.heap → Q () s → wpAny (model prog w) A (letOwnedTupleGo target (.ref I) v) Q E s)
    (hSt : ∀ i h, St i h → ∃ o, h.get? I = some o) (hfp : ∀ b ∈ fp, b = I ∨ (∃ o, h₀.get? b = some o) ∨ ∃ o, ∀ i m n', J i m n' → (b, o) ∈ n') (hLf : env.locals ∉ fp) (hI : h₀.get? I = none) (hnw : ∀ p ∈ news, p.1 ≠ I) (hst : St 0 s.heap)
    (F : Fr h₀ env.locals s.heap m) (N : News h₀ env.locals s.heap news) (hJ : J 0 m news)
    (turn : ∀ i v m₁ news₁ it h₁ tk₁, i < n → P i v → J i m₁ news₁ → (∀ p ∈ news₁, p.1 ≠ I) → Fr h₀ env.locals h₁ m₁ → News h₀ env.locals h₁ ((I, it) :: news₁) →
      wpAny (model prog w) A (assign target env v) (fun _ s₂ => wpAny (model prog w) A (execs body env) (LPost h₀ env.locals I it (J (i + 1)) { s with heap := h₁, toks := tk₁ } Q) E s₂) E { s with heap := h₁, toks := tk₁ })
    (done : ∀ m₁ news₁ h₁ tk₁, J n m₁ news₁ → Fr h₀ env.locals h₁ m₁ → News h₀ env.locals h₁ news₁ → Q .next { s with heap := h₁, toks := tk₁ }) :
    TurnsAt prog w A h₀ env target body Q E (.ref I) s := by
  refine ⟨I, fp, [I], n, fun i v _ => P i v, _, St, m, news, J, rfl, KTurns.ofWalks W hgo, hLf, (fun b hb => by rw [List.mem_singleton.mp hb]; exact hI), (fun p hp hq => hnw p hp (List.mem_singleton.mp hq)), hst, F, N, hJ, ?_, ?_⟩
  · intro i v m₁ news₁ h₁ tk₁ own hi hP hJ₁ hoff hown hget hall hst₁ F₁ N₁
    obtain ⟨it, hit⟩ := hSt _ _ hst₁
    have hmem := hall I (W.sub I (by simp)) hI it hit
    have hoff' : ∀ p ∈ news₁, p.1 ≠ I := fun p hp e => hoff p hp (List.mem_singleton.mpr e)
    have N₂ : News h₀ env.locals h₁ ((I, it) :: news₁) := fun p hp => by
      rcases List.mem_cons.mp hp with rfl | hp
      · exact N₁ _ (List.mem_append_left _ hmem)
      · exact N₁ _ (List.mem_append_right _ hp)
    have fin : ∀ s₃, LEnd h₀ env.locals I it (J (i + 1)) { s with heap := h₁, toks := tk₁ } s₃ → LoopStepU h₀ env.locals [I] own (J (i + 1)) { s with heap := h₁, toks := tk₁ } .next s₃ := by
      rintro s₃ ⟨h', tk, m', news', e, F', N', ho, hJ'⟩
      refine ⟨rfl, h', tk, m', news', e, F', fun p hp => ?_, fun p hp hq => ho p hp (List.mem_singleton.mp hq), hJ'⟩
      rcases List.mem_append.mp hp with hp | hp
      · have g := hget p hp
        rcases hfp p.1 (hown p hp) with hb | ⟨o, hb⟩ | ⟨o, hb⟩
        · rw [hb, hit] at g
          have e1 : p = (I, it) := Prod.ext hb (Option.some.inj g).symm
          rw [e1]; exact N' _ (.head _)
        · have := (N₁ p (List.mem_append_left _ hp)).2.2
          rw [this] at hb; cases hb
        · have h1 := (N₂ _ (.tail _ (hb _ _ _ hJ₁))).1
          rw [h1] at g
          have e1 : p = (p.1, o) := Prod.ext rfl (Option.some.inj g).symm
          rw [e1]; exact N' _ (.tail _ (hb _ _ _ hJ'))
      · exact N' _ (.tail _ hp)
    refine wpAny_mono (turn i v m₁ news₁ it h₁ tk₁ hi hP hJ₁ hoff' F₁ N₂) (fun _ s₂ h₂ => wpAny_mono h₂ (fun f s₃ p => ?_) fun _ _ e => e) fun _ _ e => e
    cases f with
    | ret v => exact p
    | brk => exact p
    | next => exact fin _ p
    | cont => exact fin _ p
  · intro h' tk m' news' F' N' _ hJ'
    exact done m' news' h' tk hJ' F' N'
theorem for_list {l : Addr} {items : Array Value} {nn : Nat} (J : Nat → (Str → Option Value) → List (Addr × Obj) → Prop)
    (hh : A.handled = none) (F : Fr h₀ env.locals s.heap m) (N : News h₀ env.locals s.heap news) (hl : ∀ i m n', J i m n' → (l, listOf items nn) ∈ n') (hJ : J 0 m news)
    (turn : ∀ i v m₁ news₁ I it h₁ tk₁, items[i]? = some v → J i m₁ news₁ → (∀ p ∈ news₁, p.1 ≠ I) → Fr h₀ env.locals h₁ m₁ → News h₀ env.locals h₁ ((I, it) :: news₁) →
      wpAny (model prog w) A (assign target env v) (fun _ s₂ => wpAny (model prog w) A (execs body env) (LPost h₀ env.locals I it (J (i + 1)) { s with heap := h₁, toks := tk₁ } Q) E s₂) E { s with heap := h₁, toks := tk₁ })
    (done : ∀ m₁ news₁ h₁ tk₁, J items.size m₁ news₁ → Fr h₀ env.locals h₁ m₁ → News h₀ env.locals h₁ news₁ → Q .next { s with heap := h₁, toks := tk₁ }) :
    wpAny (model prog w) A (pyIter (.ref l)) (fun it s₂ => TurnsAt prog w A h₀ env target body Q E it s₂) E s := by
  have hm := N _ (hl 0 m news hJ)
  have hls : s.heap.IsList l items := ⟨_, hm.1, rfl, nn, rfl⟩
  have hlt := Heap.lt_size hm.1
  have up : ∀ b o, s.heap.get? b = some o → (s.heap.push { cls := .type "list_iterator", data := .fields #[.ref l, .int 0 0] }).get? b = some o := fun b o e => Heap.get?_push_of_some _ e
  refine wpAny_pyIter_list hls ?_
  refine for_core (s := { s with heap := s.heap.push { cls := .type "list_iterator", data := .fields #[.ref l, .int 0 0] } }) J (Walks.list hh s.heap.objs.size l (Nat.ne_of_lt hlt) items) (fun i v s Q E st q => PyProof.Rows.letGo_listiter st.1 q) (fun i h st => by obtain ⟨o, e, _⟩ := st.1; exact ⟨o, e⟩)
    (fun b hb => ?_) (fun hb => ?_) (next_is_new F) (fun p hp => Nat.ne_of_lt (Heap.lt_size (N p hp).1)) ⟨⟨_, Heap.get?_push_size _ rfl, rfl, rfl⟩, hls.at fun o e => up _ o e⟩ (F.keeps up) (N.grown up) hJ
    (fun i v m₁ news₁ it h₁ tk₁ _ hP => turn i v m₁ news₁ _ it h₁ tk₁ hP) done
  · rcases List.mem_cons.mp hb with e | hb
    · exact .inl e
    · rw [List.mem_singleton.mp hb]; exact .inr (.inr ⟨_, hl⟩)
  · rcases List.mem_cons.mp hb with e | hb
    · exact Nat.ne_of_lt F.ns.lt e
    · exact hm.2.1 (List.mem_singleton.mp hb).symm
theorem for_range {r : Addr} {n : Nat} {t u v : Tok} (J : Nat → (Str → Option Value) → List (Addr × Obj) → Prop)
    (hh : A.handled = none) (hr : IsRange s.heap r 0 n 1 t u v) (hsmall : Builtin.Range.small 0 n 1 = true) (hn : Builtin.Range.rangeSize 0 n 1 = (n : Int)) (F : Fr h₀ env.locals s.heap m) (N : News h₀ env.locals s.heap news) (hJ : J 0 m news)
    (turn : ∀ i t m₁ news₁ I it h₁ tk₁, i < n → J i m₁ news₁ → (∀ p ∈ news₁, p.1 ≠ I) → Fr h₀ env.locals h₁ m₁ → News h₀ env.locals h₁ ((I, it) :: news₁) →
      wpAny (model prog w) A (assign target env (.int (i : Nat) t)) (fun _ s₂ => wpAny (model prog w) A (execs body env) (LPost h₀ env.locals I it (J (i + 1)) { s with heap := h₁, toks := tk₁ } Q) E s₂) E { s with heap := h₁, toks := tk₁ })
    (done : ∀ m₁ news₁ h₁ tk₁, J n m₁ news₁ → Fr h₀ env.locals h₁ m₁ → News h₀ env.locals h₁ news₁ → Q .next { s with heap := h₁, toks := tk₁ }) :
    wpAny (model prog w) A (pyIter (.ref r)) (fun it s₂ => TurnsAt prog w A h₀ env target body Q E it s₂) E s := by
  refine wpAny_pyIter_range hr hsmall ?_
  have up : ∀ (o' : Obj) b o, s.heap.get? b = some o → (s.heap.push o').get? b = some o := fun o' b o e => Heap.get?_push_of_some _ e
  refine for_core (s := { s with heap := s.heap.push _ }) J (Walks.range hh s.heap.objs.size 0 1 n) (fun i v s Q E st q => ?_) (fun i h st => ⟨_, st⟩)
    (fun b hb => .inl (List.mem_singleton.mp hb)) (fun hb => Nat.ne_of_lt F.ns.lt (List.mem_singleton.mp hb)) (next_is_new F) (fun p hp => Nat.ne_of_lt (Heap.lt_size (N p hp).1)) (by show IsRangeIter _ _ _ _ _; rw [hn]; simpa using Heap.get?_push_size _ rfl) (F.keeps (up _)) (N.grown (up _)) hJ
    (fun i v m₁ news₁ it h₁ tk₁ hi hP => ?_) done
  · unfold letOwnedTupleGo
    cases target <;> first
      | exact wpAny_pure q
      | (cases v <;> first
          | exact wpAny_pure q
          | (refine wpAny_bind (wpAny_load st ?_)
             exact wpAny_pure q))
  · obtain ⟨t, rfl⟩ := hP
    have e1 : (0 : Int) + (i : Int) * 1 = (i : Int) := by omega
    rw [e1]
    exact turn i t m₁ news₁ _ it h₁ tk₁ hi
end
end Lw
end
section
theorem Lw.lay58 : True := by
  w_top off
  k_with_none
  k_with "ktr_enter" => (refine' code_def ?zk1 ?zk2 ?zk3 ?zk4 ?zk5 ?zkA ?zkF ?zkK ?zk6 ?zk7 ?zk8 ?zk9 ?zkB ?_ ?zc2 ?zc3 ?zc4 ?zc5; (case zkA => exact rfl); (case zkF => exact rfl); (case zkK => first | exact rfl | assumption); (case zk1 => k_asm); (case zk2 => k_asm); (case zk3 => k_asm); (case zk4 => k_asm); (case zk5 => k_asm); (case zk6 => k_is); (case zk7 => k_is); (case zk8 => ktr_room); (case zk9 => first | exact BindsTo.of_eq rfl | exact binds_K (by k_in) rfl (by k_is) rfl rfl rfl); (case zc5 => decide); (case zkB => exact locs rfl); (case zc2 => exact rfl); (case zc3 => exact rfl); (case zc4 => exact rfl); k_whole; intro g' L' h' FG' F' N' B' X' T'; (try dsimp only); (try k_fold))
  k_with "f_raise1" => ((case zB => k_asm); (case zF => k_asm); (case zX => k_asm); (case zN => k_asm); (case zT => k_asm); (case zhk => first | exact rfl | assumption); (case zd => ktr_room); (case zu => ktr_units))
  k_with "f_meansF" => (k_whole; intro t9 h9 tk9 F9 N9; (try dsimp only); (try k_fold))
  k_with "f_raise2" => ((case zF => k_asm); (case zX => k_asm); (case zN => k_asm); (case zI => exact Lw.ItemIn.mono (by assumption) (fun _ h => by (repeat (first | exact h | refine List.Mem.tail _ ?_)))))
  k_with "callWith ref" => (k_here; k_dflt (refine' callWith_K ?zk1 ?zk2 ?_; (case zk1 => k_asm); (case zk2 => k_is); k_whole))
  trivial
namespace Lw
noncomputable def many_J (P : Params) (it : Item) (base : List (Addr × Obj)) (D l : Addr) (n9 : Nat) (lim : Addr) (i' : Nat) (m' : Str → Option Value) (n' : List (Addr × Obj)) : Prop :=
  (l, W.listOf #[.ref D] n9) ∈ n' ∧ m' "limits" = some (.ref lim) ∧ ((i' = 0 ∧ n' = (lim, W.listOf #[] 0) :: base) ∨ (i' = 1 ∧ ∃ x dx t1 t2 t3 t4 t5 t6 nn, n' = (lim, W.listOf #[.ref x] nn) :: (x, instObj it.k.cls dx) :: (dx, itemD P it t1 t2 t3 t4 t5 t6) :: base ∧ (∀ p ∈ base, p.1 < dx) ∧ @LT.lt Nat _ dx x))
theorem allLt_ne {d : Addr} (l : List (Addr × Obj)) (h : AllLt d l) : ∀ p ∈ l, p.1 ≠ d := by
  induction l with
  | nil => intro p hp; cases hp
  | cons q r ih =>
    intro p hp
    rcases List.mem_cons.mp hp with e | hp
    · rw [e]; exact Nat.ne_of_lt h.1
    · exact ih h.2 p hp
theorem if_no {c : Prop} [Decidable c] {v' w v : Option Value} (hn : ¬ c) (h : w = v) : (if c then v' else w) = v := (if_neg hn).trans h
theorem perm4 {a b c d : Addr × Obj} {r : List (Addr × Obj)} : ∀ p ∈ c :: d :: a :: b :: r, p ∈ a :: b :: c :: d :: r := by
  intro p hp; simp only [List.mem_cons] at hp ⊢; rcases hp with h | h | h | h | h <;> simp [h]
theorem one_at {v w : Value} {i : Nat} (h : (#[w] : Array Value)[i]? = some v) : i = 0 ∧ v = w := by
  cases i with
  | zero => simp at h; exact ⟨rfl, h.symm⟩
  | succ i => simp at h
end Lw
local macro_rules | `(tactic| k_all) => `(tactic| k_extra "k_all")
theorem Lw.lay59 : True := by
  w_top off
  k_with_none
  k_with "ktr_enter" => (refine' code_def ?zk1 ?zk2 ?zk3 ?zk4 ?zk5 ?zkA ?zkF ?zkK ?zk6 ?zk7 ?zk8 ?zk9 ?zkB ?_ ?zc2 ?zc3 ?zc4 ?zc5; (case zkA => exact rfl); (case zkF => exact rfl); (case zkK => first | exact rfl | assumption); (case zk1 => k_asm); (case zk2 => k_asm); (case zk3 => k_asm); (case zk4 => k_asm); (case zk5 => k_asm); (case zk6 => k_is); (case zk7 => k_is); (case zk8 => ktr_room); (case zk9 => first | exact BindsTo.of_eq rfl | exact binds_K (by k_in) rfl (by k_is) rfl rfl rfl); (case zc5 => decide); (case zkB => exact locs rfl); (case zc2 => exact rfl); (case zc3 => exact rfl); (case zc4 => exact rfl); k_whole; intro g' L' h' FG' F' N' B' X' T'; (try dsimp only); (try k_fold))
  k_with "f_raise1" => ((case zB => k_asm); (case zF => k_asm); (case zX => k_asm); (case zN => k_asm); (case zT => k_asm); (case zhk => first | exact rfl | assumption); (case zd => ktr_room); (case zu => ktr_units))
  k_with "f_meansF" => (k_whole; intro t9 h9 tk9 F9 N9; (try dsimp only); (try k_fold))
  k_with "f_raise2" => ((case zF => k_asm); (case zX => k_asm); (case zN => k_asm); (case zI => exact Lw.ItemIn.mono (by assumption) (fun _ h => by (repeat (first | exact h | refine List.Mem.tail _ ?_)))))
  k_with "ksk_a1" => first | with_reducible assumption | ((with_reducible refine Lw.if_no (by decide) ?_); k_extra "ksk_a1") | exact rfl
  k_with "eval Name" => (k_here; k_dflt (refine' ld ?zk1 ?zk2 ?_; (case zk1 => k_asm); (case zk2 => k_extra "ksk_a1"); k_whole))
  k_with "loadName" => (k_here; k_dflt (refine ldn (by k_asm) (by k_extra "ksk_a1") ?_))
  k_with "k_all" => with_reducible assumption
  k_with "callWith ref" => (k_here; k_dflt (refine' callWith_K ?zk1 ?zk2 ?_; (case zk1 => k_asm); (case zk2 => k_is); k_whole))
  trivial
namespace Lw
variable {w : World} {tp : Program} {tl : List Str} {mean : ExcName → Option Value} {mg mb : Str → Option Value} {dp un : Nat} {gd : Option (List Code)} {cn : Str} {cs : Scope} {a : Addr} {ccd : Value} {cl : List (Str × Addr)} {outer : List Env} {A₀ : Around} {base h₀ : Heap} {L : Addr} {m : Str → Option Value} {news : List (Addr × Obj)} {s : Shared} {Q E : Value → Shared → Prop}
theorem c_parse (B : Below A₀ base outer h₀) (F : Fr h₀ L s.heap m) (X : (hd.heap_1 w.params).In h₀) (N : News h₀ L s.heap news) (T : Top tp tl mean mg mb h₀) (hk : cs.kind = .function) (hdp : dp + 8 < recursionLimit) (hun : un + 64 < cLine) {k : Wn} {x g : Str} {i j : Int} {s1 p1 p2 s3 p3 s4 p4 p5 : Nat} {t : Tok} (hx : x.length ≤ 100) (hr : Reads1 x 0 s1 p1 p2 s3 p3 s4 p4 p5) (he : p5 = x.length) (ea : Txt.slice x (some s1) (some p1) = Str.ofString (toString i)) (eb : Txt.slice x (some s3) (some p3) = Str.ofString (toString j)) (eg : Txt.slice x (some s4) (some p4) = g) (hi : 0 ≤ i ∧ i < 10) (hj : 0 < j ∧ j < 10) (hg : g.length ≤ 64) (hs : ∀ k' : Wn, k'.says g = decide (k' = k))
    (hret : ∀ x dx t1 t2 t3 t4 t5 t6 h' tk', Fr h₀ L h' m → News h₀ L h' ((x, instObj k.cls dx) :: (dx, itemD w.params ⟨k, i, j, "LIMITER"⟩ t1 t2 t3 t4 t5 t6) :: news) → (∀ p ∈ news, p.1 < dx) → dx < x → Q (.ref x) { s with heap := h', toks := tk' }) :
    wpAny (model row.prog w) (ktrTop dp un gd cn cs L a ccd cl outer) (call (.ref 605) [.str x t]) Q E s := by
  revert X
  k_fill
  intro X
  refine wpAny_call ?_
  k_dflt k_extra "ktr_enter"
  k_steps
  refine wpAny_call ?_
  k_dflt k_extra "ktr_enter"
  k_steps
  k_dflt (refine c_reads (by k_asm) (by k_asm) (by k_asm) (by k_asm) (by k_asm) (by first | exact rfl | assumption) (by ktr_room) (by ktr_units) hx hr he ?_)
  intro l9 D9 n9 u1 u2 u3 u4 h9 tk9 F9 N9 l1 l2
  unfold rdObj at N9
  rw [ea, eb, eg] at N9
  (try k_lt2 l2)
  k_steps
  k_dflt (refine For_turns (by k_asm) ?_)
  k_steps
  (with_reducible rename _ ∧ _ ∧ AllLt _ news => hl0)
  have hoL := allLt_ne _ hl0.2.2
  k_dflt (refine for_list (many_J w.params ⟨k, i, j, "LIMITER"⟩ ((D9, _) :: (l9, W.listOf #[.ref D9] n9) :: news) D9 l9 n9 ?lim9) rfl (by k_asm) (by k_asm) (fun _ _ _ h => h.1) ⟨.tail _ (.tail _ (.head _)), rfl, .inl ⟨rfl, rfl⟩⟩ ?turn9 ?done9)
  case turn9 =>
    intro i8 v8 m8 n8 I8 it8 h8 tk8 hv8 hJ8 ho8 F8 N8
    obtain ⟨rfl, rfl⟩ := one_at hv8
    obtain ⟨hm8, hn8, hJ8⟩ := hJ8
    rcases hJ8 with ⟨_, rfl⟩ | ⟨e8, _⟩
    · have hI8 : @Ne Nat I8 _ := fun e => ho8 _ (.head _) e.symm
      have hq1 := dg_len ⟨Int.le_of_lt hj.1, hj.2⟩
      have hq2 : (((Str.ofString (toString j)).length : Int) != 0) = true := by rw [hq1]; rfl
      k_steps
      any_goals (exfalso; omega)
      k_dflt (refine c_gran (by k_asm) (by k_asm) (by k_asm) (by k_asm) (by k_asm) (by first | exact rfl | assumption) (by ktr_room) (by ktr_units) hg hs hj.1 ?_)
      intro x9 d9 t1 t2 t3 t4 t5 t6 h9 tk9 F9 N9 l1 l2
      have hl8 := l1
      (try k_lt l1)
      (try k_lt2 l2)
      k_steps
      have N10 := newsSub (l := (I8, it8) :: (_, W.listOf #[.ref x9] 1) :: (x9, _) :: (d9, _) :: (D9, _) :: _) (by assumption) perm4
      exact LPost.go (by k_asm) N10 (List.forall_mem_cons.mpr ⟨fun e => hI8 e.symm, List.forall_mem_cons.mpr ⟨Nat.ne_of_gt (Nat.lt_trans (hl8 _ (.head _)) l2), List.forall_mem_cons.mpr ⟨Nat.ne_of_gt (hl8 _ (.head _)), fun p hp => ho8 p (.tail _ hp)⟩⟩⟩)
        ⟨.tail _ (.tail _ (.tail _ (.tail _ (.head _)))), by k_extra "ksk_a1", .inr ⟨rfl, x9, d9, t1, t2, t3, t4, t5, t6, _, rfl, fun p hp => hl8 p (.tail _ (.tail _ hp)), l2⟩⟩
    · exact absurd e8 (by simp)
  case done9 =>
    intro m8 n8 h8 tk8 hJ8 F8 N8
    obtain ⟨hm8, hn8, hJ8⟩ := hJ8
    rcases hJ8 with ⟨e8, _⟩ | ⟨_, x8, d8, t1, t2, t3, t4, t5, t6, nn, rfl, hl8, hl9⟩
    · exact absurd e8 (by simp)
    · k_steps
      exact hret x8 d8 t1 t2 t3 t4 t5 t6 _ _ (by k_asm) (newsSub (by assumption) (fun p hp => .tail _ (.tail _ (sub2 (fun _ h => .tail _ (.tail _ h)) p hp)))) (fun p hp => hl8 p (.tail _ (.tail _ hp))) hl9
end Lw
end
section
theorem Lw.lay60 : True := by
  w_top off
  k_with_none
  k_with "ktr_enter" => (refine' code_def ?zk1 ?zk2 ?zk3 ?zk4 ?zk5 ?zkA ?zkF ?zkK ?zk6 ?zk7 ?zk8 ?zk9 ?zkB ?_ ?zc2 ?zc3 ?zc4 ?zc5; (case zkA => exact rfl); (case zkF => exact rfl); (case zkK => first | exact rfl | assumption); (case zk1 => k_asm); (case zk2 => k_asm); (case zk3 => k_asm); (case zk4 => k_asm); (case zk5 => k_asm); (case zk6 => k_is); (case zk7 => k_is); (case zk8 => ktr_room); (case zk9 => first | exact BindsTo.of_eq rfl | exact binds_K (by k_in) rfl (by k_is) rfl rfl rfl); (case zc5 => decide); (case zkB => exact locs rfl); (case zc2 => exact rfl); (case zc3 => exact rfl); (case zc4 => exact rfl); k_whole; intro g' L' h' FG' F' N' B' X' T'; (try dsimp only); (try k_fold))
  k_with "f_raise1" => ((case zB => k_asm); (case zF => k_asm); (case zX => k_asm); (case zN => k_asm); (case zT => k_asm); (case zhk => first | exact rfl | assumption); (case zd => ktr_room); (case zu => ktr_units))
  k_with "f_meansF" => (k_whole; intro t9 h9 tk9 F9 N9; (try dsimp only); (try k_fold))
  k_with "f_raise2" => ((case zF => k_asm); (case zX => k_asm); (case zN => k_asm); (case zI => exact Lw.ItemIn.mono (by assumption) (fun _ h => by (repeat (first | exact h | refine List.Mem.tail _ ?_)))))
  k_with "callWith ref" => (k_here; k_dflt (refine' callWith_K ?zk1 ?zk2 ?_; (case zk1 => k_asm); (case zk2 => k_is); k_whole))
  trivial
/-! tuples of texts, tuples of numbers: == -/
namespace Lw
theorem all_eq {α : Type} [DecidableEq α] (ys zs : List α) : ((List.range (min ys.length zs.length)).all (fun j => decide (ys[j]? = zs[j]?)) && ys.length == zs.length) = decide (ys = zs) := by
  rw [Bool.eq_iff_iff]
  simp only [Bool.and_eq_true, List.all_eq_true, List.mem_range, decide_eq_true_eq, beq_iff_eq]
  constructor
  · rintro ⟨h, hl⟩
    refine List.ext_getElem? fun i => ?_
    by_cases hi : i < ys.length
    · exact h i (by omega)
    · rw [List.getElem?_eq_none (by omega), List.getElem?_eq_none (by omega)]
  · rintro rfl
    exact ⟨fun _ _ => rfl, rfl⟩
theorem StrsAre.at' : ∀ {vs : List Value} {ys : List Str}, StrsAre vs ys → ∀ (j : Nat) (h : j < vs.length), ∃ y t, ys[j]? = some y ∧ vs[j] = .str y t
  | _, _, .nil, j, h => absurd h (Nat.not_lt_zero _)
  | _, _, .cons y t r, 0, _ => ⟨y, t, rfl, rfl⟩
  | _, _, .cons y t r, j + 1, h => by
    obtain ⟨y', t', a, b⟩ := StrsAre.at' r j (Nat.lt_of_succ_lt_succ h)
    exact ⟨y', t', a, b⟩
/-- a tuple of texts in the ledger -/
noncomputable def WholeIn (led : List (Addr × Obj)) (a : Addr) (ys : List Str) : Prop := ∃ vs n, (a, ({ cls := .type "tuple", data := .seq (List.toArray vs) n } : Obj)) ∈ led ∧ StrsAre vs ys
theorem WholeIn.mono {l l' : List (Addr × Obj)} {a : Addr} {ys : List Str} (h : WholeIn l a ys) (hs : ∀ p ∈ l, p ∈ l') : WholeIn l' a ys := by
  obtain ⟨vs, n, h1, h2⟩ := h
  exact ⟨vs, n, hs _ h1, h2⟩
section
variable {prog : Program} {w : World} {A : Around} {E : Value → Shared → Prop} {s : Shared} {h₀ : Heap} {L a b : Addr} {led : List (Addr × Obj)} {Q : Value → Shared → Prop}
theorem eq_whole {ys zs : List Str} (N : News h₀ L s.heap led) (I : WholeIn led a ys) (J : WholeIn led b zs) (hu : A.units < cLine) (h : Q (.bool (decide (ys = zs))) s) : wpAny (model prog w) A (compareOp .Eq (.ref a) (.ref b)) Q E s := by
  obtain ⟨vs, n, h1, h2⟩ := I
  obtain ⟨us, k, h3, h4⟩ := J
  refine PySem.SeqAt.eq_tupleAt (e := fun j => decide (ys[j]? = zs[j]?)) ⟨_, (N _ h1).1, rfl, n, rfl⟩ ⟨_, (N _ h3).1, rfl, k, rfl⟩ hu (fun j a b => ?_) ?_
  · obtain ⟨y, t, e1, e2⟩ := StrsAre.at' h2 j (by simpa using a)
    obtain ⟨z, u, e3, e4⟩ := StrsAre.at' h4 j (by simpa using b)
    simp only [List.getElem_toArray, e2, e4, e1, e3, Option.some.injEq]
    exact PySem.SeqAt.EqAt.str_str y t z u
  · have e : ((List.range (min vs.toArray.size us.toArray.size)).all (fun j => decide (ys[j]? = zs[j]?)) && vs.toArray.size == us.toArray.size) = decide (ys = zs) := by
      rw [← all_eq ys zs]; simp [h2.length, h4.length]
    rw [e]; exact h
end
end Lw
end
section
theorem Lw.lay61 : True := by
  w_top off
  k_with_none
  k_with "ktr_enter" => (refine' code_def ?zk1 ?zk2 ?zk3 ?zk4 ?zk5 ?zkA ?zkF ?zkK ?zk6 ?zk7 ?zk8 ?zk9 ?zkB ?_ ?zc2 ?zc3 ?zc4 ?zc5; (case zkA => exact rfl); (case zkF => exact rfl); (case zkK => first | exact rfl | assumption); (case zk1 => k_asm); (case zk2 => k_asm); (case zk3 => k_asm); (case zk4 => k_asm); (case zk5 => k_asm); (case zk6 => k_is); (case zk7 => k_is); (case zk8 => ktr_room); (case zk9 => first | exact BindsTo.of_eq rfl | exact binds_K (by k_in) rfl (by k_is) rfl rfl rfl); (case zc5 => decide); (case zkB => exact locs rfl); (case zc2 => exact rfl); (case zc3 => exact rfl); (case zc4 => exact rfl); k_whole; intro g' L' h' FG' F' N' B' X' T'; (try dsimp only); (try k_fold))
  k_with "f_raise1" => ((case zB => k_asm); (case zF => k_asm); (case zX => k_asm); (case zN => k_asm); (case zT => k_asm); (case zhk => first | exact rfl | assumption); (case zd => ktr_room); (case zu => ktr_units))
  k_with "f_meansF" => (k_whole; intro t9 h9 tk9 F9 N9; (try dsimp only); (try k_fold))
  k_with "f_raise2" => ((case zF => k_asm); (case zX => k_asm); (case zN => k_asm); (case zI => exact Lw.ItemIn.mono (by assumption) (fun _ h => by (repeat (first | exact h | refine List.Mem.tail _ ?_)))))
  k_with "ksk_a1" => first | with_reducible assumption | ((with_reducible refine Lw.if_no (by decide) ?_); k_extra "ksk_a1") | exact rfl
  k_with "eval Name" => (k_here; k_dflt (refine' ld ?zk1 ?zk2 ?_; (case zk1 => k_asm); (case zk2 => k_extra "ksk_a1"); k_whole))
  k_with "loadName" => (k_here; k_dflt (refine ldn (by k_asm) (by k_extra "ksk_a1") ?_))
  k_with "callWith ref" => (k_here; k_dflt (refine' callWith_K ?zk1 ?zk2 ?_; (case zk1 => k_asm); (case zk2 => k_is); k_whole))
  trivial
namespace Lw
noncomputable def oft (gs : List (List Str)) (ys : List Str) : Int := ((gs.countP (fun z => decide (z = ys)) : Nat) : Int)
noncomputable def GoneAt (led : List (Addr × Obj)) (its : Array Value) (gs : List (List Str)) : Prop := its.size = gs.length ∧ ∀ (i : Nat) v, its[i]? = some v → ∃ a ys, v = .ref a ∧ gs[i]? = some ys ∧ WholeIn led a ys
theorem GoneAt.mono {l l' : List (Addr × Obj)} {its : Array Value} {gs : List (List Str)} (h : GoneAt l its gs) (hs : ∀ p ∈ l, p ∈ l') : GoneAt l' its gs := ⟨h.1, fun i v e => by
  obtain ⟨a, ys, h1, h2, h3⟩ := h.2 i v e
  exact ⟨a, ys, h1, h2, h3.mono hs⟩⟩
theorem oft_step {gs : List (List Str)} {ys zs : List Str} {i : Nat} (h : gs[i]? = some ys) : oft (gs.take (i + 1)) zs = oft (gs.take i) zs + (if ys = zs then 1 else 0) := by
  unfold oft
  rw [List.take_add_one, h, List.countP_append]
  by_cases e : ys = zs
  · simp [e]
  · simp [e]
noncomputable def often_J (led : List (Addr × Obj)) (gs : List (List Str)) (zs : List Str) (b : Addr) (i : Nat) (m' : Str → Option Value) (n' : List (Addr × Obj)) : Prop :=
  n' = led ∧ (∃ t, m' "count" = some (.int (oft (gs.take i) zs) t)) ∧ m' "wanted" = some (.ref b)
theorem oft_bound {gs : List (List Str)} {zs : List Str} (h : gs.length ≤ 100) (i : Nat) : 0 ≤ oft (gs.take i) zs ∧ oft (gs.take i) zs ≤ 100 := by
  unfold oft
  have h1 := List.countP_le_length (p := fun z => decide (z = zs)) (l := gs.take i)
  have h2 : (gs.take i).length ≤ gs.length := by rw [List.length_take]; omega
  omega
end Lw
theorem Lw.lay62 : True := by
  w_top off
  k_with_none
  k_with "ktr_enter" => (refine' code_def ?zk1 ?zk2 ?zk3 ?zk4 ?zk5 ?zkA ?zkF ?zkK ?zk6 ?zk7 ?zk8 ?zk9 ?zkB ?_ ?zc2 ?zc3 ?zc4 ?zc5; (case zkA => exact rfl); (case zkF => exact rfl); (case zkK => first | exact rfl | assumption); (case zk1 => k_asm); (case zk2 => k_asm); (case zk3 => k_asm); (case zk4 => k_asm); (case zk5 => k_asm); (case zk6 => k_is); (case zk7 => k_is); (case zk8 => ktr_room); (case zk9 => first | exact BindsTo.of_eq rfl | exact binds_K (by k_in) rfl (by k_is) rfl rfl rfl); (case zc5 => decide); (case zkB => exact locs rfl); (case zc2 => exact rfl); (case zc3 => exact rfl); (case zc4 => exact rfl); k_whole; intro g' L' h' FG' F' N' B' X' T'; (try dsimp only); (try k_fold))
  k_with "f_raise1" => ((case zB => k_asm); (case zF => k_asm); (case zX => k_asm); (case zN => k_asm); (case zT => k_asm); (case zhk => first | exact rfl | assumption); (case zd => ktr_room); (case zu => ktr_units))
  k_with "f_meansF" => (k_whole; intro t9 h9 tk9 F9 N9; (try dsimp only); (try k_fold))
  k_with "f_raise2" => ((case zF => k_asm); (case zX => k_asm); (case zN => k_asm); (case zI => exact Lw.ItemIn.mono (by assumption) (fun _ h => by (repeat (first | exact h | refine List.Mem.tail _ ?_)))))
  k_with "ksk_a1" => first | with_reducible assumption | ((with_reducible refine Lw.if_no (by decide) ?_); k_extra "ksk_a1") | exact rfl
  k_with "eval Name" => (k_here; k_dflt (refine' ld ?zk1 ?zk2 ?_; (case zk1 => k_asm); (case zk2 => k_extra "ksk_a1"); k_whole))
  k_with "loadName" => (k_here; k_dflt (refine ldn (by k_asm) (by k_extra "ksk_a1") ?_))
  k_with "callWith ref" => (k_here; k_dflt (refine' callWith_K ?zk1 ?zk2 ?_; (case zk1 => k_asm); (case zk2 => k_is); k_whole))
  trivial
namespace Lw
variable {w : World} {tp : Program} {tl : List Str} {mean : ExcName → Option Value} {mg mb : Str → Option Value} {dp un : Nat} {gd : Option (List Code)} {cn : Str} {cs : Scope} {a : Addr} {ccd : Value} {cl : List (Str × Addr)} {outer : List Env} {A₀ : Around} {base h₀ : Heap} {L : Addr} {m : Str → Option Value} {news : List (Addr × Obj)} {s : Shared} {Q E : Value → Shared → Prop}
theorem c_often (B : Below A₀ base outer h₀) (F : Fr h₀ L s.heap m) (X : (hd.heap_1 w.params).In h₀) (N : News h₀ L s.heap news) (T : Top tp tl mean mg mb h₀) (hk : cs.kind = .function) (hdp : dp + 1 < recursionLimit) (hun : un + 8 < cLine) {g b : Addr} {its : Array Value} {nn : Nat} {gs : List (List Str)} {zs : List Str} (G : (g, W.listOf its nn) ∈ news) (GA : GoneAt news its gs) (J : WholeIn news b zs) (hgl : gs.length ≤ 100)
    (hret : ∀ t h' tk', Fr h₀ L h' m → News h₀ L h' news → Q (.int (oft gs zs) t) { s with heap := h', toks := tk' }) :
    wpAny (model row.prog w) (ktrTop dp un gd cn cs L a ccd cl outer) (call (.ref 727) [.ref g, .ref b]) Q E s := by
  revert X
  k_fill
  intro X
  refine wpAny_call ?_
  k_dflt k_extra "ktr_enter"
  k_steps
  k_dflt (refine For_turns (by k_asm) ?_)
  k_steps
  k_dflt (refine for_list (often_J news gs zs b) rfl (by k_asm) (by k_asm) (fun i m n h => h.1 ▸ G) ⟨rfl, ⟨_, rfl⟩, rfl⟩ ?turn9 ?done9)
  case turn9 =>
    intro i8 v8 m8 n8 I8 it8 h8 tk8 hv8 hJ8 ho8 F8 N8
    obtain ⟨a8, ys8, rfl, hg8, W8⟩ := GA.2 _ _ hv8
    obtain ⟨rfl, ⟨t8, hc8⟩, hw8⟩ := hJ8
    have hb8 := oft_bound (zs := zs) hgl i8
    have hs8 := oft_step (zs := zs) hg8
    k_steps
    k_dflt (refine eq_whole (by k_asm) (W8.mono (fun _ h => .tail _ h)) (J.mono (fun _ h => .tail _ h)) (by ktr_units) ?_)
    k_steps
    · have e9 : oft (gs.take (i8 + 1)) zs = oft (gs.take i8) zs + 1 := by rw [hs8, if_pos (by assumption)]
      exact LPost.go (by k_asm) (by k_asm) ho8 ⟨rfl, ⟨_, by rw [e9]; exact rfl⟩, by k_extra "ksk_a1"⟩
    · have e9 : oft (gs.take (i8 + 1)) zs = oft (gs.take i8) zs := by rw [hs8, if_neg (by assumption), Int.add_zero]
      exact LPost.go (by k_asm) (by k_asm) ho8 ⟨rfl, ⟨_, by rw [e9]; k_extra "ksk_a1"⟩, by k_extra "ksk_a1"⟩
  case done9 =>
    intro m8 n8 h8 tk8 hJ8 F8 N8
    obtain ⟨rfl, ⟨t8, hc8⟩, hw8⟩ := hJ8
    rw [GA.1, List.take_length] at hc8
    k_steps
    exact hret _ _ _ (by k_asm) (by k_asm)
end Lw
end
section
theorem Lw.lay63 : True := by
  w_top off
  k_with_none
  k_with "ktr_enter" => (refine' code_def ?zk1 ?zk2 ?zk3 ?zk4 ?zk5 ?zkA ?zkF ?zkK ?zk6 ?zk7 ?zk8 ?zk9 ?zkB ?_ ?zc2 ?zc3 ?zc4 ?zc5; (case zkA => exact rfl); (case zkF => exact rfl); (case zkK => first | exact rfl | assumption); (case zk1 => k_asm); (case zk2 => k_asm); (case zk3 => k_asm); (case zk4 => k_asm); (case zk5 => k_asm); (case zk6 => k_is); (case zk7 => k_is); (case zk8 => ktr_room); (case zk9 => first | exact BindsTo.of_eq rfl | exact binds_K (by k_in) rfl (by k_is) rfl rfl rfl); (case zc5 => decide); (case zkB => exact locs rfl); (case zc2 => exact rfl); (case zc3 => exact rfl); (case zc4 => exact rfl); k_whole; intro g' L' h' FG' F' N' B' X' T'; (try dsimp only); (try k_fold))
  k_with "f_raise1" => ((case zB => k_asm); (case zF => k_asm); (case zX => k_asm); (case zN => k_asm); (case zT => k_asm); (case zhk => first | exact rfl | assumption); (case zd => ktr_room); (case zu => ktr_units))
  k_with "f_meansF" => (k_whole; intro t9 h9 tk9 F9 N9; (try dsimp only); (try k_fold))
  k_with "f_raise2" => ((case zF => k_asm); (case zX => k_asm); (case zN => k_asm); (case zI => exact Lw.ItemIn.mono (by assumption) (fun _ h => by (repeat (first | exact h | refine List.Mem.tail _ ?_)))))
  k_with "callWith ref" => (k_here; k_dflt (refine' callWith_K ?zk1 ?zk2 ?_; (case zk1 => k_asm); (case zk2 => k_is); k_whole))
  trivial
/-! joining and cutting texts at a sign that stands in no part -/
namespace Lw
noncomputable def Free (c : Nat) (x : Str) : Prop := c ∉ x.cps.toList
theorem cut_one {c : Nat} : ∀ {a b u v : List Nat}, c ∉ a → c ∉ b → a ++ c :: u = b ++ c :: v → a = b ∧ u = v
  | [], [], u, v, _, _, h => ⟨rfl, (List.cons.inj h).2⟩
  | [], y :: b, u, v, _, hb, h => absurd (List.mem_cons.mpr (.inl (List.cons.inj h).1)) hb
  | x :: a, [], u, v, ha, _, h => absurd (List.mem_cons.mpr (.inl (List.cons.inj h).1.symm)) ha
  | x :: a, y :: b, u, v, ha, hb, h => by
    obtain ⟨e, h⟩ := List.cons.inj h
    obtain ⟨e1, e2⟩ := cut_one (fun q => ha (List.mem_cons_of_mem _ q)) (fun q => hb (List.mem_cons_of_mem _ q)) h
    exact ⟨by rw [e, e1], e2⟩
theorem str_ext {x y : Str} (h : x.cps.toList = y.cps.toList) : x = y := by
  cases x; cases y; simp only [Str.mk.injEq]; exact Array.toList_inj.mp h
theorem app_list (a b : Str) : (a ++ b).cps.toList = a.cps.toList ++ b.cps.toList := by rw [Str.cps_append, Array.toList_append]
theorem join_two (c : Nat) (x y : Str) (r : List Str) : (Str.join ⟨#[c]⟩ (x :: y :: r)).cps.toList = x.cps.toList ++ c :: (Str.join ⟨#[c]⟩ (y :: r)).cps.toList := by
  show (x ++ ⟨#[c]⟩ ++ Str.join ⟨#[c]⟩ (y :: r)).cps.toList = _
  rw [app_list, app_list, List.append_assoc]; rfl
theorem join_inj {c : Nat} : ∀ {ps qs : List Str}, ps ≠ [] → qs ≠ [] → (∀ p ∈ ps, Free c p) → (∀ q ∈ qs, Free c q) → Str.join ⟨#[c]⟩ ps = Str.join ⟨#[c]⟩ qs → ps = qs
  | [], _, h, _, _, _, _ => absurd rfl h
  | _, [], _, h, _, _, _ => absurd rfl h
  | [x], [y], _, _, _, _, h => by have h' : x = y := h; rw [h']
  | [x], y :: z :: r, _, _, hx, _, h => by
    have e := congrArg (fun q : Str => q.cps.toList) h
    simp only [join_two] at e
    exact absurd (by show c ∈ x.cps.toList; have e' : x.cps.toList = _ := e; rw [e']; simp) (hx x (.head _))
  | x :: z :: r, [y], _, _, _, hy, h => by
    have e := congrArg (fun q : Str => q.cps.toList) h
    simp only [join_two] at e
    exact absurd (by show c ∈ y.cps.toList; have e' : _ = y.cps.toList := e; rw [← e']; simp) (hy y (.head _))
  | x :: z :: r, y :: t :: q, _, _, hx, hy, h => by
    have e := congrArg (fun q : Str => q.cps.toList) h
    simp only [join_two] at e
    obtain ⟨e1, e2⟩ := cut_one (hx x (.head _)) (hy y (.head _)) e
    have ih := join_inj (ps := z :: r) (qs := t :: q) (by simp) (by simp) (fun p hp => hx p (.tail _ hp)) (fun p hp => hy p (.tail _ hp)) (str_ext e2)
    rw [str_ext e1, ih]
theorem split_ne (x : Str) (c : Nat) : Txt.split x ⟨#[c]⟩ ≠ [] := by
  unfold Txt.split
  split
  · simp
  · split
    · simp
    · rw [StrLaws.partsBetween_eq]
      obtain ⟨p, r, e⟩ := StrLaws.partsFrom_ne x (Str.length ⟨#[c]⟩) 0 (Builtin.Str.occurrences x ⟨#[c]⟩ 0 x.length (x.length + 1))
      rw [e]; simp
theorem split_join {c : Nat} {ps : List Str} (h : ps ≠ []) (hf : ∀ p ∈ ps, Free c p) : Txt.split (Str.join ⟨#[c]⟩ ps) ⟨#[c]⟩ = ps :=
  join_inj (split_ne _ _) h (StrLaws.split_free _ _) hf (StrLaws.join_split _ _)
theorem join_snoc (c : Nat) : ∀ (ps : List Str) (q : Str), ps ≠ [] → Str.join ⟨#[c]⟩ (ps ++ [q]) = Str.join ⟨#[c]⟩ ps ++ ⟨#[c]⟩ ++ q
  | [], _, h => absurd rfl h
  | [x], q, _ => rfl
  | x :: y :: r, q, _ => by
    have ih := join_snoc c (y :: r) q (by simp)
    show x ++ ⟨#[c]⟩ ++ Str.join ⟨#[c]⟩ ((y :: r) ++ [q]) = x ++ ⟨#[c]⟩ ++ Str.join ⟨#[c]⟩ (y :: r) ++ ⟨#[c]⟩ ++ q
    rw [ih]; simp only [Str.append_assoc]
theorem slash : (("/" : Str)) = ⟨#[47]⟩ := by decide
theorem join_txt (ps : List Str) : Txt.join "/" ps = Str.join ⟨#[47]⟩ ps := by
  show PySem.Builtin.Str.glued _ _ = _
  rw [StrLaws.glued_eq_join, slash]
/-- a number's text has no slash -/
theorem num_free {n : Int} (h : 0 ≤ n) : Free 47 (Str.ofString (toString n)) := by
  obtain ⟨k, rfl⟩ := Int.eq_ofNat_of_zero_le h
  intro hm
  rw [Str.ofString_eq_toList] at hm
  obtain ⟨ch, h1, h2⟩ := List.mem_map.mp (by simpa using hm)
  have h1 : ch ∈ (Nat.repr k).toList := h1
  rw [Nat.toList_repr] at h1
  have h3 := Nat.isDigit_of_mem_toDigits (by decide) (by decide) h1
  simp only [Char.isDigit, Bool.and_eq_true, decide_eq_true_eq] at h3
  have h4 : (48 : UInt32).toNat ≤ ch.val.toNat := UInt32.le_iff_toNat_le.mp h3.1
  have h5 : ch.val.toNat = 47 := h2
  rw [h5] at h4
  exact absurd h4 (by decide)
theorem num_inj {a b : Int} (ha : 0 ≤ a) (hb : 0 ≤ b) (h : Str.ofString (toString a) = Str.ofString (toString b)) : a = b := by
  obtain ⟨k, rfl⟩ := Int.eq_ofNat_of_zero_le ha
  obtain ⟨j, rfl⟩ := Int.eq_ofNat_of_zero_le hb
  rw [Str.ofString_eq_toList, Str.ofString_eq_toList] at h
  have e1 : toString (k : Int) = Nat.repr k := rfl
  have e2 : toString (j : Int) = Nat.repr j := rfl
  rw [e1, e2] at h
  have h' := congrArg (fun x : Str => x.cps.toList) h
  simp only at h'
  have hc : ∀ {x y : List Char}, x.map Char.toNat = y.map Char.toNat → x = y := by
    intro x
    induction x with
    | nil => intro y e; cases y with
      | nil => rfl
      | cons _ _ => cases e
    | cons c r ih => intro y e; cases y with
      | nil => cases e
      | cons d q =>
        simp only [List.map_cons, List.cons.injEq] at e
        rw [Char.toNat_inj.mp e.1, ih e.2]
  have h2 : (Nat.repr k).toList = (Nat.repr j).toList := hc h'
  have h3 : Nat.repr k = Nat.repr j := String.toList_inj.mp h2
  have h4 : k = j := Nat.repr_inj.mp h3
  rw [h4]
end Lw
end
section
theorem Lw.lay64 : True := by
  w_top off
  k_with_none
  k_with "ktr_enter" => (refine' code_def ?zk1 ?zk2 ?zk3 ?zk4 ?zk5 ?zkA ?zkF ?zkK ?zk6 ?zk7 ?zk8 ?zk9 ?zkB ?_ ?zc2 ?zc3 ?zc4 ?zc5; (case zkA => exact rfl); (case zkF => exact rfl); (case zkK => first | exact rfl | assumption); (case zk1 => k_asm); (case zk2 => k_asm); (case zk3 => k_asm); (case zk4 => k_asm); (case zk5 => k_asm); (case zk6 => k_is); (case zk7 => k_is); (case zk8 => ktr_room); (case zk9 => first | exact BindsTo.of_eq rfl | exact binds_K (by k_in) rfl (by k_is) rfl rfl rfl); (case zc5 => decide); (case zkB => exact locs rfl); (case zc2 => exact rfl); (case zc3 => exact rfl); (case zc4 => exact rfl); k_whole; intro g' L' h' FG' F' N' B' X' T'; (try dsimp only); (try k_fold))
  k_with "f_raise1" => ((case zB => k_asm); (case zF => k_asm); (case zX => k_asm); (case zN => k_asm); (case zT => k_asm); (case zhk => first | exact rfl | assumption); (case zd => ktr_room); (case zu => ktr_units))
  k_with "f_meansF" => (k_whole; intro t9 h9 tk9 F9 N9; (try dsimp only); (try k_fold))
  k_with "f_raise2" => ((case zF => k_asm); (case zX => k_asm); (case zN => k_asm); (case zI => exact Lw.ItemIn.mono (by assumption) (fun _ h => by (repeat (first | exact h | refine List.Mem.tail _ ?_)))))
  k_with "callWith ref" => (k_here; k_dflt (refine' callWith_K ?zk1 ?zk2 ?_; (case zk1 => k_asm); (case zk2 => k_is); k_whole))
  trivial
namespace Lw
noncomputable def FreeAll (ps : List Str) : Prop := ∀ p ∈ ps, Free 47 p
theorem nm_free (k : Wn) : Free 47 k.nm := by cases k <;> (unfold Free; decide +kernel)
theorem ns_free {x : Str} (h : x = "LIMITER" ∨ x = "api") : Free 47 x := by rcases h with rfl | rfl <;> (unfold Free; decide +kernel)
theorem parts_free {it : Item} {ps : List Str} (ho : it.Ok) (hp : FreeAll ps) : FreeAll (it.parts ps) := by
  intro p h
  unfold Item.parts at h
  simp only [List.mem_cons, List.mem_append, List.not_mem_nil, or_false] at h
  rcases h with rfl | h | rfl | rfl | rfl
  · exact ns_free ho.ns
  · exact hp p h
  · exact num_free ho.a.1
  · exact num_free ho.m.1
  · exact nm_free _
theorem parts_ne (it : Item) (ps : List Str) : it.parts ps ≠ [] := by unfold Item.parts; simp
theorem key_join (it : Item) (ps : List Str) : it.key ps = Str.join ⟨#[47]⟩ (it.parts ps) := join_txt _
theorem key_split {it : Item} {ps : List Str} (ho : it.Ok) (hp : FreeAll ps) : Txt.split (it.key ps) "/" = it.parts ps := by
  rw [key_join, slash]; exact split_join (parts_ne _ _) (parts_free ho hp)
theorem win_join (it : Item) (ps : List Str) (n : Int) : winKey (it.key ps) n = Str.join ⟨#[47]⟩ (it.parts ps ++ [Str.ofString (toString n)]) := by
  rw [join_snoc _ _ _ (parts_ne it ps), ← key_join]
  unfold winKey
  rw [Str.empty_append, slash]
theorem snoc_free {it : Item} {ps : List Str} {n : Int} (ho : it.Ok) (hp : FreeAll ps) (hn : 0 ≤ n) : ∀ p ∈ it.parts ps ++ [Str.ofString (toString n)], Free 47 p := by
  intro p h
  rcases List.mem_append.mp h with h | h
  · exact parts_free ho hp p h
  · rw [List.mem_singleton.mp h]; exact num_free hn
theorem win_split {it : Item} {ps : List Str} {n : Int} (ho : it.Ok) (hp : FreeAll ps) (hn : 0 ≤ n) : Txt.split (winKey (it.key ps) n) "/" = it.parts ps ++ [Str.ofString (toString n)] := by
  rw [win_join, slash]; exact split_join (by simp) (snoc_free ho hp hn)
theorem key_inj {it jt : Item} {ps qs : List Str} (ho : it.Ok) (hp : FreeAll ps) (ho' : jt.Ok) (hq : FreeAll qs) (h : it.key ps = jt.key qs) : it.parts ps = jt.parts qs := by
  rw [key_join, key_join] at h
  exact join_inj (parts_ne _ _) (parts_ne _ _) (parts_free ho hp) (parts_free ho' hq) h
theorem win_inj {it jt : Item} {ps qs : List Str} {n k : Int} (ho : it.Ok) (hp : FreeAll ps) (ho' : jt.Ok) (hq : FreeAll qs) (hn : 0 ≤ n) (hk : 0 ≤ k) (h : winKey (it.key ps) n = winKey (jt.key qs) k) : it.parts ps = jt.parts qs ∧ n = k := by
  rw [win_join, win_join] at h
  have e := join_inj (by simp) (by simp) (snoc_free ho hp hn) (snoc_free ho' hq hk) h
  have e1 := List.append_inj' e rfl
  exact ⟨e1.1, num_inj hn hk (List.cons.inj e1.2).1⟩
theorem nm_inj {k j : Wn} (h : k.nm = j.nm) : k = j := by revert h; cases k <;> cases j <;> decide +kernel
/-- equal parts: equal limits -/
theorem parts_inj {it jt : Item} {ps qs : List Str} (ho : it.Ok) (ho' : jt.Ok) (h : it.parts ps = jt.parts qs) : it.ns = jt.ns ∧ ps = qs ∧ it.a = jt.a ∧ it.m = jt.m ∧ it.k = jt.k := by
  unfold Item.parts at h
  obtain ⟨e1, e2⟩ := List.cons.inj h
  obtain ⟨e3, e4⟩ := List.append_inj' e2 rfl
  obtain ⟨e5, e6⟩ := List.cons.inj e4
  obtain ⟨e7, e8⟩ := List.cons.inj e6
  exact ⟨e1, e3, num_inj ho.a.1 ho'.a.1 e5, num_inj ho.m.1 ho'.m.1 e7, nm_inj (List.cons.inj e8).1⟩
theorem key_short {it : Item} {l : List Value} {ps : List Str} (ho : it.Ok) (hS : SafeArgs l ps) (hl : l.length ≤ 2) (hp : (ps.map (·.length)).sum ≤ 900) : (it.key ps).length ≤ 2000 := by
  have h0 := StrLaws.join_length_le ⟨#[47]⟩ (it.parts ps)
  rw [← key_join] at h0
  have e : (⟨#[47]⟩ : Str).length = 1 := by decide
  rw [e] at h0
  have h1 := hS.len
  have h2 := dg_len ho.a
  have h3 := dg_len ho.m
  have h4 := Wn_len it.k
  have h5 := ns_len ho.ns
  unfold Item.parts at h0
  simp only [List.map_append, List.sum_append, List.map_cons, List.map_nil, List.sum_cons, List.sum_nil, List.length_append, List.length_cons, List.length_nil] at h0
  omega
end Lw
end
section
theorem Lw.lay65 : True := by
  w_top off
  k_with_none
  k_with "ktr_enter" => (refine' code_def ?zk1 ?zk2 ?zk3 ?zk4 ?zk5 ?zkA ?zkF ?zkK ?zk6 ?zk7 ?zk8 ?zk9 ?zkB ?_ ?zc2 ?zc3 ?zc4 ?zc5; (case zkA => exact rfl); (case zkF => exact rfl); (case zkK => first | exact rfl | assumption); (case zk1 => k_asm); (case zk2 => k_asm); (case zk3 => k_asm); (case zk4 => k_asm); (case zk5 => k_asm); (case zk6 => k_is); (case zk7 => k_is); (case zk8 => ktr_room); (case zk9 => first | exact BindsTo.of_eq rfl | exact binds_K (by k_in) rfl (by k_is) rfl rfl rfl); (case zc5 => decide); (case zkB => exact locs rfl); (case zc2 => exact rfl); (case zc3 => exact rfl); (case zc4 => exact rfl); k_whole; intro g' L' h' FG' F' N' B' X' T'; (try dsimp only); (try k_fold))
  k_with "f_raise1" => ((case zB => k_asm); (case zF => k_asm); (case zX => k_asm); (case zN => k_asm); (case zT => k_asm); (case zhk => first | exact rfl | assumption); (case zd => ktr_room); (case zu => ktr_units))
  k_with "f_meansF" => (k_whole; intro t9 h9 tk9 F9 N9; (try dsimp only); (try k_fold))
  k_with "f_raise2" => ((case zF => k_asm); (case zX => k_asm); (case zN => k_asm); (case zI => exact Lw.ItemIn.mono (by assumption) (fun _ h => by (repeat (first | exact h | refine List.Mem.tail _ ?_)))))
  k_with "callWith ref" => (k_here; k_dflt (refine' callWith_K ?zk1 ?zk2 ?_; (case zk1 => k_asm); (case zk2 => k_is); k_whole))
  trivial
namespace Lw
noncomputable def rdChk (k : Wn) (a m : Nat) : Bool :=
  let x := Item.show ⟨k, a, m, "LIMITER"⟩
  let e := 8 + k.nm.length
  (skipN x " \t\n\x0b\x0c\r\x1c\x1d\x1e\x1f" 0 == 0) && (skipN x "0123456789" 0 == 1) && (skipN x " \t\n\x0b\x0c\r\x1c\x1d\x1e\x1f" 1 == 2) && ((Txt.slice x (some (2 : Nat)) (some ((2 : Nat) + 1)) == "/") == false) &&
  ((Txt.lower (Txt.slice x (some (2 : Nat)) (some ((2 : Nat) + 3))) == "per") == true) && (skipN x " \t\n\x0b\x0c\r\x1c\x1d\x1e\x1f" (2 + 3) == 6) && (skipN x "0123456789" 6 == 7) && (skipN x " \t\n\x0b\x0c\r\x1c\x1d\x1e\x1f" 7 == 8) &&
  (skipN x "abcdefghijklmnopqrstuvwxyz" 8 == e) && (skipN x " \t\n\x0b\x0c\r\x1c\x1d\x1e\x1f" e == e) && (e == x.length) &&
  (Txt.slice x (some (0 : Nat)) (some (1 : Nat)) == Str.ofString (toString (a : Int))) && (Txt.slice x (some (6 : Nat)) (some (7 : Nat)) == Str.ofString (toString (m : Int))) && (Txt.slice x (some (8 : Nat)) (some e) == k.nm)
theorem rd_all (k : Wn) : ∀ a, a < 4 → ∀ m, m < 4 → rdChk k a m = true := by cases k <;> decide +kernel
theorem nm_says (k : Wn) : ∀ k' : Wn, k'.says k.nm = decide (k' = k) := by intro k'; cases k <;> cases k' <;> decide +kernel
theorem rd_show {it : Item} (ha : 0 ≤ it.a ∧ it.a < 4) (hm : 0 ≤ it.m ∧ it.m < 4) : ∃ s1 p1 p2 s3 p3 s4 p4 p5 : Nat, Reads1 it.show 0 s1 p1 p2 s3 p3 s4 p4 p5 ∧ p5 = it.show.length ∧ Txt.slice it.show (some s1) (some p1) = Str.ofString (toString it.a) ∧ Txt.slice it.show (some s3) (some p3) = Str.ofString (toString it.m) ∧ Txt.slice it.show (some s4) (some p4) = it.k.nm := by
  obtain ⟨k, a, m, ns⟩ := it
  obtain ⟨a', rfl⟩ := Int.eq_ofNat_of_zero_le ha.1
  obtain ⟨m', rfl⟩ := Int.eq_ofNat_of_zero_le hm.1
  have h := rd_all k a' (by have := ha.2; dsimp only at this; omega) m' (by have := hm.2; dsimp only at this; omega)
  have hx : Item.show ⟨k, (a' : Int), (m' : Int), ns⟩ = Item.show ⟨k, (a' : Int), (m' : Int), "LIMITER"⟩ := rfl
  rw [hx]
  unfold rdChk at h
  generalize Item.show ⟨k, (a' : Int), (m' : Int), "LIMITER"⟩ = x at h ⊢
  simp only [Bool.and_eq_true, beq_iff_eq] at h
  obtain ⟨⟨⟨⟨⟨⟨⟨⟨⟨⟨⟨⟨⟨h1, h2⟩, h3⟩, h4⟩, h5⟩, h6⟩, h7⟩, h8⟩, h9⟩, h10⟩, h11⟩, h12⟩, h13⟩, h14⟩ := h
  refine ⟨0, 1, 2, 6, 7, 8, 8 + k.nm.length, 8 + k.nm.length, ⟨h1, h2, by decide, h3, h4, beq_iff_eq.mpr h5, h6, h7, h8, h9, ?_, h10⟩, h11, h12, h13, h14⟩
  have : 0 < k.nm.length := by cases k <;> decide +kernel
  omega
theorem show_len {it : Item} (ho : it.Ok) : it.show.length ≤ 100 := by
  unfold Item.show
  have h1 := dg_len ho.a
  have h2 := dg_len ho.m
  have h3 := Wn_len it.k
  have e1 : (Str.ofString " per ").length = 5 := by decide
  have e2 : (Str.ofString " ").length = 1 := by decide
  rw [Str.length_append, Str.length_append, Str.length_append, Str.length_append, h1, h2, e1, e2]
  omega
end Lw
end
section
theorem Lw.lay66 : True := by
  w_top off
  k_with_none
  k_with "ktr_enter" => (refine' code_def ?zk1 ?zk2 ?zk3 ?zk4 ?zk5 ?zkA ?zkF ?zkK ?zk6 ?zk7 ?zk8 ?zk9 ?zkB ?_ ?zc2 ?zc3 ?zc4 ?zc5; (case zkA => exact rfl); (case zkF => exact rfl); (case zkK => first | exact rfl | assumption); (case zk1 => k_asm); (case zk2 => k_asm); (case zk3 => k_asm); (case zk4 => k_asm); (case zk5 => k_asm); (case zk6 => k_is); (case zk7 => k_is); (case zk8 => ktr_room); (case zk9 => first | exact BindsTo.of_eq rfl | exact binds_K (by k_in) rfl (by k_is) rfl rfl rfl); (case zc5 => decide); (case zkB => exact locs rfl); (case zc2 => exact rfl); (case zc3 => exact rfl); (case zc4 => exact rfl); k_whole; intro g' L' h' FG' F' N' B' X' T'; (try dsimp only); (try k_fold))
  k_with "f_raise1" => ((case zB => k_asm); (case zF => k_asm); (case zX => k_asm); (case zN => k_asm); (case zT => k_asm); (case zhk => first | exact rfl | assumption); (case zd => ktr_room); (case zu => ktr_units))
  k_with "f_meansF" => (k_whole; intro t9 h9 tk9 F9 N9; (try dsimp only); (try k_fold))
  k_with "f_raise2" => ((case zF => k_asm); (case zX => k_asm); (case zN => k_asm); (case zI => exact Lw.ItemIn.mono (by assumption) (fun _ h => by (repeat (first | exact h | refine List.Mem.tail _ ?_)))))
  k_with "callWith ref" => (k_here; k_dflt (refine' callWith_K ?zk1 ?zk2 ?_; (case zk1 => k_asm); (case zk2 => k_is); k_whole))
  trivial
/-! a tuple's first places: t[:b]; a for loop over a tuple -/
namespace Lw
section
variable {prog : Program} {w : World} {A : Around} {E : Value → Shared → Prop} {s : Shared}
theorem adjust_upto (b n : Nat) (hb : b ≤ n) : Builtin.Slice.sliceAdjust none (some (b : Int)) 1 (n : Int) = (0, (b : Int)) := by
  unfold Builtin.Slice.sliceAdjust
  have h1 : ¬ ((1 : Int) < 0) := by omega
  have h2 : ¬ ((b : Int) < 0) := by omega
  simp only [h1, h2, if_false]
  congr 1
  omega
theorem places_upto (b : Nat) : Builtin.Slice.slicePlaces 0 (b : Int) 1 = b := by
  unfold Builtin.Slice.slicePlaces
  have h1 : (1 : Int) > 0 := by omega
  simp only [h1, if_true, Int.ediv_one]
  split <;> omega
theorem sliceApplied_upto {sl : Addr} {b n : Nat} {u : Tok} {Q : Int × Int × Nat → Shared → Prop} (hs : s.heap.IsSliceOf sl .none (.int b u) .none) (hb : b ≤ n) (h : Q (0, 1, b) s) :
    wpAny (model prog w) A (Builtin.Slice.sliceApplied (.ref sl) (pure (n : Int))) Q E s := by
  obtain ⟨os, hos, hcs, hds⟩ := id hs
  unfold Builtin.Slice.sliceApplied Builtin.Slice.sliceFields
  refine wpAny_bind (wpAny_bind (wpAny_field hos hds (x := .none) rfl (wpAny_bind (wpAny_field hos hds (x := .int b u) rfl (wpAny_bind (wpAny_field hos hds (x := .none) rfl (wpAny_pure ?_)))))))
  refine wpAny_bind (slicePart_none ?_)
  show wpAny _ _ (if ((1 : Int) == 0) = true then _ else _) _ _ s
  rw [if_neg (by decide)]
  refine wpAny_bind (slicePart_none (wpAny_bind (slicePart_int (wpAny_bind (wpAny_pure ?_)))))
  show wpAny _ _ (match Builtin.Slice.sliceAdjust none (some (b : Int)) 1 (n : Int) with | (lo, hi) => pure (lo, (1 : Int), Builtin.Slice.slicePlaces lo hi 1)) _ _ s
  rw [adjust_upto b n hb]
  show wpAny _ _ (pure ((0 : Int), (1 : Int), Builtin.Slice.slicePlaces (0 : Int) (b : Int) 1)) _ _ s
  rw [places_upto b]
  exact wpAny_pure h
theorem pick_upto (xs : Array Value) (b : Nat) : ((List.range b).filterMap fun (k : Nat) => xs[((0 : Int) + (k : Int) * 1).toNat]?).toArray = (xs.toList.take b).toArray := by
  have e : (fun (k : Nat) => xs[((0 : Int) + (k : Int) * 1).toNat]?) = fun k => xs[0 + k]? := by
    funext k
    have : ((0 : Int) + (k : Int) * 1).toNat = 0 + k := by omega
    rw [this]
  rw [e]
  have := pick_run xs 0 b
  rw [List.filterMap_map] at this
  have e2 : ((fun x => xs[x]?) ∘ fun x => 0 + x) = fun k => xs[0 + k]? := rfl
  rw [e2, List.drop_zero] at this
  rw [this]
theorem exact_tup {t : Addr} {items : Array Value} {Q : Bool → Shared → Prop} (ht : IsTup s.heap t items) (h : Q true s) : wpAny (model prog w) A (Builtin.Tuple.tupleIsExact (.ref t)) Q E s := by
  unfold Builtin.Tuple.tupleIsExact
  refine wpAny_bind (wpAny_typeOf ht.typeIs ?_)
  exact wpAny_pure h
theorem getItem_upto {t sl : Addr} {items : Array Value} {b : Nat} {u : Tok} {Q : Value → Shared → Prop} (ht : IsTup s.heap t items) (hs : s.heap.IsSliceOf sl .none (.int b u) .none) (hb : b ≤ items.size)
    (h1 : b = items.size → Q (.ref t) s) (h2 : Q (.ref s.heap.objs.size) { s with heap := s.heap.push { cls := .type "tuple", data := .seq (items.toList.take b).toArray } })
    (hsz : items.size ≤ sizeLine) : wpAny (model prog w) A (getItem (.ref t) (.ref sl)) Q E s := by
  have hdrop : sizeOk (.seq (items.toList.take b).toArray) := by
    show (items.toList.take b).toArray.size ≤ sizeLine
    rw [List.size_toArray, List.length_take, Array.length_toList]
    omega
  obtain ⟨os, hos, hcs, hds⟩ := id hs
  have hTs : s.TypeIs (.ref sl) "slice" := ⟨os, hos, hcs⟩
  unfold getItem
  try with_reducible refine wpAny_holding ?_
  first | refine wpAny_bind (wpAny_pure ?_) | skip
  refine wpAny_bind (wpAny_sequenceKey ht.typeIs (by decide) ?_)
  refine wpAny_bind (wpAny_callSpecial?_slot (name := Str.ofString "__getitem__") ht.typeIs slot_tuple_getitem
    (wpAny_call_entry slot_tuple_getitem ht.typeIs entry_tuple_getitem ?_ (args_tuple_getitem _ _)))
  show wpAny _ _ (Builtin.Tuple.tupleItemsOf (.ref t) >>= _) _ _ s
  refine wpAny_bind (tupleItemsOf_ ht ?_)
  refine wpAny_bind (wpAny_typeOf hTs ?_)
  rw [if_pos (by decide)]
  refine wpAny_bind (sliceApplied_upto hs hb ?_)
  show wpAny _ _ (if ((0 : Int) == 0 && (1 : Int) == 1 && b == items.size) = true then _ else _) _ _ s
  by_cases hbs : b = items.size
  · rw [if_pos (by simp [hbs])]
    refine wpAny_bind (exact_tup ht ?_)
    rw [if_pos rfl]
    exact wpAny_bind (wpAny_rule (wpAny_pure ⟨_, rfl, wpAny_pure (h1 hbs)⟩))
  · have hno : ¬ (((0 : Int) == 0 && (1 : Int) == 1 && b == items.size) = true) := by simp [hbs]
    rw [if_neg hno, pick_upto items b]
    first
      | exact wpAny_bind (m := Builtin.Tuple.tupleExact _) (wpAny_newObj_type (wpAny_pure ⟨_, rfl, wpAny_pure h2⟩) hdrop)
      | exact wpAny_bind (m := Builtin.Tuple.tupleExact _) (wpAny_newObj_type (wpAny_bind (wpAny_pure (wpAny_pure ⟨_, rfl, wpAny_pure h2⟩))) hdrop)
      | exact wpAny_bind (wpAny_bind (m := Builtin.Tuple.tupleExact _) (wpAny_newObj_type (wpAny_pure (wpAny_pure ⟨_, rfl, wpAny_pure h2⟩)) hdrop))
      | exact wpAny_bind (wpAny_bind (m := Builtin.Tuple.tupleExact _) (wpAny_newObj_type (wpAny_pure ⟨_, rfl, wpAny_pure h2⟩) hdrop))
end
section
variable {prog : Program} {w : World} {A : Around} {E : Value → Shared → Prop} {s : Shared} {env : Env} {h₀ : Heap} {target : Expr} {body : List Stmt} {Q : Flow → Shared → Prop} {m : Str → Option Value} {news : List (Addr × Obj)} {L : Addr}
theorem slice_upto {value slice : Expr} {t : Addr} {items : Array Value} {b : Nat} {u : Tok} {Q : Value → Shared → Prop}
    (F : Fr h₀ L s.heap m) (N : News h₀ L s.heap news) (ht : IsTup s.heap t items) (ht0 : ∃ o, h₀.get? t = some o) (hb : b ≤ items.size)
    (h : ∀ T h' led, Fr h₀ L h' m → News h₀ L h' led → (∀ p ∈ news, p ∈ led) → IsTup h' T (items.toList.take b).toArray → ((∃ o, h₀.get? T = some o) ∨ ∃ o, (T, o) ∈ led) → Q (.ref T) { s with heap := h' })
    (hs : subscripted slice false (.ref t) (.ref s.heap.objs.size) = operate [.ref s.heap.objs.size, .ref t] (getItem (.ref t) (.ref s.heap.objs.size)) := by with_unfolding_all rfl)
    (hg : ∀ r, letTemporaryGo value (.ref t) r = pure () := by intro _; with_unfolding_all rfl)
    (hsz : items.size ≤ sizeLine) :
    wpAny (model prog w) A (subscriptTail value slice (.ref t) (.ref s.heap.objs.size)) Q E { s with heap := s.heap.push { cls := .type "slice", data := .fields #[.none, .int b u, .none] } } := by
  have up : ∀ b' o, s.heap.get? b' = some o → (s.heap.push { cls := .type "slice", data := .fields #[.none, .int b u, .none] }).get? b' = some o := fun _ _ e => Heap.get?_push_of_some _ e
  have ht' : IsTup (s.heap.push { cls := .type "slice", data := .fields #[.none, .int b u, .none] }) t items := ht.keeps up
  refine subscriptTail_ops (s := { s with heap := s.heap.push { cls := .type "slice", data := .fields #[.none, .int b u, .none] } }) ht'.typeIs slot_tuple_getitem.lookup
    (getItem_upto ht' (Heap.IsSliceOf.new ..) hb (fun e => ?_) ?_ hsz) hs hg
  · refine h t _ news (F.push _) (N.grown up) (fun _ x => x) ?_ (.inl ht0)
    have e2 : (items.toList.take b).toArray = items := by rw [e, ← Array.length_toList, List.take_length]
    rw [e2]; exact ht'
  · have N1 := News.push (F.push { cls := .type "slice", data := .fields #[.none, .int b u, .none] }) (N.grown up) { cls := .type "tuple", data := .seq (items.toList.take b).toArray }
    refine h _ _ _ ((F.push _).push _) N1 (fun _ x => .tail _ x) ?_ (.inr ⟨_, .head _⟩)
    exact ⟨_, Heap.get?_push_size _ rfl, rfl, 0, rfl⟩
theorem for_tup {T : Addr} {items : Array Value} (J : Nat → (Str → Option Value) → List (Addr × Obj) → Prop)
    (hh : A.handled = none) (hT : IsTup s.heap T items) (F : Fr h₀ env.locals s.heap m) (N : News h₀ env.locals s.heap news) (hl : (∃ o, h₀.get? T = some o) ∨ ∃ o, ∀ i m n', J i m n' → (T, o) ∈ n') (hJ : J 0 m news)
    (turn : ∀ i v m₁ news₁ I it h₁ tk₁, items[i]? = some v → J i m₁ news₁ → (∀ p ∈ news₁, p.1 ≠ I) → Fr h₀ env.locals h₁ m₁ → News h₀ env.locals h₁ ((I, it) :: news₁) →
      wpAny (model prog w) A (assign target env v) (fun _ s₂ => wpAny (model prog w) A (execs body env) (LPost h₀ env.locals I it (J (i + 1)) { s with heap := h₁, toks := tk₁ } Q) E s₂) E { s with heap := h₁, toks := tk₁ })
    (done : ∀ m₁ news₁ h₁ tk₁, J items.size m₁ news₁ → Fr h₀ env.locals h₁ m₁ → News h₀ env.locals h₁ news₁ → Q .next { s with heap := h₁, toks := tk₁ }) :
    wpAny (model prog w) A (pyIter (.ref T)) (fun it s₂ => TurnsAt prog w A h₀ env target body Q E it s₂) E s := by
  have hls : s.heap.IsTuple T items := hT
  obtain ⟨oT, hoT, _⟩ := id hls
  have hlt := Heap.lt_size hoT
  have up : ∀ b o, s.heap.get? b = some o → (s.heap.push { cls := .type "tuple_iterator", data := .fields #[.ref T, .int 0 0] }).get? b = some o := fun b o e => Heap.get?_push_of_some _ e
  refine wpAny_pyIter_tuple hls ?_
  refine for_core (s := { s with heap := s.heap.push { cls := .type "tuple_iterator", data := .fields #[.ref T, .int 0 0] } }) J (Walks.tuple hh s.heap.objs.size T (Nat.ne_of_lt hlt) items) (fun i v s Q E st q => letGo_tupleiter st.1 q) (fun i h st => by obtain ⟨o, e, _⟩ := st.1; exact ⟨o, e⟩)
    (fun b hb => ?_) (fun hb => ?_) (next_is_new F) (fun p hp => Nat.ne_of_lt (Heap.lt_size (N p hp).1)) ⟨⟨_, Heap.get?_push_size _ rfl, rfl, rfl⟩, hls.at fun o e => up _ o e⟩ (F.keeps up) (N.grown up) hJ
    (fun i v m₁ news₁ it h₁ tk₁ _ hP => turn i v m₁ news₁ _ it h₁ tk₁ hP) done
  · rcases List.mem_cons.mp hb with e | hb
    · exact .inl e
    · rw [List.mem_singleton.mp hb]; exact .inr hl
  · rcases List.mem_cons.mp hb with e | hb
    · exact Nat.ne_of_lt F.ns.lt e
    · exact F.tup_ne hT (List.mem_singleton.mp hb).symm
end
end Lw
end
section
theorem Lw.lay67 : True := by
  w_top off
  k_with_none
  k_with "ktr_enter" => (refine' code_def ?zk1 ?zk2 ?zk3 ?zk4 ?zk5 ?zkA ?zkF ?zkK ?zk6 ?zk7 ?zk8 ?zk9 ?zkB ?_ ?zc2 ?zc3 ?zc4 ?zc5; (case zkA => exact rfl); (case zkF => exact rfl); (case zkK => first | exact rfl | assumption); (case zk1 => k_asm); (case zk2 => k_asm); (case zk3 => k_asm); (case zk4 => k_asm); (case zk5 => k_asm); (case zk6 => k_is); (case zk7 => k_is); (case zk8 => ktr_room); (case zk9 => first | exact BindsTo.of_eq rfl | exact binds_K (by k_in) rfl (by k_is) rfl rfl rfl); (case zc5 => decide); (case zkB => exact locs rfl); (case zc2 => exact rfl); (case zc3 => exact rfl); (case zc4 => exact rfl); k_whole; intro g' L' h' FG' F' N' B' X' T'; (try dsimp only); (try k_fold))
  k_with "f_raise1" => ((case zB => k_asm); (case zF => k_asm); (case zX => k_asm); (case zN => k_asm); (case zT => k_asm); (case zhk => first | exact rfl | assumption); (case zd => ktr_room); (case zu => ktr_units))
  k_with "f_meansF" => (k_whole; intro t9 h9 tk9 F9 N9; (try dsimp only); (try k_fold))
  k_with "f_raise2" => ((case zF => k_asm); (case zX => k_asm); (case zN => k_asm); (case zI => exact Lw.ItemIn.mono (by assumption) (fun _ h => by (repeat (first | exact h | refine List.Mem.tail _ ?_)))))
  k_with "callWith ref" => (k_here; k_dflt (refine' callWith_K ?zk1 ?zk2 ?_; (case zk1 => k_asm); (case zk2 => k_is); k_whole))
  trivial
namespace Lw
noncomputable def Wn.n : Wn → Nat
  | .s => 0 | .i => 1 | .h => 2 | .d => 3 | .o => 4 | .y => 5
theorem Wn.ixn (k : Wn) : k.ix = (k.n : Int) := by cases k <;> rfl
theorem Wn.n_lt (k : Wn) : k.n < 6 := by cases k <;> decide
noncomputable def chainN : List Int := [1, 60, 60, 24, 30, 12]
noncomputable def chainP (i : Nat) : Int := (chainN.take i).foldl (· * ·) 1
theorem chain_sec (k : Wn) : chainP (k.n + 1) = k.sec := by cases k <;> decide
theorem chain_at (w : World) : ∃ t0 t1 t2 t3 t4 t5 n, (hd.heap_1 w.params).lookup 699 = some ⟨.type "tuple", none, .seq #[.int 1 t0, .int 60 t1, .int 60 t2, .int 24 t3, .int 30 t4, .int 12 t5] n, #[]⟩ := by
  suffices H : row = row → ∃ t0 t1 t2 t3 t4 t5 n, (hd.heap_1 w.params).lookup 699 = some ⟨.type "tuple", none, .seq #[.int 1 t0, .int 60 t1, .int 60 t2, .int 24 t3, .int 30 t4, .int 12 t5] n, #[]⟩ from H rfl
  k_fill
  intro _
  exact ⟨_, _, _, _, _, _, _, by k_is⟩
theorem names_at (w : World) : ∃ t0 t1 t2 t3 t4 t5 n, (hd.heap_1 w.params).lookup 698 = some ⟨.type "tuple", none, .seq #[.str "second" t0, .str "minute" t1, .str "hour" t2, .str "day" t3, .str "month" t4, .str "year" t5] n, #[]⟩ := by
  suffices H : row = row → ∃ t0 t1 t2 t3 t4 t5 n, (hd.heap_1 w.params).lookup 698 = some ⟨.type "tuple", none, .seq #[.str "second" t0, .str "minute" t1, .str "hour" t2, .str "day" t3, .str "month" t4, .str "year" t5] n, #[]⟩ from H rfl
  k_fill
  intro _
  exact ⟨_, _, _, _, _, _, _, by k_is⟩
theorem tup_K {K : Frag} {h : Heap} {a n : Nat} {its : Array Value} {od : Option Addr} {sl : Array (Option Value)} (X : K.In h) (e : K.lookup a = some ⟨.type "tuple", od, .seq its n, sl⟩) : IsTup h a its := ⟨_, X _ _ e, rfl, n, rfl⟩
/-- the chain, as far as this turn -/
theorem chain_item {t0 t1 t2 t3 t4 t5 : Tok} {i b : Nat} {v : Value} (h : (((#[.int 1 t0, .int 60 t1, .int 60 t2, .int 24 t3, .int 30 t4, .int 12 t5] : Array Value).toList.take b).toArray)[i]? = some v) : ∃ (c : Int) (t : Tok), v = .int c t ∧ chainP (i + 1) = chainP i * c ∧ 0 < c ∧ c ≤ 60 := by
  have h' : ([Value.int 1 t0, .int 60 t1, .int 60 t2, .int 24 t3, .int 30 t4, .int 12 t5].take b)[i]? = some v := by simpa using h
  rw [List.getElem?_take] at h'
  split at h'
  · match i, h' with
    | 0, h' => simp at h'; exact ⟨1, t0, h'.symm, by decide, by decide, by decide⟩
    | 1, h' => simp at h'; exact ⟨60, t1, h'.symm, by decide, by decide, by decide⟩
    | 2, h' => simp at h'; exact ⟨60, t2, h'.symm, by decide, by decide, by decide⟩
    | 3, h' => simp at h'; exact ⟨24, t3, h'.symm, by decide, by decide, by decide⟩
    | 4, h' => simp at h'; exact ⟨30, t4, h'.symm, by decide, by decide, by decide⟩
    | 5, h' => simp at h'; exact ⟨12, t5, h'.symm, by decide, by decide, by decide⟩
    | i + 6, h' => simp at h'
  · cases h'
noncomputable def chain_J (led : List (Addr × Obj)) (many : Int) (m0 : Str → Option Value) (i : Nat) (m' : Str → Option Value) (n' : List (Addr × Obj)) : Prop :=
  n' = led ∧ (∃ t, m' "length" = some (.int (many * chainP i) t)) ∧ ∀ y : Str, y ≠ "length" → y ≠ "step" → m' y = m0 y
end Lw
namespace Lw
theorem chain_size {t0 t1 t2 t3 t4 t5 : Tok} (k : Wn) : ((#[Value.int 1 t0, .int 60 t1, .int 60 t2, .int 24 t3, .int 30 t4, .int 12 t5] : Array Value).toList.take (k.n + 1)).toArray.size = k.n + 1 := by
  have := k.n_lt
  simp; omega
theorem ex_bound {it : Item} (hm : 0 < it.m ∧ it.m < 4) : 0 < it.k.sec * it.m ∧ it.k.sec * it.m ≤ 93312000 := by
  have : 0 < it.k.sec ∧ it.k.sec ≤ 31104000 := by cases it.k <;> decide
  constructor
  · exact Int.mul_pos this.1 hm.1
  · have h1 : it.k.sec * it.m ≤ 31104000 * it.m := Int.mul_le_mul_of_nonneg_right this.2 (by omega)
    omega
end Lw
end
section
theorem Lw.lay68 : True := by
  w_top off
  k_with_none
  k_with "ktr_enter" => (refine' code_def ?zk1 ?zk2 ?zk3 ?zk4 ?zk5 ?zkA ?zkF ?zkK ?zk6 ?zk7 ?zk8 ?zk9 ?zkB ?_ ?zc2 ?zc3 ?zc4 ?zc5; (case zkA => exact rfl); (case zkF => exact rfl); (case zkK => first | exact rfl | assumption); (case zk1 => k_asm); (case zk2 => k_asm); (case zk3 => k_asm); (case zk4 => k_asm); (case zk5 => k_asm); (case zk6 => k_is); (case zk7 => k_is); (case zk8 => ktr_room); (case zk9 => first | exact BindsTo.of_eq rfl | exact binds_K (by k_in) rfl (by k_is) rfl rfl rfl); (case zc5 => decide); (case zkB => exact locs rfl); (case zc2 => exact rfl); (case zc3 => exact rfl); (case zc4 => exact rfl); k_whole; intro g' L' h' FG' F' N' B' X' T'; (try dsimp only); (try k_fold))
  k_with "f_raise1" => ((case zB => k_asm); (case zF => k_asm); (case zX => k_asm); (case zN => k_asm); (case zT => k_asm); (case zhk => first | exact rfl | assumption); (case zd => ktr_room); (case zu => ktr_units))
  k_with "f_meansF" => (k_whole; intro t9 h9 tk9 F9 N9; (try dsimp only); (try k_fold))
  k_with "f_raise2" => ((case zF => k_asm); (case zX => k_asm); (case zN => k_asm); (case zI => exact Lw.ItemIn.mono (by assumption) (fun _ h => by (repeat (first | exact h | refine List.Mem.tail _ ?_)))))
  k_with "callWith ref" => (k_here; k_dflt (refine' callWith_K ?zk1 ?zk2 ?_; (case zk1 => k_asm); (case zk2 => k_is); k_whole))
  trivial
/-! != of things that are the same; list(t); a name of the six -/
namespace Lw
theorem mem_of {x : Addr × Obj} {l : List (Addr × Obj)} (h : x ∈ l) : List.Mem x l := h
inductive SameV : Value → Value → Prop
  | str (x : Str) (t u : Tok) : SameV (.str x t) (.str x u)
  | int (i : Int) (t u : Tok) : SameV (.int i t) (.int i u)
inductive Sames : List Value → List Value → Prop
  | nil : Sames [] []
  | cons {v u : Value} {vs us : List Value} : SameV v u → Sames vs us → Sames (v :: vs) (u :: us)
theorem Sames.len : ∀ {vs us : List Value}, Sames vs us → vs.length = us.length
  | _, _, .nil => rfl
  | _, _, .cons _ r => congrArg (· + 1) r.len
theorem Sames.at : ∀ {vs us : List Value}, Sames vs us → ∀ (j : Nat) (h1 : j < vs.length) (h2 : j < us.length), SameV vs[j] us[j]
  | _, _, .nil, j, h, _ => absurd h (Nat.not_lt_zero _)
  | _, _, .cons s _, 0, _, _ => s
  | _, _, .cons _ r, j + 1, h1, h2 => Sames.at r j (Nat.lt_of_succ_lt_succ h1) (Nat.lt_of_succ_lt_succ h2)
theorem strs_cons {vs : List Value} {y : Str} {ys : List Str} (h : StrsAre vs (y :: ys)) : ∃ t r, vs = .str y t :: r ∧ StrsAre r ys := by
  cases h with
  | cons _ t r => exact ⟨t, _, rfl, r⟩
theorem Sames.strs : ∀ {vs us : List Value} {ys : List Str}, StrsAre vs ys → StrsAre us ys → Sames vs us
  | _, _, _, .nil, .nil => .nil
  | _, _, _, .cons y t r, .cons _ u q => .cons (.str y t u) (Sames.strs r q)
section
variable {prog : Program} {w : World} {A : Around} {E : Value → Shared → Prop} {s : Shared} {h₀ : Heap} {L a b : Addr} {led : List (Addr × Obj)} {m : Str → Option Value} {Q : Value → Shared → Prop} {vs us : List Value} {n k : Nat}
theorem SameV.eqAt {v u : Value} {s : Shared} {A : Around} (h : SameV v u) : PySem.SeqAt.EqAt A s v u true := by
  cases h with
  | str x t u => have := PySem.SeqAt.EqAt.str_str (A := A) (s := s) x t x u; rwa [beq_self_eq_true] at this
  | int i t u => have := PySem.SeqAt.EqAt.int_int (A := A) (s := s) i t i u; rwa [beq_self_eq_true] at this
theorem ne_lists (N : News h₀ L s.heap led) (h1 : (a, W.listOf vs.toArray n) ∈ led) (h2 : (b, W.listOf us.toArray k) ∈ led) (S : Sames vs us) (hu : A.units < cLine) (h : Q (.bool false) s) : wpAny (model prog w) A (compareOp .NotEq (.ref a) (.ref b)) Q E s := by
  have r := PySem.SeqAt.RcNeAt.lists (A := A) (e := fun _ => true) ⟨_, (N _ h1).1, rfl, n, rfl⟩ ⟨_, (N _ h2).1, rfl, k, rfl⟩ (by simp [S.len]) hu (fun j a b => by
    simp only [List.getElem_toArray]; exact (S.at j (by simpa using a) (by simpa using b)).eqAt)
  refine r prog w E Q ?_
  have e : (List.range vs.toArray.size).all (fun _ => true) = true := by simp
  rw [e]; exact h
theorem ne_tups (N : News h₀ L s.heap led) (h1 : (a, ({ cls := .type "tuple", data := .seq vs.toArray n } : Obj)) ∈ led) (h2 : (b, ({ cls := .type "tuple", data := .seq us.toArray k } : Obj)) ∈ led) (S : Sames vs us) (hu : A.units < cLine) (h : Q (.bool false) s) : wpAny (model prog w) A (compareOp .NotEq (.ref a) (.ref b)) Q E s := by
  have r := PySem.SeqAt.RcNeAt.tuples (A := A) (e := fun _ => true) ⟨_, (N _ h1).1, rfl, n, rfl⟩ ⟨_, (N _ h2).1, rfl, k, rfl⟩ hu (fun j a b => by
    simp only [List.getElem_toArray]; exact (S.at j (by simpa using a) (by simpa using b)).eqAt)
  refine r prog w E Q ?_
  have e : ((List.range (min vs.toArray.size us.toArray.size)).all (fun _ => true) && vs.toArray.size == us.toArray.size) = true := by simp [S.len]
  rw [e]; exact h
theorem ne_i {i : Int} {t u : Tok} (h : Q (.bool false) s) : wpAny (model prog w) A (compareOp .NotEq (.int i t) (.int i u)) Q E s := ne_int (by rw [bne_self_eq_false]; exact h)
theorem ne_s {x y : Str} {t u : Tok} (e : x = y) (h : Q (.bool false) s) : wpAny (model prog w) A (compareOp .NotEq (.str x t) (.str y u)) Q E s := ne_str (by rw [e, bne_self_eq_false]; exact h)
theorem list_of (F : Fr h₀ L s.heap m) (N : News h₀ L s.heap led) (h1 : (a, ({ cls := .type "tuple", data := .seq vs.toArray n } : Obj)) ∈ led) (hz : vs.length ≤ 1000)
    (h : ∀ D h' c, Fr h₀ L h' m → News h₀ L h' ((D, W.listOf vs.toArray c) :: led) → (∀ p ∈ led, p.1 < D) → Q (.ref D) { s with heap := h' }) : wpAny (model prog w) A (call (.type "list") [.ref a]) Q E s := by
  refine PySem.call_list_seq a (.inr rfl) (N _ h1).1 rfl rfl (fun h' c' hk hD => ?_) (by simpa using Nat.le_trans hz (by decide))
  have hlt : ∀ p ∈ led, p.1 < s.heap.objs.size := fun p hp => Heap.lt_size (N p hp).1
  refine h _ h' c' (F.keeps hk) (fun p hp => ?_) hlt
  rcases List.mem_cons.mp hp with rfl | hp
  · exact ⟨hD, (Nat.ne_of_gt F.ns.lt), next_is_new F⟩
  · exact (N.grown hk) p hp
theorem item_first {value slice : Expr} {v : Value} {u : Tok} (N : News h₀ L s.heap led) (h1 : (a, ({ cls := .type "tuple", data := .seq (List.toArray (v :: vs)) n } : Obj)) ∈ led) (h : Q v s)
    (hs : subscripted slice false (.ref a) (.int 0 u) = operate [.ref a, .int 0 u] (getItem (.ref a) (.int 0 u)) := by with_unfolding_all rfl) (hg : ∀ r, letTemporaryGo value (.ref a) r = pure () := by intro _; with_unfolding_all rfl) :
    wpAny (model prog w) A (subscriptTail value slice (.ref a) (.int 0 u)) Q E s := by
  have ht : IsTup s.heap a (List.toArray (v :: vs)) := ⟨_, (N _ h1).1, rfl, n, rfl⟩
  refine item_tupleL (j := 0) ht (by decide) (by decide) ?_ rfl h hs hg
  unfold seqIndex?
  simp
theorem slice_rest {value slice : Expr} {v : Value} {u : Tok} (F : Fr h₀ L s.heap m) (N : News h₀ L s.heap led) (h1 : (a, ({ cls := .type "tuple", data := .seq (List.toArray (v :: vs)) n } : Obj)) ∈ led) (hz : vs.length ≤ 1000)
    (h : ∀ D h', Fr h₀ L h' m → News h₀ L h' ((D, ({ cls := .type "tuple", data := .seq vs.toArray 0 } : Obj)) :: led) → Q (.ref D) { s with heap := h' })
    (hs : subscripted slice false (.ref a) (.ref s.heap.objs.size) = operate [.ref s.heap.objs.size, .ref a] (getItem (.ref a) (.ref s.heap.objs.size)) := by with_unfolding_all rfl)
    (hg : ∀ r, letTemporaryGo value (.ref a) r = pure () := by intro _; with_unfolding_all rfl) :
    wpAny (model prog w) A (subscriptTail value slice (.ref a) (.ref s.heap.objs.size)) Q E { s with heap := s.heap.push { cls := .type "slice", data := .fields #[.int 1 u, .none, .none] } } := by
  have ht : IsTup s.heap a (List.toArray (v :: vs)) := ⟨_, (N _ h1).1, rfl, n, rfl⟩
  have e : (((List.toArray (v :: vs)).toList.drop 1).toArray) = vs.toArray := by simp
  refine slice_tuple_from (a := 1) F N ht (by decide) (by simp) (fun h' F' N' => h _ h' F' ?_) hs hg (by simpa using Nat.le_trans (Nat.succ_le_succ hz) (by decide))
  rw [e] at N'; exact N'
theorem add_strs {x : Str} {t : Tok} {us : List Value} (F : Fr h₀ L s.heap m) (N : News h₀ L s.heap led) (h1 : (a, W.listOf #[.str x t] n) ∈ led) (h2 : (b, W.listOf us.toArray k) ∈ led) (hz : us.length ≤ 1000)
    (h : ∀ D h', Fr h₀ L h' m → News h₀ L h' ((D, W.listOf (List.toArray (.str x t :: us)) 0) :: led) → Q (.ref D) { s with heap := h' }) : wpAny (model prog w) A (binaryOp .Add (.ref a) (.ref b)) Q E s := by
  refine add_arrays F N ⟨_, (N _ h1).1, rfl, n, rfl⟩ ⟨_, (N _ h2).1, rfl, k, rfl⟩ (fun h' F' N' => h _ h' F' N') (by simpa using Nat.le_trans (Nat.add_le_add_left hz 1) (by decide))
theorem snoc_strs {x : Str} {t : Tok} {us : List Value} (F : Fr h₀ L s.heap m) (N : News h₀ L s.heap led) (h1 : (a, W.listOf us.toArray n) ∈ led) (h2 : (b, W.listOf #[.str x t] k) ∈ led) (hz : us.length ≤ 1000)
    (h : ∀ D h', Fr h₀ L h' m → News h₀ L h' ((D, W.listOf (List.toArray (us ++ [.str x t])) 0) :: led) → Q (.ref D) { s with heap := h' }) : wpAny (model prog w) A (binaryOp .Add (.ref a) (.ref b)) Q E s := by
  refine add_arrays F N ⟨_, (N _ h1).1, rfl, n, rfl⟩ ⟨_, (N _ h2).1, rfl, k, rfl⟩ (fun h' F' N' => h _ h' F' N') (by simpa using Nat.le_trans (Nat.add_le_add_right hz 1) (by decide))
theorem split_key {x : Str} {ys : List Str} {t u : Tok} (F : Fr h₀ L s.heap m) (N : News h₀ L s.heap led) (e : Txt.split x "/" = ys) (hx : x.length ≤ 2100)
    (h : ∀ D vs h' tk, StrsAre vs ys → Fr h₀ L h' m → News h₀ L h' ((D, W.listOf (List.toArray vs) 0) :: led) → Q (.ref D) { s with heap := h', toks := tk }) : wpAny (model prog w) A (call (.builtin "str.split") [.str x t, .str "/" u]) Q E s := by
  refine KSpl.split1 F N (by decide) (fun D l h' k e' a F' N' _ => h D (strValues l) h' k ?_ F' N') (Nat.le_trans (Nat.add_le_add_right hx 2) (by decide))
  rw [e', e] at a; exact a
end
end Lw
end
section
theorem Lw.lay69 : True := by
  w_top off
  k_with_none
  k_with "ktr_enter" => (refine' code_def ?zk1 ?zk2 ?zk3 ?zk4 ?zk5 ?zkA ?zkF ?zkK ?zk6 ?zk7 ?zk8 ?zk9 ?zkB ?_ ?zc2 ?zc3 ?zc4 ?zc5; (case zkA => exact rfl); (case zkF => exact rfl); (case zkK => first | exact rfl | assumption); (case zk1 => k_asm); (case zk2 => k_asm); (case zk3 => k_asm); (case zk4 => k_asm); (case zk5 => k_asm); (case zk6 => k_is); (case zk7 => k_is); (case zk8 => ktr_room); (case zk9 => first | exact BindsTo.of_eq rfl | exact binds_K (by k_in) rfl (by k_is) rfl rfl rfl); (case zc5 => decide); (case zkB => exact locs rfl); (case zc2 => exact rfl); (case zc3 => exact rfl); (case zc4 => exact rfl); k_whole; intro g' L' h' FG' F' N' B' X' T'; (try dsimp only); (try k_fold))
  k_with "f_raise1" => ((case zB => k_asm); (case zF => k_asm); (case zX => k_asm); (case zN => k_asm); (case zT => k_asm); (case zhk => first | exact rfl | assumption); (case zd => ktr_room); (case zu => ktr_units))
  k_with "f_meansF" => (k_whole; intro t9 h9 tk9 F9 N9; (try dsimp only); (try k_fold))
  k_with "f_raise2" => ((case zF => k_asm); (case zX => k_asm); (case zN => k_asm); (case zI => exact Lw.ItemIn.mono (by assumption) (fun _ h => by (repeat (first | exact h | refine List.Mem.tail _ ?_)))))
  k_with "callWith ref" => (k_here; k_dflt (refine' callWith_K ?zk1 ?zk2 ?_; (case zk1 => k_asm); (case zk2 => k_is); k_whole))
  trivial
namespace Lw
section
variable {w : World} {A : Around} {E : Value → Shared → Prop} {s : Shared} {h₀ : Heap} {L : Addr} {m : Str → Option Value} {Q : Value → Shared → Prop}
theorem name_item {value slice : Expr} {k : Wn} {i : Int} {u : Tok} (F : Fr h₀ L s.heap m) (X : (hd.heap_1 w.params).In h₀) (e : i = k.ix) (h : ∀ t, Q (.str k.nm t) s)
    (hs : ∀ i, subscripted slice false (.ref 698) (.int i u) = operate [.ref 698, .int i u] (getItem (.ref 698) (.int i u)) := by intro _; with_unfolding_all rfl) (hg : ∀ r, letTemporaryGo value (.ref 698) r = pure () := by intro _; with_unfolding_all rfl) :
    wpAny (model row.prog w) A (subscriptTail value slice (.ref 698) (.int i u)) Q E s := by
  subst e
  obtain ⟨t0, t1, t2, t3, t4, t5, n, hn⟩ := names_at w
  have ht : IsTup s.heap 698 _ := tup_K (X.keeps F.keep) hn
  cases k
  · exact item_tuple (j := 0) ht (by decide) (by decide) rfl rfl (h t0) (hs _) hg
  · exact item_tuple (j := 1) ht (by decide) (by decide) rfl rfl (h t1) (hs _) hg
  · exact item_tuple (j := 2) ht (by decide) (by decide) rfl rfl (h t2) (hs _) hg
  · exact item_tuple (j := 3) ht (by decide) (by decide) rfl rfl (h t3) (hs _) hg
  · exact item_tuple (j := 4) ht (by decide) (by decide) rfl rfl (h t4) (hs _) hg
  · exact item_tuple (j := 5) ht (by decide) (by decide) rfl rfl (h t5) (hs _) hg
end
noncomputable def Wn.at (i : Nat) : Wn := match i with
  | 0 => .s | 1 => .i | 2 => .h | 3 => .d | 4 => .o | _ => .y
theorem Wn.at_ix {i : Nat} (h : i < 6) : ((i : Nat) : Int) = (Wn.at i).ix := by
  match i, h with
  | 0, _ => rfl
  | 1, _ => rfl
  | 2, _ => rfl
  | 3, _ => rfl
  | 4, _ => rfl
  | 5, _ => rfl
theorem Wn.at_eq {i : Nat} {k : Wn} (h : i < 6) : (((i : Nat) : Int) == k.ix) = decide (k = Wn.at i) := by
  rw [Wn.at_ix h]; generalize Wn.at i = j; cases k <;> cases j <;> decide
theorem says_nm (k j : Wn) : k.says j.nm = decide (k = j) := nm_says j k
theorem says_up (k j : Wn) : k.says (Txt.upper j.nm ++ "s") = decide (k = j) := by cases k <;> cases j <;> decide +kernel
theorem says_ss (k j : Wn) : k.says (j.nm ++ "ss") = false := by cases k <;> cases j <;> decide +kernel
theorem up_len (j : Wn) : (Txt.upper j.nm ++ "s").length ≤ 64 := by cases j <;> decide +kernel
theorem ss_len (j : Wn) : (j.nm ++ "ss").length ≤ 64 := by cases j <;> decide +kernel
end Lw
end
section
theorem Lw.lay70 : True := by
  w_top off
  k_with_none
  k_with "ktr_enter" => (refine' code_def ?zk1 ?zk2 ?zk3 ?zk4 ?zk5 ?zkA ?zkF ?zkK ?zk6 ?zk7 ?zk8 ?zk9 ?zkB ?_ ?zc2 ?zc3 ?zc4 ?zc5; (case zkA => exact rfl); (case zkF => exact rfl); (case zkK => first | exact rfl | assumption); (case zk1 => k_asm); (case zk2 => k_asm); (case zk3 => k_asm); (case zk4 => k_asm); (case zk5 => k_asm); (case zk6 => k_is); (case zk7 => k_is); (case zk8 => ktr_room); (case zk9 => first | exact BindsTo.of_eq rfl | exact binds_K (by k_in) rfl (by k_is) rfl rfl rfl); (case zc5 => decide); (case zkB => exact locs rfl); (case zc2 => exact rfl); (case zc3 => exact rfl); (case zc4 => exact rfl); k_whole; intro g' L' h' FG' F' N' B' X' T'; (try dsimp only); (try k_fold))
  k_with "f_raise1" => ((case zB => k_asm); (case zF => k_asm); (case zX => k_asm); (case zN => k_asm); (case zT => k_asm); (case zhk => first | exact rfl | assumption); (case zd => ktr_room); (case zu => ktr_units))
  k_with "f_meansF" => (k_whole; intro t9 h9 tk9 F9 N9; (try dsimp only); (try k_fold))
  k_with "f_raise2" => ((case zF => k_asm); (case zX => k_asm); (case zN => k_asm); (case zI => exact Lw.ItemIn.mono (by assumption) (fun _ h => by (repeat (first | exact h | refine List.Mem.tail _ ?_)))))
  k_with "callWith ref" => (k_here; k_dflt (refine' callWith_K ?zk1 ?zk2 ?_; (case zk1 => k_asm); (case zk2 => k_is); k_whole))
  trivial
namespace Lw
theorem it_reprs (P : Params) (k : Wn) : findIn (hd.heap_1 P) (.ref k.cls) "__repr__" = some (some (.ref 195)) ∧ isFn (hd.heap_1 P) (.ref 195) = true := by
  suffices H : row = row → findIn (hd.heap_1 P) (.ref k.cls) "__repr__" = some (some (.ref 195)) ∧ isFn (hd.heap_1 P) (.ref 195) = true from H rfl
  k_fill
  intro _
  cases k <;> exact ⟨by dsimp only [Wn.cls]; k_is, by k_is⟩
variable {w : World} {tp : Program} {tl : List Str} {mean : ExcName → Option Value} {mg mb : Str → Option Value} {dp un : Nat} {gd : Option (List Code)} {cn : Str} {cs : Scope} {a : Addr} {ccd : Value} {cl : List (Str × Addr)} {outer : List Env} {A₀ : Around} {base h₀ : Heap} {L : Addr} {m : Str → Option Value} {news : List (Addr × Obj)} {s : Shared} {Q E : Value → Shared → Prop}
theorem q_repr (B : Below A₀ base outer h₀) (F : Fr h₀ L s.heap m) (X : (hd.heap_1 w.params).In h₀) (N : News h₀ L s.heap news) (T : Top tp tl mean mg mb h₀) (hk : cs.kind = .function) (hdp : dp + 3 < recursionLimit) (hun : un + 32 < cLine) {x : Addr} {it : Item} (I : ItemIn w.params news x it) (ho : it.Ok)
    (hret : ∀ t h' tk', Fr h₀ L h' m → News h₀ L h' news → Q (.str (it.show) t) { s with heap := h', toks := tk' }) :
    wpAny (model row.prog w) (ktrTop dp un gd cn cs L a ccd cl outer) (call (.builtin "repr") [.ref x]) Q E s := by
  obtain ⟨ox, od, J⟩ := it_inst N I
  refine repr_K (show un + 1 < cLine by omega) F X J (it_reprs _ _).1 (it_reprs _ it.k).2 ?_
  exact c_repr (un := un + 1) B F X N T hk hdp (by omega) I ho hret
end Lw
end
section
theorem Lw.lay71 : True := by
  w_top off
  k_with_none
  k_with "ktr_enter" => (refine' code_def ?zk1 ?zk2 ?zk3 ?zk4 ?zk5 ?zkA ?zkF ?zkK ?zk6 ?zk7 ?zk8 ?zk9 ?zkB ?_ ?zc2 ?zc3 ?zc4 ?zc5; (case zkA => exact rfl); (case zkF => exact rfl); (case zkK => first | exact rfl | assumption); (case zk1 => k_asm); (case zk2 => k_asm); (case zk3 => k_asm); (case zk4 => k_asm); (case zk5 => k_asm); (case zk6 => k_is); (case zk7 => k_is); (case zk8 => ktr_room); (case zk9 => first | exact BindsTo.of_eq rfl | exact binds_K (by k_in) rfl (by k_is) rfl rfl rfl); (case zc5 => decide); (case zkB => exact locs rfl); (case zc2 => exact rfl); (case zc3 => exact rfl); (case zc4 => exact rfl); k_whole; intro g' L' h' FG' F' N' B' X' T'; (try dsimp only); (try k_fold))
  k_with "f_raise1" => ((case zB => k_asm); (case zF => k_asm); (case zX => k_asm); (case zN => k_asm); (case zT => k_asm); (case zhk => first | exact rfl | assumption); (case zd => ktr_room); (case zu => ktr_units))
  k_with "f_meansF" => (k_whole; intro t9 h9 tk9 F9 N9; (try dsimp only); (try k_fold))
  k_with "f_raise2" => ((case zF => k_asm); (case zX => k_asm); (case zN => k_asm); (case zI => exact Lw.ItemIn.mono (by assumption) (fun _ h => by (repeat (first | exact h | refine List.Mem.tail _ ?_)))))
  k_with "callWith ref" => (k_here; k_dflt (refine' callWith_K ?zk1 ?zk2 ?_; (case zk1 => k_asm); (case zk2 => k_is); k_whole))
  trivial
namespace Lw
variable {w : World} {tp : Program} {tl : List Str} {mean : ExcName → Option Value} {mg mb : Str → Option Value} {dp un : Nat} {gd : Option (List Code)} {cn : Str} {cs : Scope} {a : Addr} {ccd : Value} {cl : List (Str × Addr)} {outer : List Env} {A₀ : Around} {base h₀ : Heap} {L : Addr} {m : Str → Option Value} {news : List (Addr × Obj)} {s : Shared} {Q E : Value → Shared → Prop}
theorem item_new {h₀ h : Heap} {L x dx : Addr} {P : Params} {it : Item} {t1 t2 t3 t4 t5 t6 : Tok} {led : List (Addr × Obj)} (_N : News h₀ L h ((x, instObj it.k.cls dx) :: (dx, itemD P it t1 t2 t3 t4 t5 t6) :: led)) : ItemIn P ((x, instObj it.k.cls dx) :: (dx, itemD P it t1 t2 t3 t4 t5 t6) :: led) x it :=
  ⟨dx, t1, t2, t3, t4, t5, t6, .head _, .tail _ (.head _)⟩
theorem eqv_same {it jt : Item} (h1 : it.a = jt.a) (h2 : it.k = jt.k) (h3 : it.m = jt.m) : it.eqv jt = true := by
  unfold Item.eqv; rw [h1, h2, h3]; simp
theorem q_eqK {b : Bool} (B : Below A₀ base outer h₀) (F : Fr h₀ L s.heap m) (X : (hd.heap_1 w.params).In h₀) (N : News h₀ L s.heap news) (T : Top tp tl mean mg mb h₀) (hk : cs.kind = .function) (hdp : dp + 2 < recursionLimit) (hun : un + 16 < cLine) {x y : Addr} {it jt : Item} (I : ItemIn w.params news x it) (J : ItemIn w.params news y jt) (e : it.eqv jt = b)
    (hret : ∀ h' tk', Fr h₀ L h' m → News h₀ L h' news → Q (.bool b) { s with heap := h', toks := tk' }) :
    wpAny (model row.prog w) (ktrTop dp un gd cn cs L a ccd cl outer) (compareOp .Eq (.ref x) (.ref y)) Q E s :=
  q_eq_it B F X N T hk hdp hun I J (e ▸ hret)
end Lw
end
section
theorem Lw.lay72 : True := by
  w_top off
  k_with_none
  k_with "ktr_enter" => (refine' code_def ?zk1 ?zk2 ?zk3 ?zk4 ?zk5 ?zkA ?zkF ?zkK ?zk6 ?zk7 ?zk8 ?zk9 ?zkB ?_ ?zc2 ?zc3 ?zc4 ?zc5; (case zkA => exact rfl); (case zkF => exact rfl); (case zkK => first | exact rfl | assumption); (case zk1 => k_asm); (case zk2 => k_asm); (case zk3 => k_asm); (case zk4 => k_asm); (case zk5 => k_asm); (case zk6 => k_is); (case zk7 => k_is); (case zk8 => ktr_room); (case zk9 => first | exact BindsTo.of_eq rfl | exact binds_K (by k_in) rfl (by k_is) rfl rfl rfl); (case zc5 => decide); (case zkB => exact locs rfl); (case zc2 => exact rfl); (case zc3 => exact rfl); (case zc4 => exact rfl); k_whole; intro g' L' h' FG' F' N' B' X' T'; (try dsimp only); (try k_fold))
  k_with "f_raise1" => ((case zB => k_asm); (case zF => k_asm); (case zX => k_asm); (case zN => k_asm); (case zT => k_asm); (case zhk => first | exact rfl | assumption); (case zd => ktr_room); (case zu => ktr_units))
  k_with "f_meansF" => (k_whole; intro t9 h9 tk9 F9 N9; (try dsimp only); (try k_fold))
  k_with "f_raise2" => ((case zF => k_asm); (case zX => k_asm); (case zN => k_asm); (case zI => exact Lw.ItemIn.mono (by assumption) (fun _ h => by (repeat (first | exact h | refine List.Mem.tail _ ?_)))))
  k_with "callWith ref" => (k_here; k_dflt (refine' callWith_K ?zk1 ?zk2 ?_; (case zk1 => k_asm); (case zk2 => k_is); k_whole))
  trivial
namespace Lw
section
variable {w : World} {A : Around} {E : Value → Shared → Prop} {s : Shared} {h₀ : Heap} {L : Addr} {m : Str → Option Value} {led : List (Addr × Obj)} {x : Addr} {it : Item} {pl : Sem Bool} {Q : Value × List Value → Shared → Prop}
theorem it_cgs {name : Str} (F : Fr h₀ L s.heap m) (X : (hd.heap_1 w.params).In h₀) (N : News h₀ L s.heap led) (e : name = "check_granularity_string") (I : ItemIn w.params led x it)
    (hq : ∀ q h', Fr h₀ L h' m → News h₀ L h' ((q, methodObj (.ref 164) (.ref it.k.cls)) :: led) → (∀ r ∈ led, r.1 < q) → Q (.ref q, []) { s with heap := h', toks := s.toks + 1 }) : wpAny (model row.prog w) A (getMethod (.ref x) name pl) Q E s := by
  subst e
  revert X
  k_fill
  intro X
  obtain ⟨dx, t1, t2, t3, t4, t5, t6, h1, h2⟩ := I
  obtain ⟨k, a', m', ns⟩ := it
  unfold itemD at h2
  cases k <;> (dsimp only [Wn.cls] at h1 hq; refine' kmu_cm F X N (InstAt.of_news N h1 h2) ?k5 ?k6 ?k7 ?k8 ?k9 ?k10 ?k11 ?k12 ?k13 hq; (case k5 => k_is); (case k6 => k_is); (case k7 => k_is); (case k8 => k_is); (case k9 => k_is); (case k10 => k_is); (case k11 => decide +kernel); (case k12 => k_get); (case k13 => k_is))
end
variable {w : World} {tp : Program} {tl : List Str} {mean : ExcName → Option Value} {mg mb : Str → Option Value} {dp un : Nat} {gd : Option (List Code)} {cn : Str} {cs : Scope} {a : Addr} {ccd : Value} {cl : List (Str × Addr)} {outer : List Env} {A₀ : Around} {base h₀ : Heap} {L : Addr} {m : Str → Option Value} {news : List (Addr × Obj)} {s : Shared} {Q E : Value → Shared → Prop}
theorem c_checkK (B : Below A₀ base outer h₀) (F : Fr h₀ L s.heap m) (X : (hd.heap_1 w.params).In h₀) (N : News h₀ L s.heap news) (T : Top tp tl mean mg mb h₀) (hk : cs.kind = .function) (hdp : dp + 3 < recursionLimit) (hun : un + 24 < cLine) {k : Wn} {x : Str} {t : Tok} {q : Addr} {b : Bool} (hq : (q, methodObj (.ref 164) (.ref k.cls)) ∈ news) (hs : k.says x = b) (hx : x.length ≤ 64)
    (hret : ∀ h' tk', Fr h₀ L h' m → News h₀ L h' news → Q (.bool b) { s with heap := h', toks := tk' }) :
    wpAny (model row.prog w) (ktrTop dp un gd cn cs L a ccd cl outer) (call (.ref q) [.str x t]) Q E s :=
  c_checkM B F X N T hk hdp hun hx hq (hs ▸ hret)
theorem ne_b {prog : Program} {w : World} {A : Around} {E : Value → Shared → Prop} {s : Shared} {Q : Value → Shared → Prop} {c d : Bool} (e : c = d) (h : Q (.bool false) s) : wpAny (model prog w) A (compareOp .NotEq (.bool c) (.bool d)) Q E s := ne_bool (by rw [e, bne_self_eq_false]; exact h)
noncomputable def alone_J (led : List (Addr × Obj)) (m0 : Str → Option Value) (_i : Nat) (m' : Str → Option Value) (n' : List (Addr × Obj)) : Prop := n' = led ∧ ∀ y : Str, y ≠ "place" → y ≠ "name" → m' y = m0 y
end Lw
end
section
theorem Lw.lay73 : True := by
  w_top off
  k_with_none
  k_with "ktr_enter" => (refine' code_def ?zk1 ?zk2 ?zk3 ?zk4 ?zk5 ?zkA ?zkF ?zkK ?zk6 ?zk7 ?zk8 ?zk9 ?zkB ?_ ?zc2 ?zc3 ?zc4 ?zc5; (case zkA => exact rfl); (case zkF => exact rfl); (case zkK => first | exact rfl | assumption); (case zk1 => k_asm); (case zk2 => k_asm); (case zk3 => k_asm); (case zk4 => k_asm); (case zk5 => k_asm); (case zk6 => k_is); (case zk7 => k_is); (case zk8 => ktr_room); (case zk9 => first | exact BindsTo.of_eq rfl | exact binds_K (by k_in) rfl (by k_is) rfl rfl rfl); (case zc5 => decide); (case zkB => exact locs rfl); (case zc2 => exact rfl); (case zc3 => exact rfl); (case zc4 => exact rfl); k_whole; intro g' L' h' FG' F' N' B' X' T'; (try dsimp only); (try k_fold))
  k_with "f_raise1" => ((case zB => k_asm); (case zF => k_asm); (case zX => k_asm); (case zN => k_asm); (case zT => k_asm); (case zhk => first | exact rfl | assumption); (case zd => ktr_room); (case zu => ktr_units))
  k_with "f_meansF" => (k_whole; intro t9 h9 tk9 F9 N9; (try dsimp only); (try k_fold))
  k_with "f_raise2" => ((case zF => k_asm); (case zX => k_asm); (case zN => k_asm); (case zI => exact Lw.ItemIn.mono (by assumption) (fun _ h => by (repeat (first | exact h | refine List.Mem.tail _ ?_)))))
  k_with "callWith ref" => (k_here; k_dflt (refine' callWith_K ?zk1 ?zk2 ?_; (case zk1 => k_asm); (case zk2 => k_is); k_whole))
  trivial
namespace Lw
theorem fmod_known {prog : Program} {w : World} {A : Around} {E : Value → Shared → Prop} {s : Shared} {a b q : Int} {t u : Tok} {Q : Value → Shared → Prop} (hb : b ≠ 0) (e : a.fmod b = q) (h : Q (.int q s.toks) { s with toks := s.toks + 1 }) : wpAny (model prog w) A (binaryOp .Mod (.int a t) (.int b u)) Q E s :=
  mod_int' hb (e ▸ h)
/-- the rest of a clock, and where it lies in the windows -/
theorem rest_at {c ex : Int} (hx : 0 < ex) : ∃ r q : Int, c.fmod (5 * ex) = r ∧ 0 ≤ r ∧ r < 5 * ex ∧ r.fdiv ex = q ∧ 0 ≤ q ∧ q ≤ 4 ∧ q * ex ≤ r ∧ r < (q + 1) * ex := by
  have h5 : 0 < 5 * ex := by omega
  refine ⟨_, _, rfl, ?_, ?_, rfl, ?_, ?_, ?_, ?_⟩
  all_goals rw [Int.fmod_eq_emod_of_nonneg _ (Int.le_of_lt h5)]
  · exact Int.emod_nonneg _ (by omega)
  · exact Int.emod_lt_of_pos _ h5
  all_goals rw [Int.fdiv_eq_ediv_of_nonneg _ (Int.le_of_lt hx)]
  · exact Int.ediv_nonneg (Int.emod_nonneg _ (by omega)) (Int.le_of_lt hx)
  · have h1 := Int.emod_lt_of_pos c h5
    have h2 : c % (5 * ex) / ex < 5 := Int.ediv_lt_of_lt_mul hx h1
    omega
  · exact Int.ediv_mul_le _ (by omega)
  · exact Int.lt_ediv_add_one_mul_self _ hx
theorem fdiv_of {a b q : Int} (hb : 0 < b) (h1 : q * b ≤ a) (h2 : a < (q + 1) * b) : a.fdiv b = q := by
  rw [Int.fdiv_eq_ediv_of_nonneg _ (Int.le_of_lt hb)]
  have e1 : q ≤ a / b := (Int.le_ediv_iff_mul_le hb).mpr h1
  have e2 : a / b < q + 1 := (Int.ediv_lt_iff_lt_mul hb).mpr h2
  omega
theorem fdiv_neg {r ex : Int} (hx : 0 < ex) (h0 : -5 * ex ≤ r) (h1 : r ≤ ex) : -9999999999 ≤ r.fdiv ex ∧ r.fdiv ex ≤ 1 := by
  rw [Int.fdiv_eq_ediv_of_nonneg _ (Int.le_of_lt hx)]
  have e1 : -5 ≤ r / ex := (Int.le_ediv_iff_mul_le hx).mpr h0
  have e2 : r / ex < 2 := (Int.ediv_lt_iff_lt_mul hx).mpr (by omega)
  omega
end Lw
end
section
theorem Lw.lay74 : True := by
  w_top off
  k_with_none
  k_with "ktr_enter" => (refine' code_def ?zk1 ?zk2 ?zk3 ?zk4 ?zk5 ?zkA ?zkF ?zkK ?zk6 ?zk7 ?zk8 ?zk9 ?zkB ?_ ?zc2 ?zc3 ?zc4 ?zc5; (case zkA => exact rfl); (case zkF => exact rfl); (case zkK => first | exact rfl | assumption); (case zk1 => k_asm); (case zk2 => k_asm); (case zk3 => k_asm); (case zk4 => k_asm); (case zk5 => k_asm); (case zk6 => k_is); (case zk7 => k_is); (case zk8 => ktr_room); (case zk9 => first | exact BindsTo.of_eq rfl | exact binds_K (by k_in) rfl (by k_is) rfl rfl rfl); (case zc5 => decide); (case zkB => exact locs rfl); (case zc2 => exact rfl); (case zc3 => exact rfl); (case zc4 => exact rfl); k_whole; intro g' L' h' FG' F' N' B' X' T'; (try dsimp only); (try k_fold))
  k_with "f_raise1" => ((case zB => k_asm); (case zF => k_asm); (case zX => k_asm); (case zN => k_asm); (case zT => k_asm); (case zhk => first | exact rfl | assumption); (case zd => ktr_room); (case zu => ktr_units))
  k_with "f_meansF" => (k_whole; intro t9 h9 tk9 F9 N9; (try dsimp only); (try k_fold))
  k_with "f_raise2" => ((case zF => k_asm); (case zX => k_asm); (case zN => k_asm); (case zI => exact Lw.ItemIn.mono (by assumption) (fun _ h => by (repeat (first | exact h | refine List.Mem.tail _ ?_)))))
  k_with "callWith ref" => (k_here; k_dflt (refine' callWith_K ?zk1 ?zk2 ?_; (case zk1 => k_asm); (case zk2 => k_is); k_whole))
  trivial
/-! the last part of _law_alone: counting the windows, the windows' names cut, the name before -/
namespace Lw
theorem win_len {key : Str} {n : Int} (hk : key.length ≤ 2000) (h : 0 ≤ n ∧ n < 10) : (winKey key n).length ≤ 2100 := by
  unfold winKey
  have e1 := dg_len h
  have e2 : (Str.ofString "/").length = 1 := by decide
  rw [Str.empty_append, Str.length_append, Str.length_append, e1, e2]
  omega
theorem win_split1 {it : Item} {ps : List Str} {n : Int} (ho : it.Ok) (hp : FreeAll ps) (hn : 0 ≤ n) : Txt.split (winKey (it.key ps) n) "/" = it.parts ps ++ [Str.ofString (toString (n + 1 - 1))] := by
  rw [show n + 1 - 1 = n by omega]; exact win_split ho hp hn
theorem eq_s {prog : Program} {w : World} {A : Around} {E : Value → Shared → Prop} {s : Shared} {Q : Value → Shared → Prop} {x y : Str} {t u : Tok} (e : x = y) (h : Q (.bool true) s) : wpAny (model prog w) A (compareOp .Eq (.str x t) (.str y u)) Q E s := eq_str (by rw [e, beq_self_eq_true]; exact h)
/-- the while loop: the count so far -/
noncomputable def cnt_J (led : List (Addr × Obj)) (m0 : Str → Option Value) (qq : Int) (n : Nat) (m' : Str → Option Value) (n' : List (Addr × Obj)) : Prop :=
  n' = led ∧ ∃ p t, m' "count" = some (.int p t) ∧ 0 ≤ p ∧ p ≤ qq + 1 ∧ n = (qq + 1 - p).toNat ∧ ∀ y : Str, y ≠ "count" → m' y = m0 y
theorem cnt_on {p qq ex rr : Int} (hx : 0 < ex) (h : rr < (qq + 1) * ex) (hp : p ≤ qq + 1) (hc : (p + 1) * ex ≤ ex + rr) : p + 1 ≤ qq + 1 ∧ (qq + 1 - (p + 1)).toNat < (qq + 1 - p).toNat := by
  have h1 : (p + 1) * ex < (qq + 2) * ex := by
    have : (qq + 2) * ex = (qq + 1) * ex + ex := by rw [show qq + 2 = (qq + 1) + 1 by omega, Int.add_mul (qq + 1) 1 ex, Int.one_mul]
    omega
  have h2 := Int.lt_of_mul_lt_mul_right h1 (Int.le_of_lt hx)
  omega
theorem cnt_end {p qq ex rr : Int} (hx : 0 < ex) (h : qq * ex ≤ rr) (hp : p ≤ qq + 1) (hc : ¬ (p + 1) * ex ≤ ex + rr) : p = qq + 1 := by
  by_cases e : p = qq + 1
  · exact e
  · exfalso
    have h1 : p + 1 ≤ qq + 1 := by omega
    have h2 := Int.mul_le_mul_of_nonneg_right h1 (Int.le_of_lt hx)
    have h3 : (qq + 1) * ex = qq * ex + ex := by rw [Int.add_mul, Int.one_mul]
    omega
theorem at_keys {ex rr qq : Int} (hx : 0 < ex ∧ ex ≤ 93312000) (h1 : 0 ≤ rr) (h2 : rr < 5 * ex) (h3 : 0 ≤ qq) (h4 : qq ≤ 4) (h5 : qq * ex ≤ rr) (h6 : rr < (qq + 1) * ex) :
    (ex + rr - ex).fdiv ex = qq ∧ (ex + rr).fdiv ex = qq + 1 ∧ (∃ g, (ex - (ex + rr)).fdiv ex = g ∧ -9999999999 ≤ g ∧ g ≤ 1) ∧ (0 ≤ ex + rr ∧ ex + rr ≤ 10000000000) ∧ ex ≤ ex + rr ∧ (0 ≤ ex + rr - ex ∧ ex + rr - ex ≤ 10000000000) ∧
    (∃ g, (ex + rr - ex - ex).fdiv ex = g ∧ -1 ≤ g ∧ g ≤ 9999999999) ∧ (∃ g, (ex - (ex + rr - ex)).fdiv ex = g ∧ -9999999999 ≤ g ∧ g ≤ 1) ∧ (0 < ex ∧ ex ≤ 100000000) := by
  have e1 : (qq + 1) * ex = qq * ex + ex := by rw [Int.add_mul, Int.one_mul]
  have e2 : (qq + 1 + 1) * ex = qq * ex + ex + ex := by rw [Int.add_mul, Int.one_mul, e1]
  have e3 : (qq - 1) * ex = qq * ex - ex := by rw [Int.sub_mul, Int.one_mul]
  refine ⟨fdiv_of hx.1 (by omega) (by omega), fdiv_of hx.1 (by omega) (by omega), ⟨_, rfl, fdiv_neg hx.1 (by omega) (by omega)⟩, by omega, by omega, by omega, ⟨qq - 1, fdiv_of hx.1 (by omega) ?_, by omega, by omega⟩, ⟨_, rfl, fdiv_neg hx.1 (by omega) (by omega)⟩, by omega⟩
  rw [show qq - 1 + 1 = qq by omega]; omega
theorem le_known {prog : Program} {w : World} {A : Around} {E : Value → Shared → Prop} {s : Shared} {a b : Int} {c : Bool} {t u : Tok} {Q : Value → Shared → Prop} (e : decide (a ≤ b) = c) (h : Q (.bool c) s) : wpAny (model prog w) A (compareOp .LtE (.int a t) (.int b u)) Q E s :=
  PyProof.Rows.le_int (e ▸ h)
end Lw
end
section
theorem Lw.lay75 : True := by
  w_top off
  k_with_none
  k_with "ktr_enter" => (refine' code_def ?zk1 ?zk2 ?zk3 ?zk4 ?zk5 ?zkA ?zkF ?zkK ?zk6 ?zk7 ?zk8 ?zk9 ?zkB ?_ ?zc2 ?zc3 ?zc4 ?zc5; (case zkA => exact rfl); (case zkF => exact rfl); (case zkK => first | exact rfl | assumption); (case zk1 => k_asm); (case zk2 => k_asm); (case zk3 => k_asm); (case zk4 => k_asm); (case zk5 => k_asm); (case zk6 => k_is); (case zk7 => k_is); (case zk8 => ktr_room); (case zk9 => first | exact BindsTo.of_eq rfl | exact binds_K (by k_in) rfl (by k_is) rfl rfl rfl); (case zc5 => decide); (case zkB => exact locs rfl); (case zc2 => exact rfl); (case zc3 => exact rfl); (case zc4 => exact rfl); k_whole; intro g' L' h' FG' F' N' B' X' T'; (try dsimp only); (try k_fold))
  k_with "f_raise1" => ((case zB => k_asm); (case zF => k_asm); (case zX => k_asm); (case zN => k_asm); (case zT => k_asm); (case zhk => first | exact rfl | assumption); (case zd => ktr_room); (case zu => ktr_units))
  k_with "f_meansF" => (k_whole; intro t9 h9 tk9 F9 N9; (try dsimp only); (try k_fold))
  k_with "f_raise2" => ((case zF => k_asm); (case zX => k_asm); (case zN => k_asm); (case zI => exact Lw.ItemIn.mono (by assumption) (fun _ h => by (repeat (first | exact h | refine List.Mem.tail _ ?_)))))
  k_with "callWith ref" => (k_here; k_dflt (refine' callWith_K ?zk1 ?zk2 ?_; (case zk1 => k_asm); (case zk2 => k_is); k_whole))
  trivial
/-! the law's tables: what stands at a place that a number picks -/
namespace Lw
noncomputable def meantF (i : Int) : Int := if i = 0 then 1 else if i = 1 then 1 else i
noncomputable def psF (i : Int) : List Str := if i = 0 then [] else if i = 1 then ["ann"] else if i = 2 then ["ann", "bob"] else ["ann", "7"]
/-- names of a limit: a tuple of the text's top, and what they are made to -/
noncomputable def Who (h₀ : Heap) (nm : Addr) (ps : List Str) : Prop := ∃ l : List Value, SafeArgs l ps ∧ IsTup h₀ nm l.toArray ∧ l.length ≤ 2 ∧ (ps.map (·.length)).sum ≤ 900 ∧ FreeAll ps
theorem given_at (w : World) : ∃ t0 t2 t3 n, (hd.heap_1 w.params).lookup 700 = some ⟨.type "tuple", none, .seq #[.int 1 t0, .none, .int 2 t2, .int 3 t3] n, #[]⟩ := by
  suffices H : row = row → ∃ t0 t2 t3 n, (hd.heap_1 w.params).lookup 700 = some ⟨.type "tuple", none, .seq #[.int 1 t0, .none, .int 2 t2, .int 3 t3] n, #[]⟩ from H rfl
  k_fill
  intro _
  exact ⟨_, _, _, _, by k_is⟩
theorem meant_at (w : World) : ∃ t0 t1 t2 t3 n, (hd.heap_1 w.params).lookup 701 = some ⟨.type "tuple", none, .seq #[.int 1 t0, .int 1 t1, .int 2 t2, .int 3 t3] n, #[]⟩ := by
  suffices H : row = row → ∃ t0 t1 t2 t3 n, (hd.heap_1 w.params).lookup 701 = some ⟨.type "tuple", none, .seq #[.int 1 t0, .int 1 t1, .int 2 t2, .int 3 t3] n, #[]⟩ from H rfl
  k_fill
  intro _
  exact ⟨_, _, _, _, _, by k_is⟩
theorem who_at (w : World) : ∃ n, (hd.heap_1 w.params).lookup 707 = some ⟨.type "tuple", none, .seq #[.ref 702, .ref 703, .ref 704, .ref 705, .ref 706] n, #[]⟩ := by
  suffices H : row = row → ∃ n, (hd.heap_1 w.params).lookup 707 = some ⟨.type "tuple", none, .seq #[.ref 702, .ref 703, .ref 704, .ref 705, .ref 706] n, #[]⟩ from H rfl
  k_fill
  intro _
  exact ⟨_, by k_is⟩
theorem parts_at (w : World) : ∃ n, (hd.heap_1 w.params).lookup 713 = some ⟨.type "tuple", none, .seq #[.ref 708, .ref 709, .ref 710, .ref 711, .ref 712] n, #[]⟩ := by
  suffices H : row = row → ∃ n, (hd.heap_1 w.params).lookup 713 = some ⟨.type "tuple", none, .seq #[.ref 708, .ref 709, .ref 710, .ref 711, .ref 712] n, #[]⟩ from H rfl
  k_fill
  intro _
  exact ⟨_, by k_is⟩
theorem whos_at (w : World) : ∃ n0 t1 n1 t2 t3 n2 t4 t5 n3 t6 t7 n4, (hd.heap_1 w.params).lookup 702 = some ⟨.type "tuple", none, .seq #[] n0, #[]⟩ ∧ (hd.heap_1 w.params).lookup 703 = some ⟨.type "tuple", none, .seq #[.str "ann" t1] n1, #[]⟩ ∧ (hd.heap_1 w.params).lookup 704 = some ⟨.type "tuple", none, .seq #[.str "ann" t2, .str "bob" t3] n2, #[]⟩ ∧
    (hd.heap_1 w.params).lookup 705 = some ⟨.type "tuple", none, .seq #[.bytes #[97, 110, 110] t4, .int 7 t5] n3, #[]⟩ ∧ (hd.heap_1 w.params).lookup 706 = some ⟨.type "tuple", none, .seq #[.str "ann" t6, .str "7" t7] n4, #[]⟩ := by
  suffices H : row = row → ∃ n0 t1 n1 t2 t3 n2 t4 t5 n3 t6 t7 n4, (hd.heap_1 w.params).lookup 702 = some ⟨.type "tuple", none, .seq #[] n0, #[]⟩ ∧ (hd.heap_1 w.params).lookup 703 = some ⟨.type "tuple", none, .seq #[.str "ann" t1] n1, #[]⟩ ∧ (hd.heap_1 w.params).lookup 704 = some ⟨.type "tuple", none, .seq #[.str "ann" t2, .str "bob" t3] n2, #[]⟩ ∧
    (hd.heap_1 w.params).lookup 705 = some ⟨.type "tuple", none, .seq #[.bytes #[97, 110, 110] t4, .int 7 t5] n3, #[]⟩ ∧ (hd.heap_1 w.params).lookup 706 = some ⟨.type "tuple", none, .seq #[.str "ann" t6, .str "7" t7] n4, #[]⟩ from H rfl
  k_fill
  intro _
  exact ⟨_, _, _, _, _, _, _, _, _, _, _, _, by k_is, by k_is, by k_is, by k_is, by k_is⟩
theorem partss_at (w : World) : ∃ n0 t1 n1 t2 t3 n2 t4 t5 n3 t6 t7 n4, (hd.heap_1 w.params).lookup 708 = some ⟨.type "tuple", none, .seq #[] n0, #[]⟩ ∧ (hd.heap_1 w.params).lookup 709 = some ⟨.type "tuple", none, .seq #[.str "ann" t1] n1, #[]⟩ ∧ (hd.heap_1 w.params).lookup 710 = some ⟨.type "tuple", none, .seq #[.str "ann" t2, .str "bob" t3] n2, #[]⟩ ∧
    (hd.heap_1 w.params).lookup 711 = some ⟨.type "tuple", none, .seq #[.str "ann" t4, .str "7" t5] n3, #[]⟩ ∧ (hd.heap_1 w.params).lookup 712 = some ⟨.type "tuple", none, .seq #[.str "ann" t6, .str "7" t7] n4, #[]⟩ := by
  suffices H : row = row → ∃ n0 t1 n1 t2 t3 n2 t4 t5 n3 t6 t7 n4, (hd.heap_1 w.params).lookup 708 = some ⟨.type "tuple", none, .seq #[] n0, #[]⟩ ∧ (hd.heap_1 w.params).lookup 709 = some ⟨.type "tuple", none, .seq #[.str "ann" t1] n1, #[]⟩ ∧ (hd.heap_1 w.params).lookup 710 = some ⟨.type "tuple", none, .seq #[.str "ann" t2, .str "bob" t3] n2, #[]⟩ ∧
    (hd.heap_1 w.params).lookup 711 = some ⟨.type "tuple", none, .seq #[.str "ann" t4, .str "7" t5] n3, #[]⟩ ∧ (hd.heap_1 w.params).lookup 712 = some ⟨.type "tuple", none, .seq #[.str "ann" t6, .str "7" t7] n4, #[]⟩ from H rfl
  k_fill
  intro _
  exact ⟨_, _, _, _, _, _, _, _, _, _, _, _, by k_is, by k_is, by k_is, by k_is, by k_is⟩
theorem who_mk {h₀ : Heap} {nm : Addr} {ps : List Str} (l : List Value) (S : SafeArgs l ps) (T : IsTup h₀ nm l.toArray) (h1 : l.length ≤ 2) (h2 : (ps.map (·.length)).sum ≤ 900) (h3 : ∀ p ∈ ps, Free 47 p) : Who h₀ nm ps := ⟨l, S, T, h1, h2, h3⟩
theorem free_of {ps : List Str} (h : ps.all (fun p => decide (47 ∉ p.cps.toList)) = true) : ∀ p ∈ ps, Free 47 p := fun p hp => by
  exact (of_decide_eq_true (p := 47 ∉ p.cps.toList) (List.all_eq_true.mp h p hp) : 47 ∉ p.cps.toList)
section
variable {w : World} {A : Around} {E : Value → Shared → Prop} {s : Shared} {h₀ : Heap} {L : Addr} {m : Str → Option Value} {Q : Value → Shared → Prop} {value slice : Expr} {i : Int} {u : Tok}
theorem given_item (F : Fr h₀ L s.heap m) (X : (hd.heap_1 w.params).In h₀) (hi : 0 ≤ i ∧ i < 4) (h : ∀ v, IsMany v (meantF i) → Q v s)
    (hs : ∀ i, subscripted slice false (.ref 700) (.int i u) = operate [.ref 700, .int i u] (getItem (.ref 700) (.int i u)) := by intro _; with_unfolding_all rfl) (hg : ∀ r, letTemporaryGo value (.ref 700) r = pure () := by intro _; with_unfolding_all rfl) :
    wpAny (model row.prog w) A (subscriptTail value slice (.ref 700) (.int i u)) Q E s := by
  obtain ⟨t0, t2, t3, n, hn⟩ := given_at w
  have ht : IsTup s.heap 700 _ := tup_K (X.keeps F.keep) hn
  have hc : i = 0 ∨ i = 1 ∨ i = 2 ∨ i = 3 := by omega
  rcases hc with rfl | rfl | rfl | rfl
  · exact item_tuple (j := 0) ht (by decide) (by decide) rfl rfl (h _ (.inr ⟨t0, rfl, by decide⟩)) (hs _) hg
  · exact item_tuple (j := 1) ht (by decide) (by decide) rfl rfl (h _ (.inl ⟨rfl, rfl⟩)) (hs _) hg
  · exact item_tuple (j := 2) ht (by decide) (by decide) rfl rfl (h _ (.inr ⟨t2, rfl, by decide⟩)) (hs _) hg
  · exact item_tuple (j := 3) ht (by decide) (by decide) rfl rfl (h _ (.inr ⟨t3, rfl, by decide⟩)) (hs _) hg
theorem meant_item (F : Fr h₀ L s.heap m) (X : (hd.heap_1 w.params).In h₀) (hi : 0 ≤ i ∧ i < 4) (h : ∀ t, Q (.int (meantF i) t) s)
    (hs : ∀ i, subscripted slice false (.ref 701) (.int i u) = operate [.ref 701, .int i u] (getItem (.ref 701) (.int i u)) := by intro _; with_unfolding_all rfl) (hg : ∀ r, letTemporaryGo value (.ref 701) r = pure () := by intro _; with_unfolding_all rfl) :
    wpAny (model row.prog w) A (subscriptTail value slice (.ref 701) (.int i u)) Q E s := by
  obtain ⟨t0, t1, t2, t3, n, hn⟩ := meant_at w
  have ht : IsTup s.heap 701 _ := tup_K (X.keeps F.keep) hn
  have hc : i = 0 ∨ i = 1 ∨ i = 2 ∨ i = 3 := by omega
  rcases hc with rfl | rfl | rfl | rfl
  · exact item_tuple (j := 0) ht (by decide) (by decide) rfl rfl (h t0) (hs _) hg
  · exact item_tuple (j := 1) ht (by decide) (by decide) rfl rfl (h t1) (hs _) hg
  · exact item_tuple (j := 2) ht (by decide) (by decide) rfl rfl (h t2) (hs _) hg
  · exact item_tuple (j := 3) ht (by decide) (by decide) rfl rfl (h t3) (hs _) hg
theorem who_item (F : Fr h₀ L s.heap m) (X : (hd.heap_1 w.params).In h₀) (hi : 0 ≤ i ∧ i < 5) (h : ∀ nm, Who h₀ nm (psF i) → Q (.ref nm) s)
    (hs : ∀ i, subscripted slice false (.ref 707) (.int i u) = operate [.ref 707, .int i u] (getItem (.ref 707) (.int i u)) := by intro _; with_unfolding_all rfl) (hg : ∀ r, letTemporaryGo value (.ref 707) r = pure () := by intro _; with_unfolding_all rfl) :
    wpAny (model row.prog w) A (subscriptTail value slice (.ref 707) (.int i u)) Q E s := by
  obtain ⟨n, hn⟩ := who_at w
  obtain ⟨n0, t1, n1, t2, t3, n2, t4, t5, n3, t6, t7, n4, w0, w1, w2, w3, w4⟩ := whos_at w
  have ht : IsTup s.heap 707 _ := tup_K (X.keeps F.keep) hn
  have hc : i = 0 ∨ i = 1 ∨ i = 2 ∨ i = 3 ∨ i = 4 := by omega
  rcases hc with rfl | rfl | rfl | rfl | rfl
  · exact item_tuple (j := 0) ht (by decide) (by decide) rfl rfl (h 702 (who_mk [] .nil (tup_K X w0) (Nat.le_of_ble_eq_true rfl) (by decide +kernel) (free_of (by decide +kernel)))) (hs _) hg
  · exact item_tuple (j := 1) ht (by decide) (by decide) rfl rfl (h 703 (who_mk _ (.cons (.str _ t1) .nil) (tup_K X w1) (Nat.le_of_ble_eq_true rfl) (by decide +kernel) (free_of (by decide +kernel)))) (hs _) hg
  · exact item_tuple (j := 2) ht (by decide) (by decide) rfl rfl (h 704 (who_mk _ (.cons (.str _ t2) (.cons (.str _ t3) .nil)) (tup_K X w2) (Nat.le_of_ble_eq_true rfl) (by decide +kernel) (free_of (by decide +kernel)))) (hs _) hg
  · exact item_tuple (j := 3) ht (by decide) (by decide) rfl rfl (h 705 (who_mk (ps := ["ann", "7"]) _ (.cons (.ann t4) (.cons (p := "7") (SafeArg.int 7 t5 (by decide)) .nil)) (tup_K X w3) (Nat.le_of_ble_eq_true rfl) (by decide +kernel) (free_of (by decide +kernel)))) (hs _) hg
  · exact item_tuple (j := 4) ht (by decide) (by decide) rfl rfl (h 706 (who_mk _ (.cons (.str _ t6) (.cons (.str _ t7) .nil)) (tup_K X w4) (Nat.le_of_ble_eq_true rfl) (by decide +kernel) (free_of (by decide +kernel)))) (hs _) hg
theorem parts_item (F : Fr h₀ L s.heap m) (X : (hd.heap_1 w.params).In h₀) (hi : 0 ≤ i ∧ i < 5) (h : ∀ pt vs, IsTup h₀ pt (List.toArray vs) → StrsAre vs (psF i) → vs.length ≤ 2 → Q (.ref pt) s)
    (hs : ∀ i, subscripted slice false (.ref 713) (.int i u) = operate [.ref 713, .int i u] (getItem (.ref 713) (.int i u)) := by intro _; with_unfolding_all rfl) (hg : ∀ r, letTemporaryGo value (.ref 713) r = pure () := by intro _; with_unfolding_all rfl) :
    wpAny (model row.prog w) A (subscriptTail value slice (.ref 713) (.int i u)) Q E s := by
  obtain ⟨n, hn⟩ := parts_at w
  obtain ⟨n0, t1, n1, t2, t3, n2, t4, t5, n3, t6, t7, n4, w0, w1, w2, w3, w4⟩ := partss_at w
  have ht : IsTup s.heap 713 _ := tup_K (X.keeps F.keep) hn
  have hc : i = 0 ∨ i = 1 ∨ i = 2 ∨ i = 3 ∨ i = 4 := by omega
  rcases hc with rfl | rfl | rfl | rfl | rfl
  · exact item_tuple (j := 0) ht (by decide) (by decide) rfl rfl (h 708 [] (tup_K X w0) .nil (Nat.le_of_ble_eq_true rfl)) (hs _) hg
  · exact item_tuple (j := 1) ht (by decide) (by decide) rfl rfl (h 709 _ (tup_K X w1) (.cons _ t1 .nil) (Nat.le_of_ble_eq_true rfl)) (hs _) hg
  · exact item_tuple (j := 2) ht (by decide) (by decide) rfl rfl (h 710 _ (tup_K X w2) (.cons _ t2 (.cons _ t3 .nil)) (Nat.le_of_ble_eq_true rfl)) (hs _) hg
  · exact item_tuple (j := 3) ht (by decide) (by decide) rfl rfl (h 711 _ (tup_K X w3) (.cons _ t4 (.cons _ t5 .nil)) (Nat.le_of_ble_eq_true rfl)) (hs _) hg
  · exact item_tuple (j := 4) ht (by decide) (by decide) rfl rfl (h 712 _ (tup_K X w4) (.cons _ t6 (.cons _ t7 .nil)) (Nat.le_of_ble_eq_true rfl)) (hs _) hg
/-- one of two texts, by a number -/
theorem two_item {a : Addr} {x y : Str} {t1 t2 : Tok} {k : Nat} {led : List (Addr × Obj)} (N : News h₀ L s.heap led) (hm : (a, ({ cls := .type "tuple", data := .seq #[.str x t1, .str y t2] k } : Obj)) ∈ led) (hi : 0 ≤ i ∧ i < 2) (h : ∀ z t, z = x ∨ z = y → Q (.str z t) s)
    (hs : ∀ i, subscripted slice false (.ref a) (.int i u) = operate [.ref a, .int i u] (getItem (.ref a) (.int i u)) := by intro _; with_unfolding_all rfl) (hg : ∀ r, letTemporaryGo value (.ref a) r = pure () := by intro _; with_unfolding_all rfl) :
    wpAny (model row.prog w) A (subscriptTail value slice (.ref a) (.int i u)) Q E s := by
  have ht : IsTup s.heap a _ := ⟨_, (N _ hm).1, rfl, k, rfl⟩
  have hc : i = 0 ∨ i = 1 := by omega
  rcases hc with rfl | rfl
  · exact item_tuple (j := 0) ht (by decide) (by decide) rfl rfl (h x t1 (.inl rfl)) (hs _) hg
  · exact item_tuple (j := 1) ht (by decide) (by decide) rfl rfl (h y t2 (.inr rfl)) (hs _) hg
end
theorem psF_len (i : Int) : (psF i).length ≤ 2 := by unfold psF; split; decide; split; decide; split <;> decide
theorem meantF_rng {i : Int} (h : 0 ≤ i ∧ i < 4) : 0 < meantF i ∧ meantF i < 4 := by unfold meantF; split; omega; split <;> omega
end Lw
end
section
theorem Lw.lay76 : True := by
  w_top off
  k_with_none
  k_with "ktr_enter" => (refine' code_def ?zk1 ?zk2 ?zk3 ?zk4 ?zk5 ?zkA ?zkF ?zkK ?zk6 ?zk7 ?zk8 ?zk9 ?zkB ?_ ?zc2 ?zc3 ?zc4 ?zc5; (case zkA => exact rfl); (case zkF => exact rfl); (case zkK => first | exact rfl | assumption); (case zk1 => k_asm); (case zk2 => k_asm); (case zk3 => k_asm); (case zk4 => k_asm); (case zk5 => k_asm); (case zk6 => k_is); (case zk7 => k_is); (case zk8 => ktr_room); (case zk9 => first | exact BindsTo.of_eq rfl | exact binds_K (by k_in) rfl (by k_is) rfl rfl rfl); (case zc5 => decide); (case zkB => exact locs rfl); (case zc2 => exact rfl); (case zc3 => exact rfl); (case zc4 => exact rfl); k_whole; intro g' L' h' FG' F' N' B' X' T'; (try dsimp only); (try k_fold))
  k_with "f_raise1" => ((case zB => k_asm); (case zF => k_asm); (case zX => k_asm); (case zN => k_asm); (case zT => k_asm); (case zhk => first | exact rfl | assumption); (case zd => ktr_room); (case zu => ktr_units))
  k_with "f_meansF" => (k_whole; intro t9 h9 tk9 F9 N9; (try dsimp only); (try k_fold))
  k_with "f_raise2" => ((case zF => k_asm); (case zX => k_asm); (case zN => k_asm); (case zI => exact Lw.ItemIn.mono (by assumption) (fun _ h => by (repeat (first | exact h | refine List.Mem.tail _ ?_)))))
  k_with "callWith ref" => (k_here; k_dflt (refine' callWith_K ?zk1 ?zk2 ?_; (case zk1 => k_asm); (case zk2 => k_is); k_whole))
  trivial
/-! the ledger where a list of it is written: all else stays; the law's rows -/
namespace Lw
/-- the ledger with one object written anew -/
noncomputable def upd (led : List (Addr × Obj)) (D : Addr) (o : Obj) : List (Addr × Obj) := (D, o) :: led.filter (fun p => p.1 != D)
theorem upd_off {led : List (Addr × Obj)} {D : Addr} {p : Addr × Obj} (h : p ∈ led.filter (fun p => p.1 != D)) : @Ne Nat p.1 D := by
  have := (List.mem_filter.mp h).2; simpa using this
theorem mem_off {led : List (Addr × Obj)} {D : Addr} {p : Addr × Obj} (hp : p ∈ led) (hn : @Ne Nat p.1 D) : p ∈ led.filter (fun p => p.1 != D) := List.mem_filter.mpr ⟨hp, by simpa using hn⟩
theorem news_fun {h₀ h : Heap} {L : Addr} {led : List (Addr × Obj)} (N : News h₀ L h led) {b : Addr} {o o' : Obj} (h1 : (b, o) ∈ led) (h2 : (b, o') ∈ led) : o = o' := by
  have e1 := (N _ h1).1
  have e2 := (N _ h2).1
  rw [e1] at e2; exact Option.some.inj e2
theorem mem_upd {h₀ h : Heap} {L : Addr} {led : List (Addr × Obj)} (N : News h₀ L h led) {D : Addr} {old o' : Obj} (hD : (D, old) ∈ led) {p : Addr × Obj} (hp : p ∈ led) (hn : p.2.cls ≠ old.cls) : p ∈ upd led D o' := by
  refine List.mem_cons.mpr (.inr (mem_off hp fun e => hn ?_))
  obtain ⟨b, o⟩ := p
  dsimp only at e
  subst e
  rw [news_fun N hp hD]
theorem mem_upd' {led : List (Addr × Obj)} {D : Addr} {o' : Obj} {p : Addr × Obj} (hp : p ∈ led) (hn : @Ne Nat p.1 D) : p ∈ upd led D o' := List.mem_cons.mpr (.inr (mem_off hp hn))
theorem upd_news {h₀ h : Heap} {L : Addr} {led : List (Addr × Obj)} (N : News h₀ L h led) {D : Addr} {old : Obj} (hD : (D, old) ∈ led) : News h₀ L h (upd led D old) := newsSub N fun p hp => by
  rcases List.mem_cons.mp hp with rfl | hp
  · exact hD
  · exact (List.mem_filter.mp hp).1
/-- a tuple, an object, its fields: no list, no iterator, no cell, no table -/
noncomputable def Std (o : Obj) : Prop := o.cls ≠ .type "list" ∧ o.cls ≠ .type "list_iterator" ∧ o.cls ≠ .type "range_iterator" ∧ o.cls ≠ .none ∧ ∀ v, o.data ≠ .cell v
/-- all such things stand in the other ledger too -/
noncomputable def Tr (led led' : List (Addr × Obj)) : Prop := ∀ p ∈ led, Std p.2 → p ∈ led'
theorem Tr.upd {h₀ h : Heap} {L D : Addr} {led : List (Addr × Obj)} {its : Array Value} {n : Nat} {o' : Obj} (N : News h₀ L h led) (hD : (D, W.listOf its n) ∈ led) : Tr led (upd led D o') := fun _ hp a => mem_upd N hD hp a.1
/-- list.append, whatever else the ledger holds -/
theorem append_in {prog : Program} {w : World} {A : Around} {E : Value → Shared → Prop} {s : Shared} {h₀ : Heap} {L D : Addr} {m : Str → Option Value} {led : List (Addr × Obj)} {its : Array Value} {n : Nat} {x : Value} {Q : Value → Shared → Prop} (F : Fr h₀ L s.heap m) (N : News h₀ L s.heap led) (hD : (D, W.listOf its n) ∈ led) (hz : its.size ≤ 1000)
    (h : ∀ h', Fr h₀ L h' m → News h₀ L h' (upd led D (W.listOf (its.push x) (n + 1))) → Tr led (upd led D (W.listOf (its.push x) (n + 1))) → Q .none { s with heap := h' }) : wpAny (model prog w) A (call (.builtin "list.append") [.ref D, x]) Q E s :=
  append_K F (upd_news N hD) (.head fun p hp => upd_off hp) (fun h' F' N' => h h' F' N' (Tr.upd N hD)) (by rw [sizeLine_eq]; omega)
noncomputable def tupO (l : List Value) (n : Nat) : Obj := { cls := .type "tuple", data := .seq l.toArray n }
theorem Tr.of {l l' : List (Addr × Obj)} (h : ∀ p ∈ l, p ∈ l') : Tr l l' := fun p hp _ => h p hp
theorem Tr.trans {l1 l2 l3 : List (Addr × Obj)} (h : Tr l1 l2) (k : Tr l2 l3) : Tr l1 l3 := fun p hp a => k p (h p hp a) a
theorem Std.tup (a : Array Value) (k : Nat) : Std ({ cls := .type "tuple", data := .seq a k } : Obj) := ⟨(by intro e; have e' := Value.type.inj e; revert e'; decide), (by intro e; have e' := Value.type.inj e; revert e'; decide), (by intro e; have e' := Value.type.inj e; revert e'; decide), (by intro e; cases e), (by intro v e; cases e)⟩
section
variable {P : Params} {h₀ h : Heap} {L D : Addr} {led led' : List (Addr × Obj)} {its : Array Value} {n : Nat} {o' : Obj}
/-- all but one thing, that is none of the rows' things -/
theorem Tr.offX (N : News h₀ L h led) {I : Addr} {it : Obj} (hI : (I, it) ∈ led) (hc : ¬ Std it) : Tr led (led.filter (fun p => p.1 != I)) := fun p hp a => by
  refine mem_off hp fun e => ?_
  obtain ⟨y, o⟩ := p
  dsimp only at e a
  subst e
  rw [news_fun N hp hI] at a
  exact hc a
theorem Tr.off (N : News h₀ L h led) {I : Addr} {it : Obj} (hI : (I, it) ∈ led) (hc : it.cls = .type "list_iterator" ∨ it.cls = .type "range_iterator") : Tr led (led.filter (fun p => p.1 != I)) := Tr.offX N hI fun a => by
  rcases hc with hc | hc
  · exact a.2.1 hc
  · exact a.2.2.1 hc
theorem Tr.tup (T : Tr led led') {x : Addr} {a : Array Value} {k : Nat} (I : (x, ({ cls := .type "tuple", data := .seq a k } : Obj)) ∈ led) : (x, ({ cls := .type "tuple", data := .seq a k } : Obj)) ∈ led' := T _ I (Std.tup a k)
theorem ItemIn.tr (T : Tr led led') {x : Addr} {it : Item} (I : ItemIn P led x it) : ItemIn P led' x it := by
  obtain ⟨dx, t1, t2, t3, t4, t5, t6, h1, h2⟩ := I
  exact ⟨dx, t1, t2, t3, t4, t5, t6, T _ h1 ⟨(by intro e; cases e), (by intro e; cases e), (by intro e; cases e), (by intro e; cases e), (by intro v e; cases e)⟩, T _ h2 ⟨(by intro e; have e' := Value.type.inj e; revert e'; decide), (by intro e; have e' := Value.type.inj e; revert e'; decide), (by intro e; have e' := Value.type.inj e; revert e'; decide), (by intro e; cases e), (by intro v e; cases e)⟩⟩
theorem WholeIn.tr (T : Tr led led') {x : Addr} {ys : List Str} (I : WholeIn led x ys) : WholeIn led' x ys := by
  obtain ⟨vs, k, h1, h2⟩ := I
  exact ⟨vs, k, T.tup h1, h2⟩
end
/-- a row of the law: the limit, its number's parts, its names, its whole -/
structure Rw where
  it : Item
  ps : List Str
noncomputable def Rw.whole (r : Rw) : List Str := r.it.parts r.ps
structure Rw.Ok (r : Rw) : Prop where
  o : r.it.Ok
  a : 0 ≤ r.it.a ∧ r.it.a < 4
  m : 0 < r.it.m ∧ r.it.m < 4
noncomputable def SortIn (led : List (Addr × Obj)) (so : Addr) (it : Item) : Prop := ∃ t1 t2 t3 n, (so, ({ cls := .type "tuple", data := .seq #[.int it.a t1, .int it.m t2, .int it.k.ix t3] n } : Obj)) ∈ led
noncomputable def RowIn (P : Params) (h₀ : Heap) (led : List (Addr × Obj)) (v : Value) (r : Rw) : Prop := ∃ tp x so nm wh n, v = .ref tp ∧ (tp, ({ cls := .type "tuple", data := .seq #[.ref x, .ref so, .ref nm, .ref wh] n } : Obj)) ∈ led ∧ ItemIn P led x r.it ∧ SortIn led so r.it ∧ Who h₀ nm r.ps ∧ WholeIn led wh r.whole
noncomputable def RowsIn (P : Params) (h₀ : Heap) (led : List (Addr × Obj)) (its : Array Value) (rs : List Rw) : Prop := its.size = rs.length ∧ ∀ (i : Nat) v, its[i]? = some v → ∃ r, rs[i]? = some r ∧ r.Ok ∧ RowIn P h₀ led v r
theorem SortIn.mono {l l' : List (Addr × Obj)} {so : Addr} {it : Item} (h : SortIn l so it) (hs : ∀ p ∈ l, p ∈ l') : SortIn l' so it := by
  obtain ⟨t1, t2, t3, n, h⟩ := h; exact ⟨t1, t2, t3, n, hs _ h⟩
theorem RowIn.mono {P : Params} {h₀ : Heap} {l l' : List (Addr × Obj)} {v : Value} {r : Rw} (h : RowIn P h₀ l v r) (hs : ∀ p ∈ l, p ∈ l') : RowIn P h₀ l' v r := by
  obtain ⟨tp, x, so, nm, wh, n, h1, h2, h3, h4, h5, h6⟩ := h
  exact ⟨tp, x, so, nm, wh, n, h1, hs _ h2, h3.mono hs, h4.mono hs, h5, h6.mono hs⟩
theorem RowsIn.mono {P : Params} {h₀ : Heap} {l l' : List (Addr × Obj)} {its : Array Value} {rs : List Rw} (h : RowsIn P h₀ l its rs) (hs : ∀ p ∈ l, p ∈ l') : RowsIn P h₀ l' its rs := ⟨h.1, fun i v e => by
  obtain ⟨r, a, b, c⟩ := h.2 i v e; exact ⟨r, a, b, c.mono hs⟩⟩
theorem SortIn.tr {led led' : List (Addr × Obj)} (T : Tr led led') {so : Addr} {it : Item} (I : SortIn led so it) : SortIn led' so it := by
  obtain ⟨t1, t2, t3, k, h⟩ := I; exact ⟨t1, t2, t3, k, T.tup h⟩
theorem RowIn.tr {P : Params} {h₀ : Heap} {led led' : List (Addr × Obj)} (T : Tr led led') {v : Value} {r : Rw} (I : RowIn P h₀ led v r) : RowIn P h₀ led' v r := by
  obtain ⟨tp, x, so, nm, wh, n, h1, h2, h3, h4, h5, h6⟩ := I
  exact ⟨tp, x, so, nm, wh, n, h1, T.tup h2, h3.tr T, h4.tr T, h5, h6.tr T⟩
theorem RowsIn.tr {P : Params} {h₀ : Heap} {led led' : List (Addr × Obj)} (T : Tr led led') {a : Array Value} {rs : List Rw} (I : RowsIn P h₀ led a rs) : RowsIn P h₀ led' a rs := ⟨I.1, fun i v e => by
  obtain ⟨r, a, b, c⟩ := I.2 i v e; exact ⟨r, a, b, c.tr T⟩⟩
theorem RowsIn.push {P : Params} {h₀ : Heap} {led : List (Addr × Obj)} {its : Array Value} {rs : List Rw} {v : Value} {r : Rw} (I : RowsIn P h₀ led its rs) (ho : r.Ok) (h : RowIn P h₀ led v r) : RowsIn P h₀ led (its.push v) (rs ++ [r]) := by
  refine ⟨by rw [Array.size_push, I.1, List.length_append]; rfl, fun i u e => ?_⟩
  rw [Array.getElem?_push] at e
  split at e
  · rename_i e1
    rw [I.1] at e1
    subst e1
    refine ⟨r, by simp, ho, ?_⟩
    cases Option.some.inj e; exact h
  · obtain ⟨r', a, b, c⟩ := I.2 i u e
    refine ⟨r', ?_, b, c⟩
    have hlt : i < rs.length := by
      rw [← I.1]; exact (Array.getElem?_eq_some_iff.mp e).1
    rw [List.getElem?_append_left hlt]; exact a
theorem RowsIn.nil {P : Params} {h₀ : Heap} {led : List (Addr × Obj)} : RowsIn P h₀ led #[] [] := ⟨rfl, fun i v e => by simp at e⟩
end Lw
end
section
theorem Lw.lay77 : True := by
  w_top off
  k_with_none
  k_with "ktr_enter" => (refine' code_def ?zk1 ?zk2 ?zk3 ?zk4 ?zk5 ?zkA ?zkF ?zkK ?zk6 ?zk7 ?zk8 ?zk9 ?zkB ?_ ?zc2 ?zc3 ?zc4 ?zc5; (case zkA => exact rfl); (case zkF => exact rfl); (case zkK => first | exact rfl | assumption); (case zk1 => k_asm); (case zk2 => k_asm); (case zk3 => k_asm); (case zk4 => k_asm); (case zk5 => k_asm); (case zk6 => k_is); (case zk7 => k_is); (case zk8 => ktr_room); (case zk9 => first | exact BindsTo.of_eq rfl | exact binds_K (by k_in) rfl (by k_is) rfl rfl rfl); (case zc5 => decide); (case zkB => exact locs rfl); (case zc2 => exact rfl); (case zc3 => exact rfl); (case zc4 => exact rfl); k_whole; intro g' L' h' FG' F' N' B' X' T'; (try dsimp only); (try k_fold))
  k_with "f_raise1" => ((case zB => k_asm); (case zF => k_asm); (case zX => k_asm); (case zN => k_asm); (case zT => k_asm); (case zhk => first | exact rfl | assumption); (case zd => ktr_room); (case zu => ktr_units))
  k_with "f_meansF" => (k_whole; intro t9 h9 tk9 F9 N9; (try dsimp only); (try k_fold))
  k_with "f_raise2" => ((case zF => k_asm); (case zX => k_asm); (case zN => k_asm); (case zI => exact Lw.ItemIn.mono (by assumption) (fun _ h => by (repeat (first | exact h | refine List.Mem.tail _ ?_)))))
  k_with "callWith ref" => (k_here; k_dflt (refine' callWith_K ?zk1 ?zk2 ?_; (case zk1 => k_asm); (case zk2 => k_is); k_whole))
  trivial
namespace Lw
theorem nums (r : Int) : ∃ (q1 ch q2 am q3 sp q4 wh : Int) (k : Wn), r.fdiv 24 = q1 ∧ q1.fmod 4 = ch ∧ (0 ≤ ch ∧ ch < 4) ∧ r.fdiv 6 = q2 ∧ q2.fmod 4 = am ∧ (0 ≤ am ∧ am < 4) ∧ r.fmod 6 = k.ix ∧ r.fdiv 96 = q3 ∧ q3.fmod 2 = sp ∧ (0 ≤ sp ∧ sp < 2) ∧ r.fdiv 192 = q4 ∧ q4.fmod 5 = wh ∧ (0 ≤ wh ∧ wh < 5) := by
  have h6 : 0 ≤ r.fmod 6 ∧ r.fmod 6 < 6 := ⟨Int.fmod_nonneg_of_pos _ (by decide), Int.fmod_lt_of_pos _ (by decide)⟩
  refine ⟨_, _, _, _, _, _, _, _, Wn.at (r.fmod 6).toNat, rfl, rfl, ⟨Int.fmod_nonneg_of_pos _ (by decide), Int.fmod_lt_of_pos _ (by decide)⟩, rfl, rfl, ⟨Int.fmod_nonneg_of_pos _ (by decide), Int.fmod_lt_of_pos _ (by decide)⟩, ?_, rfl, rfl, ⟨Int.fmod_nonneg_of_pos _ (by decide), Int.fmod_lt_of_pos _ (by decide)⟩, rfl, rfl, ⟨Int.fmod_nonneg_of_pos _ (by decide), Int.fmod_lt_of_pos _ (by decide)⟩⟩
  have := Wn.at_ix (i := (r.fmod 6).toNat) (by omega)
  rw [← this]; omega
theorem ints_at : ∀ {ws : List Value} {ns : List Int}, IntsAre ws ns → ∀ (i : Nat) v, ws.toArray[i]? = some v → ∃ r t, v = .int r t
  | _, _, h, i, v, e => by
    have e' := e
    rw [List.getElem?_toArray] at e'
    clear e
    induction h generalizing i with
    | nil => simp at e'
    | cons _ _ _ ih => cases i with
      | zero => simp at e'; exact ⟨_, _, e'.symm⟩
      | succ i => exact ih i (by simpa using e')
theorem six_of {ws : List Value} {l : List Int} {z : Int} (h : IntsAre ws (l.take 5 ++ [z])) : ws.length ≤ 6 := by
  have := h.length
  rw [this, List.length_append, List.length_take]
  simp only [List.length_cons, List.length_nil]; omega
end Lw
end
section
theorem Lw.lay78 : True := by
  w_top off
  k_with_none
  k_with "ktr_enter" => (refine' code_def ?zk1 ?zk2 ?zk3 ?zk4 ?zk5 ?zkA ?zkF ?zkK ?zk6 ?zk7 ?zk8 ?zk9 ?zkB ?_ ?zc2 ?zc3 ?zc4 ?zc5; (case zkA => exact rfl); (case zkF => exact rfl); (case zkK => first | exact rfl | assumption); (case zk1 => k_asm); (case zk2 => k_asm); (case zk3 => k_asm); (case zk4 => k_asm); (case zk5 => k_asm); (case zk6 => k_is); (case zk7 => k_is); (case zk8 => ktr_room); (case zk9 => first | exact BindsTo.of_eq rfl | exact binds_K (by k_in) rfl (by k_is) rfl rfl rfl); (case zc5 => decide); (case zkB => exact locs rfl); (case zc2 => exact rfl); (case zc3 => exact rfl); (case zc4 => exact rfl); k_whole; intro g' L' h' FG' F' N' B' X' T'; (try dsimp only); (try k_fold))
  k_with "f_raise1" => ((case zB => k_asm); (case zF => k_asm); (case zX => k_asm); (case zN => k_asm); (case zT => k_asm); (case zhk => first | exact rfl | assumption); (case zd => ktr_room); (case zu => ktr_units))
  k_with "f_meansF" => (k_whole; intro t9 h9 tk9 F9 N9; (try dsimp only); (try k_fold))
  k_with "f_raise2" => ((case zF => k_asm); (case zX => k_asm); (case zN => k_asm); (case zI => exact Lw.ItemIn.mono (by assumption) (fun _ h => by (repeat (first | exact h | refine List.Mem.tail _ ?_)))))
  k_with "callWith ref" => (k_here; k_dflt (refine' callWith_K ?zk1 ?zk2 ?_; (case zk1 => k_asm); (case zk2 => k_is); k_whole))
  trivial
namespace Lw
/-- what holds between the turns of the first loop: the rows so far -/
noncomputable def rows_J (P : Params) (h₀ : Heap) (R rest cell pt : Addr) (oc ot : Obj) (ws : List Value) (n : Nat) (c : Int) (tc : Tok) (i : Nat) (m' : Str → Option Value) (n' : List (Addr × Obj)) : Prop :=
  m' "rows" = some (.ref R) ∧ m' "clock" = some (.int c tc) ∧ (rest, W.listOf ws.toArray n) ∈ n' ∧ (cell, oc) ∈ n' ∧ (@Ne Nat rest R ∧ @Ne Nat cell R ∧ @Ne Nat pt R) ∧ (pt, ot) ∈ n' ∧ ∃ its k rs, (R, W.listOf its k) ∈ n' ∧ rs.length = i ∧ RowsIn P h₀ n' its rs
theorem rows_hl {P : Params} {h₀ : Heap} {R rest cell pt : Addr} {oc ot : Obj} {ws : List Value} {n : Nat} {c : Int} {tc : Tok} {m : Str → Option Value} {news : List (Addr × Obj)} (_ : rows_J P h₀ R rest cell pt oc ot ws n c tc 0 m news) :
    ∀ i m n', rows_J P h₀ R rest cell pt oc ot ws n c tc i m n' → (rest, W.listOf ws.toArray n) ∈ n' := fun _ _ _ h => h.2.2.1
theorem rows_0 {w : World} {h₀ h : Heap} {L R rest cell pt : Addr} {oc ot : Obj} {ws : List Value} {n k : Nat} {c : Int} {tc : Tok} {m : Str → Option Value} {a1 a2 a3 : Addr × Obj} {r : List (Addr × Obj)} (_ : (hd.heap_1 w.params).In h₀)
    (_ : Fr h₀ L h (fun y => if y = Str.ofString "rows" then some (.ref R) else if y = Str.ofString "clock" then some (.int c tc) else m y))
    (N : News h₀ L h ((R, W.listOf #[] k) :: (rest, W.listOf ws.toArray n) :: a1 :: a2 :: a3 :: (cell, oc) :: (pt, ot) :: r)) {P1 P2 P3 : Prop} (h1 : @LT.lt Nat _ rest R ∧ P1 ∧ P2 ∧ P3 ∧ @LT.lt Nat _ cell R ∧ @LT.lt Nat _ pt R) :
    rows_J w.params h₀ R rest cell pt oc ot ws n c tc 0 (fun y => if y = Str.ofString "rows" then some (.ref R) else if y = Str.ofString "clock" then some (.int c tc) else m y) ((R, W.listOf #[] k) :: (rest, W.listOf ws.toArray n) :: a1 :: a2 :: a3 :: (cell, oc) :: (pt, ot) :: r) :=
  ⟨if_pos rfl, (if_neg (by decide)).trans (if_pos rfl), .tail _ (.head _), .tail _ (.tail _ (.tail _ (.tail _ (.tail _ (.head _))))), ⟨Nat.ne_of_lt h1.1, Nat.ne_of_lt h1.2.2.2.2.1, Nat.ne_of_lt h1.2.2.2.2.2⟩, .tail _ (.tail _ (.tail _ (.tail _ (.tail _ (.tail _ (.head _)))))), #[], k, [], .head _, rfl, RowsIn.nil⟩
end Lw
end
section
theorem Lw.lay79 : True := by
  w_top off
  k_with_none
  k_with "ktr_enter" => (refine' code_def ?zk1 ?zk2 ?zk3 ?zk4 ?zk5 ?zkA ?zkF ?zkK ?zk6 ?zk7 ?zk8 ?zk9 ?zkB ?_ ?zc2 ?zc3 ?zc4 ?zc5; (case zkA => exact rfl); (case zkF => exact rfl); (case zkK => first | exact rfl | assumption); (case zk1 => k_asm); (case zk2 => k_asm); (case zk3 => k_asm); (case zk4 => k_asm); (case zk5 => k_asm); (case zk6 => k_is); (case zk7 => k_is); (case zk8 => ktr_room); (case zk9 => first | exact BindsTo.of_eq rfl | exact binds_K (by k_in) rfl (by k_is) rfl rfl rfl); (case zc5 => decide); (case zkB => exact locs rfl); (case zc2 => exact rfl); (case zc3 => exact rfl); (case zc4 => exact rfl); k_whole; intro g' L' h' FG' F' N' B' X' T'; (try dsimp only); (try k_fold))
  k_with "f_raise1" => ((case zB => k_asm); (case zF => k_asm); (case zX => k_asm); (case zN => k_asm); (case zT => k_asm); (case zhk => first | exact rfl | assumption); (case zd => ktr_room); (case zu => ktr_units))
  k_with "f_meansF" => (k_whole; intro t9 h9 tk9 F9 N9; (try dsimp only); (try k_fold))
  k_with "f_raise2" => ((case zF => k_asm); (case zX => k_asm); (case zN => k_asm); (case zI => exact Lw.ItemIn.mono (by assumption) (fun _ h => by (repeat (first | exact h | refine List.Mem.tail _ ?_)))))
  k_with "callWith ref" => (k_here; k_dflt (refine' callWith_K ?zk1 ?zk2 ?_; (case zk1 => k_asm); (case zk2 => k_is); k_whole))
  trivial
/-! the same with the iterator's class: a for loop by what holds between its turns: over a list of the ledger, a tuple, a range; any target; turns may make things that stay -/
namespace Lw
section
variable {prog : Program} {w : World} {A : Around} {E : Value → Shared → Prop} {s : Shared} {env : Env} {h₀ : Heap} {target : Expr} {body : List Stmt} {Q : Flow → Shared → Prop} {m : Str → Option Value} {news : List (Addr × Obj)}
theorem for_core2 {K : Obj → Prop} {I : Addr} {fp : List Addr} {n : Nat} {P : Nat → Value → Prop} {St : Nat → Heap → Prop} (J : Nat → (Str → Option Value) → List (Addr × Obj) → Prop) (W : Walks prog w A I fp [I] n P St)
    (hgo : ∀ i v (s : Shared) (Q : Unit → Shared → Prop) (E : Value → Shared → Prop), St i s.heap → Q () s → wpAny (model prog w) A (letOwnedTupleGo target (.ref I) v) Q E s)
    (hSt : ∀ i h, St i h → ∃ o, h.get? I = some o ∧ K o) (hfp : ∀ b ∈ fp, b = I ∨ (∃ o, h₀.get? b = some o) ∨ ∃ o, ∀ i m n', J i m n' → (b, o) ∈ n') (hLf : env.locals ∉ fp) (hI : h₀.get? I = none) (hnw : ∀ p ∈ news, p.1 ≠ I) (hst : St 0 s.heap)
    (F : Fr h₀ env.locals s.heap m) (N : News h₀ env.locals s.heap news) (hJ : J 0 m news)
    (turn : ∀ i v m₁ news₁ it h₁ tk₁, i < n → P i v → J i m₁ news₁ → (∀ p ∈ news₁, p.1 ≠ I) → Fr h₀ env.locals h₁ m₁ → News h₀ env.locals h₁ ((I, it) :: news₁) → K it →
      wpAny (model prog w) A (assign target env v) (fun _ s₂ => wpAny (model prog w) A (execs body env) (LPost h₀ env.locals I it (J (i + 1)) { s with heap := h₁, toks := tk₁ } Q) E s₂) E { s with heap := h₁, toks := tk₁ })
    (done : ∀ m₁ news₁ h₁ tk₁, J n m₁ news₁ → Fr h₀ env.locals h₁ m₁ → News h₀ env.locals h₁ news₁ → Q .next { s with heap := h₁, toks := tk₁ }) :
    TurnsAt prog w A h₀ env target body Q E (.ref I) s := by
  refine ⟨I, fp, [I], n, fun i v _ => P i v, _, St, m, news, J, rfl, KTurns.ofWalks W hgo, hLf, (fun b hb => by rw [List.mem_singleton.mp hb]; exact hI), (fun p hp hq => hnw p hp (List.mem_singleton.mp hq)), hst, F, N, hJ, ?_, ?_⟩
  · intro i v m₁ news₁ h₁ tk₁ own hi hP hJ₁ hoff hown hget hall hst₁ F₁ N₁
    obtain ⟨it, hit, hK⟩ := hSt _ _ hst₁
    have hmem := hall I (W.sub I (by simp)) hI it hit
    have hoff' : ∀ p ∈ news₁, p.1 ≠ I := fun p hp e => hoff p hp (List.mem_singleton.mpr e)
    have N₂ : News h₀ env.locals h₁ ((I, it) :: news₁) := fun p hp => by
      rcases List.mem_cons.mp hp with rfl | hp
      · exact N₁ _ (List.mem_append_left _ hmem)
      · exact N₁ _ (List.mem_append_right _ hp)
    have fin : ∀ s₃, LEnd h₀ env.locals I it (J (i + 1)) { s with heap := h₁, toks := tk₁ } s₃ → LoopStepU h₀ env.locals [I] own (J (i + 1)) { s with heap := h₁, toks := tk₁ } .next s₃ := by
      rintro s₃ ⟨h', tk, m', news', e, F', N', ho, hJ'⟩
      refine ⟨rfl, h', tk, m', news', e, F', fun p hp => ?_, fun p hp hq => ho p hp (List.mem_singleton.mp hq), hJ'⟩
      rcases List.mem_append.mp hp with hp | hp
      · have g := hget p hp
        rcases hfp p.1 (hown p hp) with hb | ⟨o, hb⟩ | ⟨o, hb⟩
        · rw [hb, hit] at g
          have e1 : p = (I, it) := Prod.ext hb (Option.some.inj g).symm
          rw [e1]; exact N' _ (.head _)
        · have := (N₁ p (List.mem_append_left _ hp)).2.2
          rw [this] at hb; cases hb
        · have h1 := (N₂ _ (.tail _ (hb _ _ _ hJ₁))).1
          rw [h1] at g
          have e1 : p = (p.1, o) := Prod.ext rfl (Option.some.inj g).symm
          rw [e1]; exact N' _ (.tail _ (hb _ _ _ hJ'))
      · exact N' _ (.tail _ hp)
    refine wpAny_mono (turn i v m₁ news₁ it h₁ tk₁ hi hP hJ₁ hoff' F₁ N₂ hK) (fun _ s₂ h₂ => wpAny_mono h₂ (fun f s₃ p => ?_) fun _ _ e => e) fun _ _ e => e
    cases f with
    | ret v => exact p
    | brk => exact p
    | next => exact fin _ p
    | cont => exact fin _ p
  · intro h' tk m' news' F' N' _ hJ'
    exact done m' news' h' tk hJ' F' N'
theorem for_list2 {l : Addr} {items : Array Value} {nn : Nat} (J : Nat → (Str → Option Value) → List (Addr × Obj) → Prop)
    (hh : A.handled = none) (F : Fr h₀ env.locals s.heap m) (N : News h₀ env.locals s.heap news) (hl : ∀ i m n', J i m n' → (l, listOf items nn) ∈ n') (hJ : J 0 m news)
    (turn : ∀ i v m₁ news₁ I it h₁ tk₁, items[i]? = some v → J i m₁ news₁ → (∀ p ∈ news₁, p.1 ≠ I) → Fr h₀ env.locals h₁ m₁ → News h₀ env.locals h₁ ((I, it) :: news₁) → it.cls = .type "list_iterator" →
      wpAny (model prog w) A (assign target env v) (fun _ s₂ => wpAny (model prog w) A (execs body env) (LPost h₀ env.locals I it (J (i + 1)) { s with heap := h₁, toks := tk₁ } Q) E s₂) E { s with heap := h₁, toks := tk₁ })
    (done : ∀ m₁ news₁ h₁ tk₁, J items.size m₁ news₁ → Fr h₀ env.locals h₁ m₁ → News h₀ env.locals h₁ news₁ → Q .next { s with heap := h₁, toks := tk₁ }) :
    wpAny (model prog w) A (pyIter (.ref l)) (fun it s₂ => TurnsAt prog w A h₀ env target body Q E it s₂) E s := by
  have hm := N _ (hl 0 m news hJ)
  have hls : s.heap.IsList l items := ⟨_, hm.1, rfl, nn, rfl⟩
  have hlt := Heap.lt_size hm.1
  have up : ∀ b o, s.heap.get? b = some o → (s.heap.push { cls := .type "list_iterator", data := .fields #[.ref l, .int 0 0] }).get? b = some o := fun b o e => Heap.get?_push_of_some _ e
  refine wpAny_pyIter_list hls ?_
  refine for_core2 (K := fun o => o.cls = .type "list_iterator") (s := { s with heap := s.heap.push { cls := .type "list_iterator", data := .fields #[.ref l, .int 0 0] } }) J (Walks.list hh s.heap.objs.size l (Nat.ne_of_lt hlt) items) (fun i v s Q E st q => PyProof.Rows.letGo_listiter st.1 q) (fun i h st => by obtain ⟨o, e, hc, _⟩ := st.1; exact ⟨o, e, hc⟩)
    (fun b hb => ?_) (fun hb => ?_) (next_is_new F) (fun p hp => Nat.ne_of_lt (Heap.lt_size (N p hp).1)) ⟨⟨_, Heap.get?_push_size _ rfl, rfl, rfl⟩, hls.at fun o e => up _ o e⟩ (F.keeps up) (N.grown up) hJ
    (fun i v m₁ news₁ it h₁ tk₁ _ hP => turn i v m₁ news₁ _ it h₁ tk₁ hP) done
  · rcases List.mem_cons.mp hb with e | hb
    · exact .inl e
    · rw [List.mem_singleton.mp hb]; exact .inr (.inr ⟨_, hl⟩)
  · rcases List.mem_cons.mp hb with e | hb
    · exact Nat.ne_of_lt F.ns.lt e
    · exact hm.2.1 (List.mem_singleton.mp hb).symm
theorem for_range2 {r : Addr} {n : Nat} {t u v : Tok} (J : Nat → (Str → Option Value) → List (Addr × Obj) → Prop)
    (hh : A.handled = none) (hr : IsRange s.heap r 0 n 1 t u v) (hsmall : Builtin.Range.small 0 n 1 = true) (hn : Builtin.Range.rangeSize 0 n 1 = (n : Int)) (F : Fr h₀ env.locals s.heap m) (N : News h₀ env.locals s.heap news) (hJ : J 0 m news)
    (turn : ∀ i t m₁ news₁ I it h₁ tk₁, i < n → J i m₁ news₁ → (∀ p ∈ news₁, p.1 ≠ I) → Fr h₀ env.locals h₁ m₁ → News h₀ env.locals h₁ ((I, it) :: news₁) → it.cls = .type "range_iterator" →
      wpAny (model prog w) A (assign target env (.int (i : Nat) t)) (fun _ s₂ => wpAny (model prog w) A (execs body env) (LPost h₀ env.locals I it (J (i + 1)) { s with heap := h₁, toks := tk₁ } Q) E s₂) E { s with heap := h₁, toks := tk₁ })
    (done : ∀ m₁ news₁ h₁ tk₁, J n m₁ news₁ → Fr h₀ env.locals h₁ m₁ → News h₀ env.locals h₁ news₁ → Q .next { s with heap := h₁, toks := tk₁ }) :
    wpAny (model prog w) A (pyIter (.ref r)) (fun it s₂ => TurnsAt prog w A h₀ env target body Q E it s₂) E s := by
  refine wpAny_pyIter_range hr hsmall ?_
  have up : ∀ (o' : Obj) b o, s.heap.get? b = some o → (s.heap.push o').get? b = some o := fun o' b o e => Heap.get?_push_of_some _ e
  refine for_core2 (K := fun o => o.cls = .type "range_iterator") (s := { s with heap := s.heap.push _ }) J (Walks.range hh s.heap.objs.size 0 1 n) (fun i v s Q E st q => ?_) (fun i h st => ⟨_, st, rfl⟩)
    (fun b hb => .inl (List.mem_singleton.mp hb)) (fun hb => Nat.ne_of_lt F.ns.lt (List.mem_singleton.mp hb)) (next_is_new F) (fun p hp => Nat.ne_of_lt (Heap.lt_size (N p hp).1)) (by show IsRangeIter _ _ _ _ _; rw [hn]; simpa using Heap.get?_push_size _ rfl) (F.keeps (up _)) (N.grown (up _)) hJ
    (fun i v m₁ news₁ it h₁ tk₁ hi hP => ?_) done
  · unfold letOwnedTupleGo
    cases target <;> first
      | exact wpAny_pure q
      | (cases v <;> first
          | exact wpAny_pure q
          | (refine wpAny_bind (wpAny_load st ?_)
             exact wpAny_pure q))
  · obtain ⟨t, rfl⟩ := hP
    have e1 : (0 : Int) + (i : Int) * 1 = (i : Int) := by omega
    rw [e1]
    exact turn i t m₁ news₁ _ it h₁ tk₁ hi
end
end Lw
end
section
theorem Lw.lay80 : True := by
  w_top off
  k_with_none
  k_with "ktr_enter" => (refine' code_def ?zk1 ?zk2 ?zk3 ?zk4 ?zk5 ?zkA ?zkF ?zkK ?zk6 ?zk7 ?zk8 ?zk9 ?zkB ?_ ?zc2 ?zc3 ?zc4 ?zc5; (case zkA => exact rfl); (case zkF => exact rfl); (case zkK => first | exact rfl | assumption); (case zk1 => k_asm); (case zk2 => k_asm); (case zk3 => k_asm); (case zk4 => k_asm); (case zk5 => k_asm); (case zk6 => k_is); (case zk7 => k_is); (case zk8 => ktr_room); (case zk9 => first | exact BindsTo.of_eq rfl | exact binds_K (by k_in) rfl (by k_is) rfl rfl rfl); (case zc5 => decide); (case zkB => exact locs rfl); (case zc2 => exact rfl); (case zc3 => exact rfl); (case zc4 => exact rfl); k_whole; intro g' L' h' FG' F' N' B' X' T'; (try dsimp only); (try k_fold))
  k_with "f_raise1" => ((case zB => k_asm); (case zF => k_asm); (case zX => k_asm); (case zN => k_asm); (case zT => k_asm); (case zhk => first | exact rfl | assumption); (case zd => ktr_room); (case zu => ktr_units))
  k_with "f_meansF" => (k_whole; intro t9 h9 tk9 F9 N9; (try dsimp only); (try k_fold))
  k_with "f_raise2" => ((case zF => k_asm); (case zX => k_asm); (case zN => k_asm); (case zI => exact Lw.ItemIn.mono (by assumption) (fun _ h => by (repeat (first | exact h | refine List.Mem.tail _ ?_)))))
  k_with "callWith ref" => (k_here; k_dflt (refine' callWith_K ?zk1 ?zk2 ?_; (case zk1 => k_asm); (case zk2 => k_is); k_whole))
  trivial
namespace Lw
section
variable {prog : Program} {w : World} {A : Around} {E : Value → Shared → Prop} {s : Shared} {h₀ : Heap} {L a b : Addr} {led : List (Addr × Obj)} {m : Str → Option Value} {Q : Value → Shared → Prop} {vs : List Value} {n k : Nat}
/-- (x,) + t: a tuple of the text's top behind one text -/
theorem add_one {z : Str} {t : Tok} (F : Fr h₀ L s.heap m) (N : News h₀ L s.heap led) (h1 : (a, ({ cls := .type "tuple", data := .seq #[.str z t] n } : Obj)) ∈ led) (h2 : IsTup h₀ b vs.toArray) (hz : vs.length ≤ 2)
    (h : ∀ D h' n', Fr h₀ L h' m → News h₀ L h' ((D, ({ cls := .type "tuple", data := .seq (List.toArray (.str z t :: vs)) n' } : Obj)) :: led) → Q (.ref D) { s with heap := h' }) : wpAny (model prog w) A (binaryOp .Add (.ref a) (.ref b)) Q E s := by
  have ht : IsTup s.heap a #[.str z t] := ⟨_, (N _ h1).1, rfl, n, rfl⟩
  have hb : IsTup s.heap b vs.toArray := by
    obtain ⟨o, e, c, k, d⟩ := h2; exact ⟨o, F.keep _ _ e, c, k, d⟩
  by_cases e : vs = []
  · subst e
    refine kde_addT1 F N ht hb (by simp) (by simp) (by simp) ?_
    exact h a s.heap n F (fun p hp => by
      rcases List.mem_cons.mp hp with rfl | hp
      · exact N _ h1
      · exact N p hp)
  · exact kde_addT F N ht hb (by simp) (by simpa using e) (by simp; omega) (by simp) fun D h' F' N' _ => h D h' 0 F' N'
theorem add_two {v : Value} {ts : Array Value} (F : Fr h₀ L s.heap m) (N : News h₀ L s.heap led) (h1 : (a, ({ cls := .type "tuple", data := .seq (List.toArray (v :: vs)) n } : Obj)) ∈ led) (h2 : (b, ({ cls := .type "tuple", data := .seq ts k } : Obj)) ∈ led) (hz : vs.length ≤ 2) (hn : ts.toList ≠ []) (hs : ts.size ≤ 10)
    (h : ∀ D h' n', Fr h₀ L h' m → News h₀ L h' ((D, ({ cls := .type "tuple", data := .seq (List.toArray (v :: (vs ++ ts.toList))) n' } : Obj)) :: led) → Q (.ref D) { s with heap := h' }) : wpAny (model prog w) A (binaryOp .Add (.ref a) (.ref b)) Q E s := by
  have ht : IsTup s.heap a (List.toArray (v :: vs)) := ⟨_, (N _ h1).1, rfl, n, rfl⟩
  have hb : IsTup s.heap b ts := ⟨_, (N _ h2).1, rfl, k, rfl⟩
  exact kde_addT F N ht hb (by simp) hn (by simp; omega) (by simp) fun D h' F' N' _ => h D h' 0 F' N'
end
theorem who_item' {w : World} {A : Around} {E : Value → Shared → Prop} {s : Shared} {h₀ : Heap} {L : Addr} {m : Str → Option Value} {Q : Value → Shared → Prop} {value slice : Expr} {i : Int} {u : Tok} (F : Fr h₀ L s.heap m) (X : (hd.heap_1 w.params).In h₀) (hi : 0 ≤ i ∧ i < 5) (h : ∀ nm (l : List Value), SafeArgs l (psF i) → IsTup h₀ nm l.toArray → l.length ≤ 2 → ((psF i).map (·.length)).sum ≤ 900 → FreeAll (psF i) → Q (.ref nm) s)
    (hs : ∀ i, subscripted slice false (.ref 707) (.int i u) = operate [.ref 707, .int i u] (getItem (.ref 707) (.int i u)) := by intro _; with_unfolding_all rfl) (hg : ∀ r, letTemporaryGo value (.ref 707) r = pure () := by intro _; with_unfolding_all rfl) :
    wpAny (model row.prog w) A (subscriptTail value slice (.ref 707) (.int i u)) Q E s :=
  who_item F X hi (fun nm ⟨l, a, b, c, d, e⟩ => h nm l a b c d e) hs hg
theorem rows_go {P : Params} {h₀ : Heap} {L R rest cell pt I : Addr} {oc ot it : Obj} {ws : List Value} {n k : Nat} {c : Int} {tc : Tok} {i : Nat} {m' : Str → Option Value} {n8 led : List (Addr × Obj)} {its : Array Value} {rs : List Rw} {v : Value} {h' : Heap} {s₁ : Shared} {Q : Flow → Shared → Prop} {tk : Nat}
    (F : Fr h₀ L h' m') (N' : News h₀ L h' (upd led R (W.listOf (its.push v) (k + 1)))) (T1 : Tr led (upd led R (W.listOf (its.push v) (k + 1)))) (hI : (I, it) ∈ led) (hn : ∀ p ∈ n8, p ∈ led) {r : Rw} (row : RowIn P h₀ led v r) (ok : r.Ok)
    (hc : it.cls = .type "list_iterator") (ho8 : ∀ p ∈ n8, @Ne Nat p.1 I) (hr : (rest, W.listOf ws.toArray n) ∈ n8) (hcell : (cell, oc) ∈ n8) (hne : @Ne Nat rest R ∧ @Ne Nat cell R ∧ @Ne Nat pt R) (hpt : (pt, ot) ∈ n8) (hR : (R, W.listOf its k) ∈ n8) (hi : rs.length = i) (hRI : RowsIn P h₀ n8 its rs) (e1 : m' "rows" = some (.ref R)) (e2 : m' "clock" = some (.int c tc)) :
    LPost h₀ L I it (rows_J P h₀ R rest cell pt oc ot ws n c tc (i + 1)) s₁ Q .next { s₁ with heap := h', toks := tk } := by
  have hRI2 : @Ne Nat R I := ho8 _ hR
  have hRI' : @Ne Nat I R := fun e => hRI2 e.symm
  have hIu : (I, it) ∈ upd led R (W.listOf (its.push v) (k + 1)) := mem_upd' hI hRI'
  have T2 := Tr.off N' hIu (.inl hc)
  have T := T1.trans T2
  refine LPost.go F (newsSub N' fun p hp => ?_) (fun p hp => upd_off hp) ⟨e1, e2, mem_off (mem_upd' (hn _ hr) hne.1) (ho8 _ hr), mem_off (mem_upd' (hn _ hcell) hne.2.1) (ho8 _ hcell), hne, mem_off (mem_upd' (hn _ hpt) hne.2.2) (ho8 _ hpt), its.push v, k + 1, rs ++ [r], mem_off (.head _) hRI2, by rw [List.length_append, hi]; rfl, ?_⟩
  · rcases List.mem_cons.mp hp with rfl | hp
    · exact hIu
    · exact (List.mem_filter.mp hp).1
  · exact ((hRI.mono hn).tr T).push ok (row.tr T)
theorem rows_small {P : Params} {h₀ : Heap} {led : List (Addr × Obj)} {ws : List Value} {its : Array Value} {rs : List Rw} {i : Nat} {v : Value} (h : ws.toArray[i]? = some v) (h6 : ws.length ≤ 6) (hi : rs.length = i) (hR : RowsIn P h₀ led its rs) : its.size ≤ 1000 := by
  have h1 : i < ws.length := by simpa using (Array.getElem?_eq_some_iff.mp h).1
  have h2 := hR.1
  omega
theorem row_ok {k : Wn} {a m : Int} {ns : Str} (h1 : 0 ≤ a ∧ a < 4) (h2 : 0 < m ∧ m < 4) (h3 : ns = "LIMITER" ∨ ns = "api") : Item.Ok ⟨k, a, m, ns⟩ := ⟨⟨h1.1, Int.lt_trans h1.2 (by decide)⟩, ⟨Int.le_of_lt h2.1, Int.lt_trans h2.2 (by decide)⟩, h3⟩
theorem row_ok' {k : Wn} {a m : Int} {ns : Str} {ps : List Str} (h1 : 0 ≤ a ∧ a < 4) (h2 : 0 < m ∧ m < 4) (h3 : ns = "LIMITER" ∨ ns = "api") : Rw.Ok ⟨⟨k, a, m, ns⟩, ps⟩ := ⟨row_ok h1 h2 h3, h1, h2⟩
theorem whole_strs {k : Wn} {a m : Int} {z : Str} {t t1 t2 t3 : Tok} {vs : List Value} {ps : List Str} (h : StrsAre vs ps) : StrsAre (.str z t :: (vs ++ (#[.str (Str.ofString (toString a)) t1, .str (Str.ofString (toString m)) t2, .str k.nm t3] : Array Value).toList)) (Item.parts ⟨k, a, m, z⟩ ps) := by
  unfold Item.parts
  refine .cons _ t ?_
  exact h.append' (.cons _ t1 (.cons _ t2 (.cons _ t3 .nil)))
end Lw
end
section
theorem Lw.lay81 : True := by
  w_top off
  k_with_none
  k_with "ktr_enter" => (refine' code_def ?zk1 ?zk2 ?zk3 ?zk4 ?zk5 ?zkA ?zkF ?zkK ?zk6 ?zk7 ?zk8 ?zk9 ?zkB ?_ ?zc2 ?zc3 ?zc4 ?zc5; (case zkA => exact rfl); (case zkF => exact rfl); (case zkK => first | exact rfl | assumption); (case zk1 => k_asm); (case zk2 => k_asm); (case zk3 => k_asm); (case zk4 => k_asm); (case zk5 => k_asm); (case zk6 => k_is); (case zk7 => k_is); (case zk8 => ktr_room); (case zk9 => first | exact BindsTo.of_eq rfl | exact binds_K (by k_in) rfl (by k_is) rfl rfl rfl); (case zc5 => decide); (case zkB => exact locs rfl); (case zc2 => exact rfl); (case zc3 => exact rfl); (case zc4 => exact rfl); k_whole; intro g' L' h' FG' F' N' B' X' T'; (try dsimp only); (try k_fold))
  k_with "f_raise1" => ((case zB => k_asm); (case zF => k_asm); (case zX => k_asm); (case zN => k_asm); (case zT => k_asm); (case zhk => first | exact rfl | assumption); (case zd => ktr_room); (case zu => ktr_units))
  k_with "f_meansF" => (k_whole; intro t9 h9 tk9 F9 N9; (try dsimp only); (try k_fold))
  k_with "f_raise2" => ((case zF => k_asm); (case zX => k_asm); (case zN => k_asm); (case zI => exact Lw.ItemIn.mono (by assumption) (fun _ h => by (repeat (first | exact h | refine List.Mem.tail _ ?_)))))
  k_with "callWith ref" => (k_here; k_dflt (refine' callWith_K ?zk1 ?zk2 ?_; (case zk1 => k_asm); (case zk2 => k_is); k_whole))
  trivial
/-! two rows of the law against one another -/
namespace Lw
theorem sec_nm (k j : Wn) : (k.sec == j.sec && k.nm == j.nm) = decide (k.ix = j.ix) := by cases k <;> cases j <;> decide +kernel
theorem sec_lt (k j : Wn) : decide (k.sec < j.sec) = decide (k.ix < j.ix) := by cases k <;> cases j <;> decide
noncomputable def Item.nums (it : Item) : List Int := [it.a, it.m, it.k.ix]
theorem eqv_nums (it jt : Item) : it.eqv jt = decide (it.nums = jt.nums) := by
  unfold Item.eqv Item.nums
  rw [sec_nm, Bool.eq_iff_iff]
  simp only [Bool.and_eq_true, beq_iff_eq, decide_eq_true_eq, List.cons.injEq, and_true]
  constructor
  · rintro ⟨a, b, c⟩; exact ⟨a, c, b⟩
  · rintro ⟨a, c, b⟩; exact ⟨a, b, c⟩
section
variable {prog : Program} {w : World} {A : Around} {E : Value → Shared → Prop} {s : Shared} {h₀ : Heap} {L a b : Addr} {led : List (Addr × Obj)} {m : Str → Option Value} {Q : Value → Shared → Prop}
theorem eq_sortK {so so2 : Addr} {it jt : Item} {c : Bool} (N : News h₀ L s.heap led) (I : SortIn led so it) (J : SortIn led so2 jt) (hu : A.units < cLine) (e : it.eqv jt = c) (h : Q (.bool c) s) : wpAny (model prog w) A (compareOp .Eq (.ref so) (.ref so2)) Q E s := by
  obtain ⟨t1, t2, t3, n, h1⟩ := I
  obtain ⟨u1, u2, u3, k, h2⟩ := J
  refine PySem.SeqAt.eq_tupleAt (e := fun j => decide (it.nums[j]? = jt.nums[j]?)) ⟨_, (N _ h1).1, rfl, n, rfl⟩ ⟨_, (N _ h2).1, rfl, k, rfl⟩ hu (fun j a b => ?_) ?_
  · have hj : j < 3 := by simpa using a
    have hd : ∀ x y : Int, decide (some x = some y) = (x == y) := fun x y => by rw [Bool.eq_iff_iff]; simp
    match j, hj with
    | 0, _ => show PySem.SeqAt.EqAt _ _ (.int it.a t1) (.int jt.a u1) (decide (some it.a = some jt.a)); rw [hd]; exact PySem.SeqAt.EqAt.int_int _ _ _ _
    | 1, _ => show PySem.SeqAt.EqAt _ _ (.int it.m t2) (.int jt.m u2) (decide (some it.m = some jt.m)); rw [hd]; exact PySem.SeqAt.EqAt.int_int _ _ _ _
    | 2, _ => show PySem.SeqAt.EqAt _ _ (.int it.k.ix t3) (.int jt.k.ix u3) (decide (some it.k.ix = some jt.k.ix)); rw [hd]; exact PySem.SeqAt.EqAt.int_int _ _ _ _
  · have e2 := all_eq it.nums jt.nums
    rw [← eqv_nums, e] at e2
    have e3 : ((List.range (min (#[Value.int it.a t1, .int it.m t2, .int it.k.ix t3] : Array Value).size (#[Value.int jt.a u1, .int jt.m u2, .int jt.k.ix u3] : Array Value).size)).all (fun j => decide (it.nums[j]? = jt.nums[j]?)) && (#[Value.int it.a t1, .int it.m t2, .int it.k.ix t3] : Array Value).size == (#[Value.int jt.a u1, .int jt.m u2, .int jt.k.ix u3] : Array Value).size) = c := e2
    rw [e3]; exact h
theorem eq_wholeK {ys zs : List Str} {c : Bool} (N : News h₀ L s.heap led) (I : WholeIn led a ys) (J : WholeIn led b zs) (hu : A.units < cLine) (e : decide (ys = zs) = c) (h : Q (.bool c) s) : wpAny (model prog w) A (compareOp .Eq (.ref a) (.ref b)) Q E s := eq_whole N I J hu (by rw [e]; exact h)
theorem lt_known {a b : Int} {c : Bool} {t u : Tok} (e : decide (a < b) = c) (h : Q (.bool c) s) : wpAny (model prog w) A (compareOp .Lt (.int a t) (.int b u)) Q E s := PyProof.Rows.lt_int (e ▸ h)
theorem sort_0 {value slice : Expr} {u : Tok} {so : Addr} {it : Item} (N : News h₀ L s.heap led) (I : SortIn led so it) (h : ∀ t, Q (.int it.a t) s)
    (hs : subscripted slice false (.ref so) (.int 0 u) = operate [.ref so, .int 0 u] (getItem (.ref so) (.int 0 u)) := by with_unfolding_all rfl) (hg : ∀ r, letTemporaryGo value (.ref so) r = pure () := by intro _; with_unfolding_all rfl) :
    wpAny (model prog w) A (subscriptTail value slice (.ref so) (.int 0 u)) Q E s := by
  obtain ⟨t1, t2, t3, n, h1⟩ := I
  exact item_tuple (j := 0) ⟨_, (N _ h1).1, rfl, n, rfl⟩ (by decide) (by decide) rfl rfl (h t1) hs hg
theorem sort_2 {value slice : Expr} {u : Tok} {so : Addr} {it : Item} (N : News h₀ L s.heap led) (I : SortIn led so it) (h : ∀ t, Q (.int it.k.ix t) s)
    (hs : subscripted slice false (.ref so) (.int 2 u) = operate [.ref so, .int 2 u] (getItem (.ref so) (.int 2 u)) := by with_unfolding_all rfl) (hg : ∀ r, letTemporaryGo value (.ref so) r = pure () := by intro _; with_unfolding_all rfl) :
    wpAny (model prog w) A (subscriptTail value slice (.ref so) (.int 2 u)) Q E s := by
  obtain ⟨t1, t2, t3, n, h1⟩ := I
  exact item_tuple (j := 2) ⟨_, (N _ h1).1, rfl, n, rfl⟩ (by decide) (by decide) rfl rfl (h t3) hs hg
end
theorem pair_facts {it jt : Item} {ps qs : List Str} (ho : it.Ok) (hf : FreeAll ps) (hp : jt.Ok) (hq : FreeAll qs) : ∃ b b2 b3, it.eqv jt = b ∧ (it.key ps == jt.key qs) = b2 ∧ decide (it.parts ps = jt.parts qs) = b2 ∧ decide (it.k.sec < jt.k.sec) = b3 ∧ decide (it.k.ix < jt.k.ix) = b3 := by
  refine ⟨_, _, _, rfl, ?_, rfl, sec_lt _ _, rfl⟩
  rw [Bool.eq_iff_iff, beq_iff_eq, decide_eq_true_eq]
  constructor
  · exact key_inj ho hf hp hq
  · intro h; rw [key_join, key_join, h]
theorem row_facts {P : Params} {h₀ : Heap} {led : List (Addr × Obj)} {v : Value} {r : Rw} (ok : r.Ok) (h : RowIn P h₀ led v r) : ∃ (it : Item) (ps : List Str) (tp x so nm wh : Addr) (n : Nat) (l : List Value), r = ⟨it, ps⟩ ∧ v = .ref tp ∧ (tp, ({ cls := .type "tuple", data := .seq #[.ref x, .ref so, .ref nm, .ref wh] n } : Obj)) ∈ led ∧ ItemIn P led x it ∧ SortIn led so it ∧ WholeIn led wh (it.parts ps) ∧
    SafeArgs l ps ∧ IsTup h₀ nm l.toArray ∧ l.length ≤ 2 ∧ (ps.map (·.length)).sum ≤ 900 ∧ (ps.map (·.length)).sum ≤ 1000 ∧ FreeAll ps ∧ it.Ok ∧ (0 ≤ it.a ∧ it.a < 4) ∧ (0 < it.m ∧ it.m < 4) := by
  obtain ⟨it, ps⟩ := r
  obtain ⟨tp, x, so, nm, wh, n, h1, h2, h3, h4, ⟨l, a, b, c, d, e⟩, h6⟩ := h
  exact ⟨it, ps, tp, x, so, nm, wh, n, l, rfl, h1, h2, h3, h4, h6, a, b, c, d, Nat.le_trans d (by decide), e, ok.o, ok.a, ok.m⟩
end Lw
namespace Lw
variable {w : World} {tp : Program} {tl : List Str} {mean : ExcName → Option Value} {mg mb : Str → Option Value} {dp un : Nat} {gd : Option (List Code)} {cn : Str} {cs : Scope} {a : Addr} {ccd : Value} {cl : List (Str × Addr)} {outer : List Env} {A₀ : Around} {base h₀ : Heap} {L : Addr} {m : Str → Option Value} {news : List (Addr × Obj)} {s : Shared} {Q E : Value → Shared → Prop}
theorem q_lt_itK (B : Below A₀ base outer h₀) (F : Fr h₀ L s.heap m) (X : (hd.heap_1 w.params).In h₀) (N : News h₀ L s.heap news) (T : Top tp tl mean mg mb h₀) (hk : cs.kind = .function) (hdp : dp + 2 < recursionLimit) (hun : un + 16 < cLine) {x y : Addr} {it jt : Item} {c : Bool} (I : ItemIn w.params news x it) (J : ItemIn w.params news y jt) (e : decide (it.k.sec < jt.k.sec) = c)
    (hret : ∀ h' tk', Fr h₀ L h' m → News h₀ L h' news → Q (.bool c) { s with heap := h', toks := tk' }) :
    wpAny (model row.prog w) (ktrTop dp un gd cn cs L a ccd cl outer) (compareOp .Lt (.ref x) (.ref y)) Q E s := by
  exact q_lt_it B F X N T hk hdp hun I J (e ▸ hret)
end Lw
namespace Lw
/-- what holds between the turns of the two loops over pairs of rows -/
noncomputable def pair_J (R : Addr) (led : List (Addr × Obj)) (c : Int) (tc : Tok) (_i : Nat) (m' : Str → Option Value) (n' : List (Addr × Obj)) : Prop := n' = led ∧ m' "rows" = some (.ref R) ∧ m' "clock" = some (.int c tc)
noncomputable def pair_J2 (R : Addr) (led : List (Addr × Obj)) (c : Int) (tc : Tok) (x so nm wh : Addr) (_i : Nat) (m' : Str → Option Value) (n' : List (Addr × Obj)) : Prop := n' = led ∧ m' "rows" = some (.ref R) ∧ m' "clock" = some (.int c tc) ∧ m' "one" = some (.ref x) ∧ m' "sort" = some (.ref so) ∧ m' "names" = some (.ref nm) ∧ m' "whole" = some (.ref wh)
end Lw
namespace Lw
theorem pair_hl {R : Addr} {led : List (Addr × Obj)} {c : Int} {tc : Tok} {o : Obj} (h : (R, o) ∈ led) : ∀ i m n', pair_J R led c tc i m n' → (R, o) ∈ n' := fun _ _ _ k => k.1 ▸ h
theorem pair_hl2 {R : Addr} {led : List (Addr × Obj)} {c : Int} {tc : Tok} {x so nm wh : Addr} {o : Obj} (h : (R, o) ∈ led) : ∀ i m n', pair_J2 R led c tc x so nm wh i m n' → (R, o) ∈ n' := fun _ _ _ k => k.1 ▸ h
end Lw
namespace Lw
theorem eq_kn {prog : Program} {w : World} {A : Around} {E Q : Value → Shared → Prop} {s : Shared} {x y : Str} {t t' : Tok} {b : Bool} (h : (x == y) = b) (hq : Q (.bool b) s) : wpAny (model prog w) A (compareOp .Eq (.str x t) (.str y t')) Q E s := eq_str (h.symm ▸ hq)
end Lw
end
section
theorem Lw.lay82 : True := by
  w_top off
  k_with_none
  k_with "ktr_enter" => (refine' code_def ?zk1 ?zk2 ?zk3 ?zk4 ?zk5 ?zkA ?zkF ?zkK ?zk6 ?zk7 ?zk8 ?zk9 ?zkB ?_ ?zc2 ?zc3 ?zc4 ?zc5; (case zkA => exact rfl); (case zkF => exact rfl); (case zkK => first | exact rfl | assumption); (case zk1 => k_asm); (case zk2 => k_asm); (case zk3 => k_asm); (case zk4 => k_asm); (case zk5 => k_asm); (case zk6 => k_is); (case zk7 => k_is); (case zk8 => ktr_room); (case zk9 => first | exact BindsTo.of_eq rfl | exact binds_K (by k_in) rfl (by k_is) rfl rfl rfl); (case zc5 => decide); (case zkB => exact locs rfl); (case zc2 => exact rfl); (case zc3 => exact rfl); (case zc4 => exact rfl); k_whole; intro g' L' h' FG' F' N' B' X' T'; (try dsimp only); (try k_fold))
  k_with "f_raise1" => ((case zB => k_asm); (case zF => k_asm); (case zX => k_asm); (case zN => k_asm); (case zT => k_asm); (case zhk => first | exact rfl | assumption); (case zd => ktr_room); (case zu => ktr_units))
  k_with "f_meansF" => (k_whole; intro t9 h9 tk9 F9 N9; (try dsimp only); (try k_fold))
  k_with "f_raise2" => ((case zF => k_asm); (case zX => k_asm); (case zN => k_asm); (case zI => exact Lw.ItemIn.mono (by assumption) (fun _ h => by (repeat (first | exact h | refine List.Mem.tail _ ?_)))))
  k_with "callWith ref" => (k_here; k_dflt (refine' callWith_K ?zk1 ?zk2 ?_; (case zk1 => k_asm); (case zk2 => k_is); k_whole))
  trivial
namespace Lw
theorem not_std_cell {o : Obj} {v : Option Value} (h : o.data = .cell v) : ¬ Std o := fun a => a.2.2.2.2 _ h
theorem not_std_none {o : Obj} (h : o.cls = .none) : ¬ Std o := fun a => a.2.2.2.1 h
/-- the cell and the table of the text's inner codes ahead of the rows -/
theorem cell_led {P : Params} {h₀ h : Heap} {L R cell pt : Addr} {oc ot : Obj} {v₀ : Option Value} {led : List (Addr × Obj)} {its : Array Value} {k : Nat} {rs : List Rw} (N : News h₀ L h led) (hc : (cell, oc) ∈ led) (hoc : oc.data = .cell v₀) (hp : (pt, ot) ∈ led) (hop : ot.cls = .none) (hcp : @Ne Nat cell pt) {rest : Addr} (hne : @Ne Nat rest R ∧ @Ne Nat cell R ∧ @Ne Nat pt R) (hR : (R, W.listOf its k) ∈ led) (hI : RowsIn P h₀ led its rs) :
    ∃ led0, News h₀ L h ((cell, oc) :: (pt, ot) :: led0) ∧ (∀ p ∈ ((pt, ot) :: led0), p.1 ≠ cell) ∧ (∀ p ∈ led0, p.1 ≠ pt) ∧ (R, W.listOf its k) ∈ led0 ∧ RowsIn P h₀ led0 its rs := by
  have T1 := Tr.offX N hc (not_std_cell hoc)
  have N1 : News h₀ L h (led.filter (fun p => p.1 != cell)) := newsSub N fun p hp => (List.mem_filter.mp hp).1
  have T2 := Tr.offX N1 (mem_off hp fun e => hcp e.symm) (not_std_none hop)
  refine ⟨(led.filter (fun p => p.1 != cell)).filter (fun p => p.1 != pt), newsSub N fun p h => ?_, fun p h => ?_, fun p h => upd_off h, mem_off (mem_off hR fun e => hne.2.1 e.symm) fun e => hne.2.2 e.symm, hI.tr (T1.trans T2)⟩
  · rcases List.mem_cons.mp h with rfl | h
    · exact hc
    · rcases List.mem_cons.mp h with rfl | h
      · exact hp
      · exact (List.mem_filter.mp (List.mem_filter.mp h).1).1
  · rcases List.mem_cons.mp h with rfl | h
    · exact fun e => hcp e.symm
    · exact upd_off (List.mem_filter.mp h).1
theorem st_cell {M : Model} {A : Around} {E : Value → Shared → Prop} {s : Shared} {name : Str} {scope : Scope} {L a : Addr} {cd : Value} {h₀ : Heap} {m : Str → Option Value} {x : Str} {c : Addr} {o : Obj} {v₀ : Option Value} {v : Value} {rest : List (Addr × Obj)} {Q : Unit → Shared → Prop} (F : Fr h₀ L s.heap m) (N : News h₀ L s.heap ((c, o) :: rest))
    (hc : (cellsFrom (L + 1) scope.names []).lookup x = some c) (hd : o.data = .cell v₀) (h2 : ∀ p ∈ rest, p.1 ≠ c)
    (h : ∀ h' o', Fr h₀ L h' m → News h₀ L h' ((c, o') :: rest) → o'.data = .cell (some v) → Q () { s with heap := h' })
    (hk : scope.kind = .function := by rfl) (hl : (envOfC name scope L a cd).kindOf x = some .cell := by rfl) :
    wpAny M A (storeName (envOfC name scope L a cd) x v) Q E s :=
  stCN (own := []) F N hc hd (fun _ h => nomatch h) h2 h hk hl
theorem bindC_none {f : Str → Option NameKind} {o : Obj} {v : Option Value} (h : o.data = .cell v) : ∃ v₀, o.data = .cell v₀ := ⟨_, h⟩
end Lw
end
section
theorem Lw.lay83 : True := by
  w_top off
  k_with_none
  k_with "ktr_enter" => (refine' code_def ?zk1 ?zk2 ?zk3 ?zk4 ?zk5 ?zkA ?zkF ?zkK ?zk6 ?zk7 ?zk8 ?zk9 ?zkB ?_ ?zc2 ?zc3 ?zc4 ?zc5; (case zkA => exact rfl); (case zkF => exact rfl); (case zkK => first | exact rfl | assumption); (case zk1 => k_asm); (case zk2 => k_asm); (case zk3 => k_asm); (case zk4 => k_asm); (case zk5 => k_asm); (case zk6 => k_is); (case zk7 => k_is); (case zk8 => ktr_room); (case zk9 => first | exact BindsTo.of_eq rfl | exact binds_K (by k_in) rfl (by k_is) rfl rfl rfl); (case zc5 => decide); (case zkB => exact locs rfl); (case zc2 => exact rfl); (case zc3 => exact rfl); (case zc4 => exact rfl); k_whole; intro g' L' h' FG' F' N' B' X' T'; (try dsimp only); (try k_fold))
  k_with "f_raise1" => ((case zB => k_asm); (case zF => k_asm); (case zX => k_asm); (case zN => k_asm); (case zT => k_asm); (case zhk => first | exact rfl | assumption); (case zd => ktr_room); (case zu => ktr_units))
  k_with "f_meansF" => (k_whole; intro t9 h9 tk9 F9 N9; (try dsimp only); (try k_fold))
  k_with "f_raise2" => ((case zF => k_asm); (case zX => k_asm); (case zN => k_asm); (case zI => exact Lw.ItemIn.mono (by assumption) (fun _ h => by (repeat (first | exact h | refine List.Mem.tail _ ?_)))))
  k_with "callWith ref" => (k_here; k_dflt (refine' callWith_K ?zk1 ?zk2 ?_; (case zk1 => k_asm); (case zk2 => k_is); k_whole))
  trivial
/-! the store's counts against the hits that were let pass -/
namespace Lw
theorem oft_snoc (gs : List (List Str)) (ys zs : List Str) : oft (gs ++ [ys]) zs = oft gs zs + (if ys = zs then 1 else 0) := by
  unfold oft
  rw [List.countP_append]
  by_cases e : ys = zs <;> simp [e]
theorem oft_nn (gs : List (List Str)) (ys : List Str) : 0 ≤ oft gs ys := Int.natCast_nonneg _
theorem oft_le (gs : List (List Str)) (ys : List Str) : oft gs ys ≤ gs.length := by
  unfold oft; exact Int.ofNat_le.mpr List.countP_le_length
/-- a moment's window, and the one before -/
theorem win_at {now ex : Int} (hx : 0 < ex ∧ ex ≤ 100000000) (hn : 1000000000 ≤ now ∧ now ≤ 3000000000) : ∃ q3 : Int, (ex - now).fdiv ex = q3 ∧ (-9999999999 ≤ q3 ∧ q3 ≤ 1) ∧ now.fdiv ex = (now - ex).fdiv ex + 1 ∧ 0 ≤ (now - ex).fdiv ex ∧ now.fdiv ex ≤ 9999999999 := by
  have h0 : 0 ≤ ex := Int.le_of_lt hx.1
  have hz : ex ≠ 0 := by omega
  have e1 : (now - ex).fdiv ex = now / ex - 1 := by
    rw [Int.fdiv_eq_ediv_of_nonneg _ h0]
    have : now - ex = now + (-1) * ex := by omega
    rw [this, Int.add_mul_ediv_right _ _ hz]; omega
  have e2 : now.fdiv ex = now / ex := Int.fdiv_eq_ediv_of_nonneg _ h0
  have e3 : (ex - now).fdiv ex = (ex - now) / ex := Int.fdiv_eq_ediv_of_nonneg _ h0
  have h1 : 1 ≤ now / ex := (Int.le_ediv_iff_mul_le hx.1).mpr (by omega)
  have h2 : now / ex ≤ now := Int.ediv_le_self _ (by omega)
  have h3 : -9999999999 ≤ (ex - now) / ex := (Int.le_ediv_iff_mul_le hx.1).mpr (by omega)
  have h4 : (ex - now) / ex < 1 := (Int.ediv_lt_iff_lt_mul hx.1).mpr (by omega)
  exact ⟨_, rfl, ⟨by omega, by omega⟩, by omega, by omega, by omega⟩
noncomputable def Item.ex (it : Item) : Int := it.k.sec * it.m
noncomputable def Item.k2 (now : Int) (it : Item) (ps : List Str) : Str := winKey (it.key ps) (now.fdiv it.ex)
noncomputable def Item.k1 (now : Int) (it : Item) (ps : List Str) : Str := winKey (it.key ps) ((now - it.ex).fdiv it.ex)
structure Fit (it : Item) (ps : List Str) : Prop where
  o : it.Ok
  f : FreeAll ps
  m : 0 < it.m ∧ it.m < 4
theorem Fit.ex {it : Item} {ps : List Str} (h : Fit it ps) : 0 < it.ex ∧ it.ex ≤ 100000000 := by
  have := ex_bound h.m (it := it)
  unfold Item.ex; omega
structure Count1 (now : Int) (n : Int) (c e : List (Str × Int)) (it : Item) (ps : List Str) : Prop where
  look : kdpLook c (it.k2 now ps) 0 = n
  none : n = 0 → kdpHas c (it.k2 now ps) = false ∧ kdpHas e (it.k2 now ps) = false ∧ kdpLook e (it.k2 now ps) 0 = 0
  some : n ≠ 0 → kdpLook e (it.k2 now ps) 0 = now + 2 * it.ex
  c1 : kdpLook c (it.k1 now ps) 0 = 0
  e1 : kdpLook e (it.k1 now ps) 0 = 0
  hc : kdpHas c (it.k1 now ps) = false
  he : kdpHas e (it.k1 now ps) = false
/-- every limit's count in the store is how often its whole was let pass -/
noncomputable def Counts (now : Int) (gs : List (List Str)) (c e : List (Str × Int)) : Prop := ∀ it ps, Fit it ps → Count1 now (oft gs (it.parts ps)) c e it ps
theorem Counts.nil (now : Int) : Counts now [] [] [] := fun it ps _ => ⟨rfl, fun _ => ⟨rfl, rfl, rfl⟩, fun h => absurd rfl h, rfl, rfl, rfl, rfl⟩
theorem k2_inj {now : Int} (hn : 1000000000 ≤ now ∧ now ≤ 3000000000) {it jt : Item} {ps qs : List Str} (f : Fit it ps) (g : Fit jt qs) (h : jt.k2 now qs = it.k2 now ps) : jt.parts qs = it.parts ps := by
  obtain ⟨_, _, _, a1, a2, _⟩ := win_at f.ex hn
  obtain ⟨_, _, _, b1, b2, _⟩ := win_at g.ex hn
  exact (win_inj g.o g.f f.o f.f (by omega) (by omega) h).1
theorem k1_ne {now : Int} (hn : 1000000000 ≤ now ∧ now ≤ 3000000000) {it jt : Item} {ps qs : List Str} (f : Fit it ps) (g : Fit jt qs) : jt.k1 now qs ≠ it.k2 now ps := fun h => by
  obtain ⟨_, _, _, a1, a2, _⟩ := win_at f.ex hn
  obtain ⟨_, _, _, b1, b2, _⟩ := win_at g.ex hn
  obtain ⟨e1, e2⟩ := win_inj g.o g.f f.o f.f (by omega) (by omega) h
  obtain ⟨_, _, _, e3, e4⟩ := parts_inj g.o f.o e1
  have e5 : jt.ex = it.ex := by unfold Item.ex; rw [e3, e4]
  rw [e5] at e2 b1
  omega
theorem Counts.put {now : Int} (hn : 1000000000 ≤ now ∧ now ≤ 3000000000) {gs : List (List Str)} {c e e' : List (Str × Int)} (C : Counts now gs c e) {it : Item} {ps : List Str} (f : Fit it ps)
    (he : e' = if oft gs (it.parts ps) = 0 then kdpPut e (it.k2 now ps) (now + 2 * it.ex) else e) : Counts now (gs ++ [it.parts ps]) (kdpPut c (it.k2 now ps) (oft gs (it.parts ps) + 1)) e' := by
  intro jt qs g
  have D := C jt qs g
  have hne := k1_ne hn f g
  have n0 := oft_nn gs (it.parts ps)
  rw [oft_snoc]
  by_cases hp : it.parts ps = jt.parts qs
  · obtain ⟨e1, e2, e3, e4, e5⟩ := parts_inj f.o g.o hp
    have ejt : jt = it := by cases it; cases jt; cases e1; cases e3; cases e4; cases e5; rfl
    subst ejt; subst e2
    rw [if_pos rfl]
    by_cases h0 : oft gs (jt.parts ps) = 0
    · rw [if_pos h0] at he
      subst he
      refine ⟨put_look _ _ _ _, fun h => absurd h (by omega), fun _ => put_look _ _ _ _, ?_, ?_, ?_, ?_⟩
      · rw [put_look_other _ _ _ hne]; exact D.c1
      · rw [put_look_other _ _ _ hne]; exact D.e1
      · rw [put_has_other _ _ hne]; exact D.hc
      · rw [put_has_other _ _ hne]; exact D.he
    · rw [if_neg h0] at he
      subst he
      refine ⟨put_look _ _ _ _, fun h => absurd h (by omega), fun _ => D.some h0, ?_, D.e1, ?_, D.he⟩
      · rw [put_look_other _ _ _ hne]; exact D.c1
      · rw [put_has_other _ _ hne]; exact D.hc
  · have hk : jt.k2 now qs ≠ it.k2 now ps := fun h => hp (k2_inj hn f g h).symm
    rw [if_neg hp, Int.add_zero]
    have q1 : kdpLook (kdpPut c (it.k2 now ps) (oft gs (it.parts ps) + 1)) (jt.k2 now qs) 0 = kdpLook c (jt.k2 now qs) 0 := put_look_other _ _ _ hk
    have q2 : kdpHas (kdpPut c (it.k2 now ps) (oft gs (it.parts ps) + 1)) (jt.k2 now qs) = kdpHas c (jt.k2 now qs) := put_has_other _ _ hk
    have q3 : kdpLook (kdpPut c (it.k2 now ps) (oft gs (it.parts ps) + 1)) (jt.k1 now qs) 0 = kdpLook c (jt.k1 now qs) 0 := put_look_other _ _ _ hne
    have q4 : kdpHas (kdpPut c (it.k2 now ps) (oft gs (it.parts ps) + 1)) (jt.k1 now qs) = kdpHas c (jt.k1 now qs) := put_has_other _ _ hne
    have r : kdpLook e' (jt.k2 now qs) 0 = kdpLook e (jt.k2 now qs) 0 ∧ kdpHas e' (jt.k2 now qs) = kdpHas e (jt.k2 now qs) ∧ kdpLook e' (jt.k1 now qs) 0 = kdpLook e (jt.k1 now qs) 0 ∧ kdpHas e' (jt.k1 now qs) = kdpHas e (jt.k1 now qs) := by
      rw [he]
      split
      · exact ⟨put_look_other _ _ _ hk, put_has_other _ _ hk, put_look_other _ _ _ hne, put_has_other _ _ hne⟩
      · exact ⟨rfl, rfl, rfl, rfl⟩
    obtain ⟨r1, r2, r3, r4⟩ := r
    refine ⟨by rw [q1]; exact D.look, fun h => ?_, fun h => by rw [r1]; exact D.some h, by rw [q3]; exact D.c1, by rw [r3]; exact D.e1, by rw [q4]; exact D.hc, by rw [r4]; exact D.he⟩
    obtain ⟨d1, d2, d3⟩ := D.none h
    exact ⟨by rw [q2]; exact d1, by rw [r2]; exact d2, by rw [r1]; exact d3⟩
/-- what a hit makes of the counts -/
theorem Counts.hit {now : Int} (hn : 1000000000 ≤ now ∧ now ≤ 3000000000) {gs : List (List Str)} {c e c' e' : List (Str × Int)} {b : Bool} (C : Counts now gs c e) {it : Item} {ps : List Str} (f : Fit it ps)
    (H : Hitted (oft gs (it.parts ps)) it.a now it.ex (it.k2 now ps) c e b c' e') : b = decide (oft gs (it.parts ps) < it.a) ∧ Counts now (if b = true then gs ++ [it.parts ps] else gs) c' e' ∧ c'.length ≤ c.length + 1 ∧ e'.length ≤ e.length + 1 := by
  rcases H with ⟨h1, rfl, rfl, rfl⟩ | ⟨h1, rfl, rfl, h4⟩
  · exact ⟨(decide_eq_false (by omega)).symm, by simpa using C, Nat.le_succ _, Nat.le_succ _⟩
  · refine ⟨(decide_eq_true (by omega)).symm, by simpa using C.put hn f h4, kdpPut_len _ _ _, ?_⟩
    rw [h4]
    split
    · exact kdpPut_len _ _ _
    · exact Nat.le_succ _
theorem Count1.old2 {now n : Int} {c e : List (Str × Int)} {it : Item} {ps : List Str} (D : Count1 now n c e it ps) (hn : 0 ≤ now) (hx : 0 < it.ex) : Old now (kdpLook e (it.k2 now ps) 0) c e (it.k2 now ps) := by
  by_cases h : n = 0
  · obtain ⟨a, b, d⟩ := D.none h
    exact .inr ⟨d, hn, b, a⟩
  · rw [D.some h]; exact .inl (by omega)
theorem Count1.old1 {now n : Int} {c e : List (Str × Int)} {it : Item} {ps : List Str} (D : Count1 now n c e it ps) (hn : 0 ≤ now) : Old now 0 c e (it.k1 now ps) := .inr ⟨rfl, hn, D.he, D.hc⟩
end Lw
end
section
theorem Lw.lay84 : True := by
  w_top off
  k_with_none
  k_with "ktr_enter" => (refine' code_def ?zk1 ?zk2 ?zk3 ?zk4 ?zk5 ?zkA ?zkF ?zkK ?zk6 ?zk7 ?zk8 ?zk9 ?zkB ?_ ?zc2 ?zc3 ?zc4 ?zc5; (case zkA => exact rfl); (case zkF => exact rfl); (case zkK => first | exact rfl | assumption); (case zk1 => k_asm); (case zk2 => k_asm); (case zk3 => k_asm); (case zk4 => k_asm); (case zk5 => k_asm); (case zk6 => k_is); (case zk7 => k_is); (case zk8 => ktr_room); (case zk9 => first | exact BindsTo.of_eq rfl | exact binds_K (by k_in) rfl (by k_is) rfl rfl rfl); (case zc5 => decide); (case zkB => exact locs rfl); (case zc2 => exact rfl); (case zc3 => exact rfl); (case zc4 => exact rfl); k_whole; intro g' L' h' FG' F' N' B' X' T'; (try dsimp only); (try k_fold))
  k_with "f_raise1" => ((case zB => k_asm); (case zF => k_asm); (case zX => k_asm); (case zN => k_asm); (case zT => k_asm); (case zhk => first | exact rfl | assumption); (case zd => ktr_room); (case zu => ktr_units))
  k_with "f_meansF" => (k_whole; intro t9 h9 tk9 F9 N9; (try dsimp only); (try k_fold))
  k_with "f_raise2" => ((case zF => k_asm); (case zX => k_asm); (case zN => k_asm); (case zI => exact Lw.ItemIn.mono (by assumption) (fun _ h => by (repeat (first | exact h | refine List.Mem.tail _ ?_)))))
  k_with "callWith ref" => (k_here; k_dflt (refine' callWith_K ?zk1 ?zk2 ?_; (case zk1 => k_asm); (case zk2 => k_is); k_whole))
  trivial
namespace Lw
variable {w : World} {tp : Program} {tl : List Str} {mean : ExcName → Option Value} {mg mb : Str → Option Value} {dp un : Nat} {gd : Option (List Code)} {cn : Str} {cs : Scope} {a : Addr} {ccd : Value} {cl : List (Str × Addr)} {outer : List Env} {A₀ : Around} {base h₀ : Heap} {L : Addr} {m : Str → Option Value} {news : List (Addr × Obj)} {s : Shared} {Q E : Value → Shared → Prop}
theorem c_hitK {st clk dS dE lm nm x : Addr} {it : Item} {l : List Value} {ps : List Str} {now : Int} {c e : List (Str × Int)} {gs : List (List Str)} {oS oE : Obj} {b : Bool} (B : Below A₀ base outer h₀) (F : Fr h₀ L s.heap m) (X : (hd.heap_1 w.params).In h₀) (N : News h₀ L s.heap ((dS, oS) :: (dE, oE) :: news)) (T : Top tp tl mean mg mb h₀) (hk : cs.kind = .function) (hdp : dp + 9 < recursionLimit) (hun : un + 72 < cLine) (LI : LimIn w.params news lm st) (SI : StoreIn w.params news st clk dS dE) (J : ClockIn news clk now) (I : ItemIn w.params news x it) (ho : it.Ok) (ha : 0 ≤ it.a ∧ it.a < 4) (hm : 0 < it.m ∧ it.m < 4) (hS : SafeArgs l ps) (hT : IsTup h₀ nm l.toArray) (hl : l.length ≤ 2) (hp : (ps.map (·.length)).sum ≤ 900) (hf : FreeAll ps) (hn : 1000000000 ≤ now ∧ now ≤ 3000000000) (hgl : gs.length ≤ 100) (C : Counts now gs c e) (hoS : ∀ p ∈ news, p.1 ≠ dS) (hoE : ∀ p ∈ news, p.1 ≠ dE) (hne : @Ne Nat dS dE) (lS : (dS == sysModules) = false) (lE : (dE == sysModules) = false) (TS : TabO w oS c) (TE : TabO w oE e) (hcl : c.length ≤ 100) (hel : e.length ≤ 100) (hb : decide (oft gs (it.parts ps) < it.a) = b)
    (hret : ∀ oS' oE' c' e' h' tk', Fr h₀ L h' m → News h₀ L h' ((dS, oS') :: (dE, oE') :: news) → TabO w oS' c' → TabO w oE' e' → Counts now (if b = true then gs ++ [it.parts ps] else gs) c' e' → c'.length ≤ c.length + 1 → e'.length ≤ e.length + 1 → Q (.bool b) { s with heap := h', toks := tk' }) :
    wpAny (model row.prog w) (ktrTop dp un gd cn cs L a ccd cl outer) (call (.ref 665) [.ref lm, .ref x, .ref nm]) Q E s := by
  have f : Fit it ps := ⟨ho, hf, hm⟩
  have D := C it ps f
  have hx := f.ex
  obtain ⟨q3, g3, g3', g2, g1, g4⟩ := win_at hx hn
  have o1' := D.old1 (Int.le_trans (by decide : (0 : Int) ≤ 1000000000) hn.1)
  have o2' := D.old2 (Int.le_trans (by decide : (0 : Int) ≤ 1000000000) hn.1) hx.1
  have dl := D.look
  have d1 := D.e1
  have d2 := D.c1
  have k1e : it.k1 now ps = winKey (it.key ps) ((now - it.ex).fdiv it.ex) := rfl
  have k2e : it.k2 now ps = winKey (it.key ps) (now.fdiv it.ex) := rfl
  rw [k1e] at o1' d1 d2
  rw [k2e] at o2' dl
  clear D
  generalize hq1 : (now - it.ex).fdiv it.ex = q1 at g2 g1 k1e o1' d1 d2
  generalize hq2 : now.fdiv it.ex = q2 at g2 g4 k2e o2' dl
  have hp10 : (ps.map (·.length)).sum ≤ 1000 := Nat.le_trans hp (by decide)
  have hkl := key_short ho hS hl hp
  have o0 := oft_nn gs (it.parts ps)
  have o1 : oft gs (it.parts ps) ≤ 100 := by have := oft_le gs (it.parts ps); omega
  exact c_hit B F X N T hk hdp hun LI SI J I ho ⟨ho.m.1, ho.m.2⟩ hS hT hl hp10 (rfl : it.k.sec * it.m = it.ex) hoS hoE hne lS lE TS TE hkl hx ⟨by omega, by omega⟩ hq1 hq2 g3 ⟨by omega, by omega⟩ ⟨by omega, by omega⟩ g3' (Int.le_trans hx.2 (Int.le_trans (by decide) hn.1)) (by rw [Int.mul_zero]; exact Int.zero_fdiv _) d1 d2 o1' rfl dl o2' ⟨o0, o1⟩ ⟨by omega, by omega⟩ (by omega) (by omega) fun b' oS' oE' c' e' h' tk' F' N' TS' TE' H => by
    rw [← k2e] at H
    obtain ⟨e1, e2, e3, e4⟩ := C.hit hn f H
    rw [hb] at e1
    subst e1
    exact hret oS' oE' c' e' h' tk' F' N' TS' TE' e2 e3 e4
theorem c_statsK (B : Below A₀ base outer h₀) (F : Fr h₀ L s.heap m) (X : (hd.heap_1 w.params).In h₀) (N : News h₀ L s.heap news) (T : Top tp tl mean mg mb h₀) (hk : cs.kind = .function) (hdp : dp + 9 < recursionLimit) (hun : un + 72 < cLine) {st clk dS dE lm nm x : Addr} {it : Item} {l : List Value} {ps : List Str} {now : Int} {c e : List (Str × Int)} {gs : List (List Str)} (LI : LimIn w.params news lm st) (SI : StoreIn w.params news st clk dS dE) (J : ClockIn news clk now) (I : ItemIn w.params news x it) (ho : it.Ok) (ha : 0 ≤ it.a ∧ it.a < 4) (hm : 0 < it.m ∧ it.m < 4) (hS : SafeArgs l ps) (hT : IsTup h₀ nm l.toArray) (hl : l.length ≤ 2) (hp : (ps.map (·.length)).sum ≤ 900) (hf : FreeAll ps) (hn : 1000000000 ≤ now ∧ now ≤ 3000000000) (hgl : gs.length ≤ 100) (C : Counts now gs c e) (TS : TabIn w news dS c) (TE : TabIn w news dE e) (hlim : oft gs (it.parts ps) ≤ it.a)
    (hret : ∀ D r dx u h' tk', Fr h₀ L h' m → News h₀ L h' ((D, statsObj r (it.a - oft gs (it.parts ps)) dx u) :: (dx, emptyDict) :: news) → (∀ p ∈ news, p.1 < dx) → dx < D → Q (.ref D) { s with heap := h', toks := tk' }) :
    wpAny (model row.prog w) (ktrTop dp un gd cn cs L a ccd cl outer) (call (.ref 683) [.ref lm, .ref x, .ref nm]) Q E s := by
  have f : Fit it ps := ⟨ho, hf, hm⟩
  have D := C it ps f
  have hx := f.ex
  obtain ⟨q3, g3, g3', g2, g1, g4⟩ := win_at hx hn
  have o1' := D.old1 (Int.le_trans (by decide : (0 : Int) ≤ 1000000000) hn.1)
  have o2' := D.old2 (Int.le_trans (by decide : (0 : Int) ≤ 1000000000) hn.1) hx.1
  have dl := D.look
  have d1 := D.e1
  have d2 := D.c1
  have k1e : it.k1 now ps = winKey (it.key ps) ((now - it.ex).fdiv it.ex) := rfl
  have k2e : it.k2 now ps = winKey (it.key ps) (now.fdiv it.ex) := rfl
  rw [k1e] at o1' d1 d2
  rw [k2e] at o2' dl
  clear D
  generalize hq1 : (now - it.ex).fdiv it.ex = q1 at g2 g1 k1e o1' d1 d2
  generalize hq2 : now.fdiv it.ex = q2 at g2 g4 k2e o2' dl
  have hp10 : (ps.map (·.length)).sum ≤ 1000 := Nat.le_trans hp (by decide)
  have hkl := key_short ho hS hl hp
  have o0 := oft_nn gs (it.parts ps)
  have o1 : oft gs (it.parts ps) ≤ 100 := by have := oft_le gs (it.parts ps); omega
  exact c_stats B F X N T hk hdp hun LI SI J I ho ⟨ho.m.1, ho.m.2⟩ hS hT hl hp10 (rfl : it.k.sec * it.m = it.ex) TS TE hkl hx ⟨by omega, by omega⟩ hq1 hq2 g3 ⟨by omega, by omega⟩ ⟨by omega, by omega⟩ g3' (Int.le_trans hx.2 (Int.le_trans (by decide) hn.1)) (by rw [Int.mul_zero]; exact Int.zero_fdiv _) d1 d2 o1' rfl dl o2' ⟨o0, o1⟩ ⟨hlim, by omega⟩ hret
theorem c_parseK (B : Below A₀ base outer h₀) (F : Fr h₀ L s.heap m) (X : (hd.heap_1 w.params).In h₀) (N : News h₀ L s.heap news) (T : Top tp tl mean mg mb h₀) (hk : cs.kind = .function) (hdp : dp + 8 < recursionLimit) (hun : un + 64 < cLine) {it : Item} {t : Tok} (ho : it.Ok) (ha : 0 ≤ it.a ∧ it.a < 4) (hm : 0 < it.m ∧ it.m < 4)
    (hret : ∀ x dx h' tk' ox od, Fr h₀ L h' m → News h₀ L h' ((x, ox) :: (dx, od) :: news) → (∀ l, ItemIn w.params ((x, ox) :: (dx, od) :: l) x ⟨it.k, it.a, it.m, "LIMITER"⟩) → (∀ p ∈ news, p.1 < dx) → dx < x → Q (.ref x) { s with heap := h', toks := tk' }) :
    wpAny (model row.prog w) (ktrTop dp un gd cn cs L a ccd cl outer) (call (.ref 605) [.str it.show t]) Q E s := by
  obtain ⟨r1, r2, r3, r4, r5, r6, r7, r8, hr1, hr2, hr3, hr4, hr5⟩ := rd_show ha ⟨Int.le_of_lt hm.1, hm.2⟩
  exact c_parse B F X N T hk hdp hun (show_len ho) hr1 hr2 hr3 hr4 hr5 ho.a ⟨hm.1, ho.m.2⟩ (Nat.le_trans (Wn_len it.k) (by decide)) (nm_says it.k) fun x dx t1 t2 t3 t4 t5 t6 h' tk' F' N' l1 l2 => hret x dx h' tk' _ _ F' N' (fun l => ⟨dx, t1, t2, t3, t4, t5, t6, .head _, .tail _ (.head _)⟩) l1 l2
section
variable {prog : Program} {w : World} {A : Around} {E : Value → Shared → Prop} {s : Shared} {h₀ : Heap} {L R a : Addr} {m : Str → Option Value} {led : List (Addr × Obj)} {Q : Value → Shared → Prop} {its : Array Value} {k : Nat}
theorem row_at {value slice : Expr} {i : Int} {j : Nat} {u : Tok} {v : Value} (N : News h₀ L s.heap led) (hR : (R, W.listOf its k) ∈ led) (e : i = (j : Nat)) (hj : j < 1000) (hv : its[j]? = some v) (h : Q v s)
    (hs : ∀ i, subscripted slice false (.ref R) (.int i u) = operate [.ref R, .int i u] (getItem (.ref R) (.int i u)) := by intro _; with_unfolding_all rfl) (hg : ∀ r, letTemporaryGo value (.ref R) r = pure () := by intro _; with_unfolding_all rfl) :
    wpAny (model prog w) A (subscriptTail value slice (.ref R) (.int i u)) Q E s := by
  subst e
  exact item_list (l := R) (items := its) ⟨_, (N _ hR).1, rfl, k, rfl⟩ (Int.natCast_nonneg _) (by omega) (by simpa using hv) h (hs _) hg
theorem whole_0 {value slice : Expr} {u : Tok} {it : Item} {ps : List Str} (N : News h₀ L s.heap led) (I : WholeIn led a (it.parts ps)) (h : ∀ t, Q (.str it.ns t) s)
    (hs : subscripted slice false (.ref a) (.int 0 u) = operate [.ref a, .int 0 u] (getItem (.ref a) (.int 0 u)) := by with_unfolding_all rfl) (hg : ∀ r, letTemporaryGo value (.ref a) r = pure () := by intro _; with_unfolding_all rfl) :
    wpAny (model prog w) A (subscriptTail value slice (.ref a) (.int 0 u)) Q E s := by
  obtain ⟨ws, wn, hwm, hws⟩ := I
  unfold Item.parts at hws
  obtain ⟨tw, wr, rfl, hwr⟩ := strs_cons hws
  exact item_first N hwm (h tw) hs hg
theorem len_in (N : News h₀ L s.heap led) (hR : (R, W.listOf its k) ∈ led) (hz : its.size ≤ 1000) (h : ∀ t tk, Q (.int its.size t) { s with toks := tk }) : wpAny (model prog w) A (call (.builtin "len") [.ref R]) Q E s :=
  call_len_list ⟨_, (N _ hR).1, rfl, k, rfl⟩ (by omega) (h _ _)
end
end Lw
end
section
theorem Lw.lay85 : True := by
  w_top off
  k_with_none
  k_with "ktr_enter" => (refine' code_def ?zk1 ?zk2 ?zk3 ?zk4 ?zk5 ?zkA ?zkF ?zkK ?zk6 ?zk7 ?zk8 ?zk9 ?zkB ?_ ?zc2 ?zc3 ?zc4 ?zc5; (case zkA => exact rfl); (case zkF => exact rfl); (case zkK => first | exact rfl | assumption); (case zk1 => k_asm); (case zk2 => k_asm); (case zk3 => k_asm); (case zk4 => k_asm); (case zk5 => k_asm); (case zk6 => k_is); (case zk7 => k_is); (case zk8 => ktr_room); (case zk9 => first | exact BindsTo.of_eq rfl | exact binds_K (by k_in) rfl (by k_is) rfl rfl rfl); (case zc5 => decide); (case zkB => exact locs rfl); (case zc2 => exact rfl); (case zc3 => exact rfl); (case zc4 => exact rfl); k_whole; intro g' L' h' FG' F' N' B' X' T'; (try dsimp only); (try k_fold))
  k_with "f_raise1" => ((case zB => k_asm); (case zF => k_asm); (case zX => k_asm); (case zN => k_asm); (case zT => k_asm); (case zhk => first | exact rfl | assumption); (case zd => ktr_room); (case zu => ktr_units))
  k_with "f_meansF" => (k_whole; intro t9 h9 tk9 F9 N9; (try dsimp only); (try k_fold))
  k_with "f_raise2" => ((case zF => k_asm); (case zX => k_asm); (case zN => k_asm); (case zI => exact Lw.ItemIn.mono (by assumption) (fun _ h => by (repeat (first | exact h | refine List.Mem.tail _ ?_)))))
  k_with "callWith ref" => (k_here; k_dflt (refine' callWith_K ?zk1 ?zk2 ?_; (case zk1 => k_asm); (case zk2 => k_is); k_whole))
  trivial
/-! the loop of hits: what stands fast, and what holds between its turns -/
namespace Lw
/-- no limit's hits are more than its amount -/
noncomputable def Lim (gs : List (List Str)) : Prop := ∀ it ps, Fit it ps → oft gs (it.parts ps) ≤ it.a
theorem Lim.nil : Lim [] := fun _ _ f => f.o.a.1
theorem Lim.put {gs : List (List Str)} (H : Lim gs) {it : Item} {ps : List Str} (f : Fit it ps) {b : Bool} (h : decide (oft gs (it.parts ps) < it.a) = b) : Lim (if b = true then gs ++ [it.parts ps] else gs) := by
  cases b with
  | false => simpa using H
  | true =>
    have h' := of_decide_eq_true h
    simp only [if_true]
    intro jt qs g
    rw [oft_snoc]
    by_cases e : it.parts ps = jt.parts qs
    · rw [if_pos e, ← e, ← (parts_inj f.o g.o e).2.2.1]; omega
    · rw [if_neg e]; have := H jt qs g; omega
structure HitC (w : World) (h₀ : Heap) (lm st clk dS dE G R : Addr) (ledC : List (Addr × Obj)) (now : Int) (its : Array Value) (k : Nat) (rs : List Rw) : Prop where
  LI : LimIn w.params ledC lm st
  SI : StoreIn w.params ledC st clk dS dE
  CK : ClockIn ledC clk now
  hR : (R, W.listOf its k) ∈ ledC
  RI : RowsIn w.params h₀ ledC its rs
  oS : ∀ p ∈ ledC, @Ne Nat p.1 dS
  oE : ∀ p ∈ ledC, @Ne Nat p.1 dE
  oG : ∀ p ∈ ledC, @Ne Nat p.1 G
  n1 : @Ne Nat dS dE
  n2 : @Ne Nat dS G
  n3 : @Ne Nat dE G
  lS : (dS == sysModules) = false
  lE : (dE == sysModules) = false
  hn : 1000000000 ≤ now ∧ now ≤ 3000000000
  hz : its.size ≤ 6
  GT : ∃ ps : Array Value, ((736 : Nat), tabObj ps) ∈ ledC
noncomputable def hit_J (w : World) (lm dS dE G R : Addr) (ledC : List (Addr × Obj)) (now : Int) (i : Nat) (m' : Str → Option Value) (n' : List (Addr × Obj)) : Prop :=
  m' "rows" = some (.ref R) ∧ m' "limiter" = some (.ref lm) ∧ m' "gone" = some (.ref G) ∧ ∃ oS oE c e its k gs, n' = (dS, oS) :: (dE, oE) :: (G, W.listOf its k) :: ledC ∧ TabO w oS c ∧ TabO w oE e ∧ GoneAt ledC its gs ∧ gs.length ≤ i ∧ c.length ≤ i ∧ e.length ≤ i ∧ Counts now gs c e ∧ Lim gs
theorem off3 {a b c I : Addr} {x y z x' y' z' : Obj} {l : List (Addr × Obj)} (h : ∀ p ∈ (a, x) :: (b, y) :: (c, z) :: l, p.1 ≠ I) : ∀ p ∈ (a, x') :: (b, y') :: (c, z') :: l, p.1 ≠ I := fun p hp => by
  rcases List.mem_cons.mp hp with rfl | hp
  · exact h (a, x) (.head _)
  · rcases List.mem_cons.mp hp with rfl | hp
    · exact h (b, y) (.tail _ (.head _))
    · rcases List.mem_cons.mp hp with rfl | hp
      · exact h (c, z) (.tail _ (.tail _ (.head _)))
      · exact h p (.tail _ (.tail _ (.tail _ hp)))
theorem mod_of {c : Int} {x : Option Value} {t : Tok} (_ : x = some (.int c t)) : ∃ q, c.fmod 1000000007 = q ∧ 0 ≤ q ∧ q < 1000000007 := ⟨_, rfl, Int.fmod_nonneg_of_pos _ (by decide), Int.fmod_lt_of_pos _ (by decide)⟩
theorem hit_0 {w : World} {h₀ h : Heap} {L G lm dl dV dE dS st dst f c' cell R : Addr} {oV oE oS oc o9 : Obj} {tps : Array Value} {led0 : List (Addr × Obj)} {t t1 t2 t3 t4 t5 tm : Tok} {rits : Array Value} {rk : Nat} {rs : List Rw} {qual : Str} {pos : Pos} {pm ctv : Value} {vs : Array Value} {now : Int} {P1 P2 : Prop} {m : Str → Option Value}
    (F : Fr h₀ L h (fun y => if y = Str.ofString "gone" then some (.ref G) else if y = Str.ofString "limiter" then some (.ref lm) else m y))
    (N : News h₀ L h ((G, W.listOf #[] 0) :: (lm, instObj 695 dl) :: (dl, limD w.params st t) :: (dV, oV) :: (dE, oE) :: (dS, oS) :: (st, instObj 454 dst) :: (dst, storeD w.params f dS dE dV t1 t2 t3 t4) :: (f, kla_obj "<lambda>" qual lamArgs (.Name "moment" pos) lamScope [("moment", cell)] pm c' ctv) :: (c', oc) :: (cell, o9) :: (736, tabObj tps) :: led0))
    (lS : @LT.lt Nat _ st dS ∧ @LT.lt Nat _ dst dS ∧ @LT.lt Nat _ f dS ∧ @LT.lt Nat _ c' dS ∧ @LT.lt Nat _ cell dS ∧ @LT.lt Nat _ 736 dS ∧ AllLt dS led0)
    (lE : @LT.lt Nat _ dS dE ∧ @LT.lt Nat _ st dE ∧ @LT.lt Nat _ dst dE ∧ @LT.lt Nat _ f dE ∧ @LT.lt Nat _ c' dE ∧ @LT.lt Nat _ cell dE ∧ @LT.lt Nat _ 736 dE ∧ AllLt dE led0)
    (lV : @LT.lt Nat _ dE dV ∧ @LT.lt Nat _ dS dV ∧ P1) (lL : @LT.lt Nat _ dV dl ∧ @LT.lt Nat _ dE dl ∧ @LT.lt Nat _ dS dl ∧ P2) (lM : @LT.lt Nat _ dl lm)
    (lG : @LT.lt Nat _ lm G ∧ @LT.lt Nat _ dl G ∧ @LT.lt Nat _ dV G ∧ @LT.lt Nat _ dE G ∧ @LT.lt Nat _ dS G ∧ @LT.lt Nat _ st G ∧ @LT.lt Nat _ dst G ∧ @LT.lt Nat _ f G ∧ @LT.lt Nat _ c' G ∧ @LT.lt Nat _ cell G ∧ @LT.lt Nat _ 736 G ∧ AllLt G led0)
    (sS : (dS == sysModules) = false) (sE : (dE == sysModules) = false) (kS : oS.IsDictOf (PySem.strKind row.prog w) []) (kE : oE.IsDictOf (PySem.strKind row.prog w) [])
    (hoc : oc.data = .fields vs) (hvs : vs[1]? = some (.str qual t5)) (ho9 : o9.data = .cell (some (.int now tm))) (hR : (R, W.listOf rits rk) ∈ led0) (RI : RowsIn w.params h₀ led0 rits rs) (hn : 1000000000 ≤ now ∧ now ≤ 3000000000) (hz : rits.size ≤ 6) (f_rows : m "rows" = some (.ref R)) :
    ∃ ledC, HitC w h₀ lm st f dS dE G R ledC now rits rk rs ∧ News h₀ L h ((dS, oS) :: (dE, oE) :: (G, W.listOf #[] 0) :: ledC) ∧ hit_J w lm dS dE G R ledC now 0 (fun y => if y = Str.ofString "gone" then some (.ref G) else if y = Str.ofString "limiter" then some (.ref lm) else m y) ((dS, oS) :: (dE, oE) :: (G, W.listOf #[] 0) :: ledC) := by
  obtain ⟨a1, a2, a3, a4, a5, a6, a7⟩ := lS
  obtain ⟨b0, b1, b2, b3, b4, b5, b6, b7⟩ := lE
  obtain ⟨d1, d2, _⟩ := lV
  obtain ⟨e1, e2, e3, _⟩ := lL
  obtain ⟨g1, g2, g3, g4, g5, g6, g7, g8, g9, g10, g11, g12⟩ := lG
  have sub : ∀ p ∈ led0, p ∈ ((lm, instObj 695 dl) :: (dl, limD w.params st t) :: (dV, oV) :: (st, instObj 454 dst) :: (dst, storeD w.params f dS dE dV t1 t2 t3 t4) :: (f, kla_obj "<lambda>" qual lamArgs (.Name "moment" pos) lamScope [("moment", cell)] pm c' ctv) :: (c', oc) :: (cell, o9) :: (736, tabObj tps) :: led0) := fun p hp => .tail _ (.tail _ (.tail _ (.tail _ (.tail _ (.tail _ (.tail _ (.tail _ (.tail _ hp))))))))
  refine ⟨(lm, instObj 695 dl) :: (dl, limD w.params st t) :: (dV, oV) :: (st, instObj 454 dst) :: (dst, storeD w.params f dS dE dV t1 t2 t3 t4) :: (f, kla_obj "<lambda>" qual lamArgs (.Name "moment" pos) lamScope [("moment", cell)] pm c' ctv) :: (c', oc) :: (cell, o9) :: (736, tabObj tps) :: led0, ⟨⟨dl, t, .head _, .tail _ (.head _)⟩, ⟨dst, dV, t1, t2, t3, t4, .tail _ (.tail _ (.tail _ (.head _))), .tail _ (.tail _ (.tail _ (.tail _ (.head _))))⟩,
    ⟨qual, pm, ctv, c', oc, vs, t5, cell, o9, tm, pos, .tail _ (.tail _ (.tail _ (.tail _ (.tail _ (.head _))))), .tail _ (.tail _ (.tail _ (.tail _ (.tail _ (.tail _ (.head _)))))), hoc, hvs, .tail _ (.tail _ (.tail _ (.tail _ (.tail _ (.tail _ (.tail _ (.head _))))))), ho9⟩, sub _ hR, RI.mono sub, ?_, ?_, ?_, Nat.ne_of_lt b0, Nat.ne_of_lt g5, Nat.ne_of_lt g4, sS, sE, hn, hz, ⟨tps, .tail _ (.tail _ (.tail _ (.tail _ (.tail _ (.tail _ (.tail _ (.tail _ (.head _))))))))⟩⟩, ?_, ?_⟩
  · exact List.forall_mem_cons.mpr ⟨Nat.ne_of_gt (Nat.lt_trans e3 lM), List.forall_mem_cons.mpr ⟨Nat.ne_of_gt e3, List.forall_mem_cons.mpr ⟨Nat.ne_of_gt d2, List.forall_mem_cons.mpr ⟨Nat.ne_of_lt a1, List.forall_mem_cons.mpr ⟨Nat.ne_of_lt a2, List.forall_mem_cons.mpr ⟨Nat.ne_of_lt a3, List.forall_mem_cons.mpr ⟨Nat.ne_of_lt a4, List.forall_mem_cons.mpr ⟨Nat.ne_of_lt a5, List.forall_mem_cons.mpr ⟨Nat.ne_of_lt a6, allLt_ne _ a7⟩⟩⟩⟩⟩⟩⟩⟩⟩
  · exact List.forall_mem_cons.mpr ⟨Nat.ne_of_gt (Nat.lt_trans e2 lM), List.forall_mem_cons.mpr ⟨Nat.ne_of_gt e2, List.forall_mem_cons.mpr ⟨Nat.ne_of_gt d1, List.forall_mem_cons.mpr ⟨Nat.ne_of_lt b1, List.forall_mem_cons.mpr ⟨Nat.ne_of_lt b2, List.forall_mem_cons.mpr ⟨Nat.ne_of_lt b3, List.forall_mem_cons.mpr ⟨Nat.ne_of_lt b4, List.forall_mem_cons.mpr ⟨Nat.ne_of_lt b5, List.forall_mem_cons.mpr ⟨Nat.ne_of_lt b6, allLt_ne _ b7⟩⟩⟩⟩⟩⟩⟩⟩⟩
  · exact List.forall_mem_cons.mpr ⟨Nat.ne_of_lt g1, List.forall_mem_cons.mpr ⟨Nat.ne_of_lt g2, List.forall_mem_cons.mpr ⟨Nat.ne_of_lt g3, List.forall_mem_cons.mpr ⟨Nat.ne_of_lt g6, List.forall_mem_cons.mpr ⟨Nat.ne_of_lt g7, List.forall_mem_cons.mpr ⟨Nat.ne_of_lt g8, List.forall_mem_cons.mpr ⟨Nat.ne_of_lt g9, List.forall_mem_cons.mpr ⟨Nat.ne_of_lt g10, List.forall_mem_cons.mpr ⟨Nat.ne_of_lt g11, allLt_ne _ g12⟩⟩⟩⟩⟩⟩⟩⟩⟩
  · refine newsSub N fun p hp => ?_
    simp only [List.mem_cons] at hp ⊢
    rcases hp with h | h | h | h | h | h | h | h | h | h | h | h | h <;> simp only [h, true_or, or_true]
  · exact ⟨(if_neg (by decide)).trans ((if_neg (by decide)).trans f_rows), (if_neg (by decide)).trans (if_pos rfl), if_pos rfl, oS, oE, [], [], #[], 0, [], rfl, ⟨[], kS, .nil⟩, ⟨[], kE, .nil⟩, ⟨rfl, fun i v e => by simp at e⟩, Nat.le_refl _, Nat.le_refl _, Nat.le_refl _, Counts.nil _, Lim.nil⟩
theorem gone_push {led : List (Addr × Obj)} {its : Array Value} {gs : List (List Str)} {a : Addr} {ys : List Str} (h : GoneAt led its gs) (w : WholeIn led a ys) : GoneAt led (its.push (.ref a)) (gs ++ [ys]) := by
  refine ⟨by rw [Array.size_push, h.1, List.length_append]; rfl, fun i u e => ?_⟩
  rw [Array.getElem?_push] at e
  split at e
  · rename_i e1
    rw [h.1] at e1
    subst e1
    exact ⟨a, ys, (Option.some.inj e).symm, by simp, w⟩
  · obtain ⟨b, zs, h1, h2, h3⟩ := h.2 i u e
    have hlt : i < gs.length := by rw [← h.1]; exact (Array.getElem?_eq_some_iff.mp e).1
    exact ⟨b, zs, h1, by rw [List.getElem?_append_left hlt]; exact h2, h3⟩
/-- the row of a place of the loop -/
theorem place_row {P : Params} {h₀ : Heap} {led : List (Addr × Obj)} {its : Array Value} {rs : List Rw} (R : RowsIn P h₀ led its rs) {i : Nat} (hi : i < 2 * its.size) : ∃ v r, ((i : Nat) : Int).fdiv 2 = ((i / 2 : Nat) : Int) ∧ its[i / 2]? = some v ∧ r.Ok ∧ RowIn P h₀ led v r := by
  have hj : i / 2 < its.size := by omega
  obtain ⟨r, _, ok, row⟩ := R.2 (i / 2) its[i / 2] (Array.getElem?_eq_getElem hj)
  refine ⟨_, r, ?_, Array.getElem?_eq_getElem hj, ok, row⟩
  rw [Int.fdiv_eq_ediv_of_nonneg _ (by decide)]; omega
theorem place_odd (i : Nat) : ((i : Nat) : Int).fmod 2 = 0 ∨ ((i : Nat) : Int).fmod 2 = 1 := by
  rw [Int.fmod_eq_emod_of_nonneg _ (by decide)]; omega
theorem upd_mem {X l : List (Addr × Obj)} {G : Addr} {o : Obj} (h : ∀ p ∈ l, p ∈ X) (hn : ∀ p ∈ l, @Ne Nat p.1 G) : ∀ p ∈ l, p ∈ upd X G o := fun p hp => mem_upd' (h p hp) (hn p hp)
end Lw
end
section
theorem Lw.lay86 : True := by
  w_top off
  k_with_none
  k_with "ktr_enter" => (refine' code_def ?zk1 ?zk2 ?zk3 ?zk4 ?zk5 ?zkA ?zkF ?zkK ?zk6 ?zk7 ?zk8 ?zk9 ?zkB ?_ ?zc2 ?zc3 ?zc4 ?zc5; (case zkA => exact rfl); (case zkF => exact rfl); (case zkK => first | exact rfl | assumption); (case zk1 => k_asm); (case zk2 => k_asm); (case zk3 => k_asm); (case zk4 => k_asm); (case zk5 => k_asm); (case zk6 => k_is); (case zk7 => k_is); (case zk8 => ktr_room); (case zk9 => first | exact BindsTo.of_eq rfl | exact binds_K (by k_in) rfl (by k_is) rfl rfl rfl); (case zc5 => decide); (case zkB => exact locs rfl); (case zc2 => exact rfl); (case zc3 => exact rfl); (case zc4 => exact rfl); k_whole; intro g' L' h' FG' F' N' B' X' T'; (try dsimp only); (try k_fold))
  k_with "f_raise1" => ((case zB => k_asm); (case zF => k_asm); (case zX => k_asm); (case zN => k_asm); (case zT => k_asm); (case zhk => first | exact rfl | assumption); (case zd => ktr_room); (case zu => ktr_units))
  k_with "f_meansF" => (k_whole; intro t9 h9 tk9 F9 N9; (try dsimp only); (try k_fold))
  k_with "f_raise2" => ((case zF => k_asm); (case zX => k_asm); (case zN => k_asm); (case zI => exact Lw.ItemIn.mono (by assumption) (fun _ h => by (repeat (first | exact h | refine List.Mem.tail _ ?_)))))
  k_with "callWith ref" => (k_here; k_dflt (refine' callWith_K ?zk1 ?zk2 ?_; (case zk1 => k_asm); (case zk2 => k_is); k_whole))
  trivial
namespace Lw
variable {w : World} {tp : Program} {tl : List Str} {mean : ExcName → Option Value} {mg mb : Str → Option Value} {dp un : Nat} {gd : Option (List Code)} {cn : Str} {cs : Scope} {a : Addr} {ccd : Value} {cl : List (Str × Addr)} {outer : List Env} {A₀ : Around} {base h₀ : Heap} {L : Addr} {m : Str → Option Value} {news : List (Addr × Obj)} {s : Shared} {Q E : Value → Shared → Prop}
theorem c_parseL {dS dE : Addr} {oS oE : Obj} (B : Below A₀ base outer h₀) (F : Fr h₀ L s.heap m) (X : (hd.heap_1 w.params).In h₀) (N : News h₀ L s.heap ((dS, oS) :: (dE, oE) :: news)) (T : Top tp tl mean mg mb h₀) (hk : cs.kind = .function) (hdp : dp + 8 < recursionLimit) (hun : un + 64 < cLine) {it : Item} {t : Tok} (ho : it.Ok) (ha : 0 ≤ it.a ∧ it.a < 4) (hm : 0 < it.m ∧ it.m < 4) (hns : it.ns = "LIMITER") (hoS : ∀ p ∈ news, @Ne Nat p.1 dS) (hoE : ∀ p ∈ news, @Ne Nat p.1 dE)
    (hret : ∀ x dx h' tk' ox od, Fr h₀ L h' m → News h₀ L h' ((dS, oS) :: (dE, oE) :: (x, ox) :: (dx, od) :: news) → ItemIn w.params ((x, ox) :: (dx, od) :: news) x it → (∀ p ∈ ((x, ox) :: (dx, od) :: news), @Ne Nat p.1 dS) → (∀ p ∈ ((x, ox) :: (dx, od) :: news), @Ne Nat p.1 dE) → Q (.ref x) { s with heap := h', toks := tk' }) :
    wpAny (model row.prog w) (ktrTop dp un gd cn cs L a ccd cl outer) (call (.ref 605) [.str it.show t]) Q E s := by
  refine c_parseK B F X N T hk hdp hun ho ha hm fun x dx h' tk' ox od F' N' I l1 l2 => ?_
  have e : (⟨it.k, it.a, it.m, "LIMITER"⟩ : Item) = it := by cases it; cases hns; rfl
  have hd1 : @LT.lt Nat _ dS dx := l1 (dS, oS) (.head _)
  have hd2 : @LT.lt Nat _ dE dx := l1 (dE, oE) (.tail _ (.head _))
  have hl2 : @LT.lt Nat _ dx x := l2
  refine hret x dx h' tk' ox od F' (newsSub N' fun p hp => ?_) ?_ ?_ ?_
  · simp only [List.mem_cons] at hp ⊢
    rcases hp with h | h | h | h | h <;> simp only [h, true_or, or_true]
  · have I' := I news
    rw [e] at I'
    exact I'
  · exact List.forall_mem_cons.mpr ⟨Nat.ne_of_gt (Nat.lt_trans hd1 hl2), List.forall_mem_cons.mpr ⟨Nat.ne_of_gt hd1, hoS⟩⟩
  · exact List.forall_mem_cons.mpr ⟨Nat.ne_of_gt (Nat.lt_trans hd2 hl2), List.forall_mem_cons.mpr ⟨Nat.ne_of_gt hd2, hoE⟩⟩
theorem hit_end {w : World} {h₀ : Heap} {lm dS dE G R I : Addr} {ledC X : List (Addr × Obj)} {now : Int} {L : Addr} {h' : Heap} {m' : Str → Option Value} {ob oS' oE' o1 o2 o3 : Obj} {c c' e e' : List (Str × Int)} {its : Array Value} {k i : Nat} {gs : List (List Str)} {s₁ : Shared} {Q : Flow → Shared → Prop} {tk : Nat}
    (F : Fr h₀ L h' m') (N : News h₀ L h' X) (hX : ∀ p ∈ (I, ob) :: (dS, oS') :: (dE, oE') :: (G, W.listOf its k) :: ledC, p ∈ X) (ho : ∀ p ∈ (dS, o1) :: (dE, o2) :: (G, o3) :: ledC, p.1 ≠ I) (TS : TabO w oS' c') (TE : TabO w oE' e') (GA : GoneAt ledC its gs) (hg : gs.length ≤ i + 1) (hc : c.length ≤ i) (he : e.length ≤ i) (lc : c'.length ≤ c.length + 1) (le : e'.length ≤ e.length + 1) (C : Counts now gs c' e') (Li : Lim gs)
    (f1 : m' "rows" = some (.ref R)) (f2 : m' "limiter" = some (.ref lm)) (f3 : m' "gone" = some (.ref G)) : LPost h₀ L I ob (hit_J w lm dS dE G R ledC now (i + 1)) s₁ Q .next { s₁ with heap := h', toks := tk } :=
  LPost.go F (newsSub N hX) (off3 ho) ⟨f1, f2, f3, oS', oE', c', e', its, k, gs, rfl, TS, TE, GA, hg, by omega, by omega, C, Li⟩
theorem hit_sub0 {I dS dE G : Addr} {ob oS oE og : Obj} {l Y : List (Addr × Obj)} (h : ∀ p ∈ (G, og) :: (I, ob) :: l, p ∈ Y) : ∀ p ∈ (I, ob) :: (dS, oS) :: (dE, oE) :: (G, og) :: l, p ∈ (dS, oS) :: (dE, oE) :: Y := fun p hp => by
  simp only [List.mem_cons] at hp ⊢
  rcases hp with e | e | e | e | e
  · exact .inr (.inr (h p (by rw [e]; exact .tail _ (.head _))))
  · exact .inl e
  · exact .inr (.inl e)
  · exact .inr (.inr (h p (by rw [e]; exact .head _)))
  · exact .inr (.inr (h p (.tail _ (.tail _ e))))
theorem hit_sub1 {I dS dE G : Addr} {ob oS oE og on : Obj} {l Y : List (Addr × Obj)} (h : ∀ p ∈ (G, og) :: (I, ob) :: l, p ∈ Y) (hI : @Ne Nat I G) (h1 : @Ne Nat dS G) (h2 : @Ne Nat dE G) (hl : ∀ p ∈ l, @Ne Nat p.1 G) : ∀ p ∈ (I, ob) :: (dS, oS) :: (dE, oE) :: (G, on) :: l, p ∈ upd ((dS, oS) :: (dE, oE) :: Y) G on := fun p hp => by
  rcases List.mem_cons.mp hp with rfl | hp
  · exact mem_upd' (.tail _ (.tail _ (h _ (.tail _ (.head _))))) hI
  · rcases List.mem_cons.mp hp with rfl | hp
    · exact mem_upd' (.head _) h1
    · rcases List.mem_cons.mp hp with rfl | hp
      · exact mem_upd' (.tail _ (.head _)) h2
      · rcases List.mem_cons.mp hp with rfl | hp
        · exact .head _
        · exact mem_upd' (.tail _ (.tail _ (h _ (.tail _ (.tail _ hp))))) (hl p hp)
theorem range_cast {h : Heap} {r : Addr} {n : Nat} {t u v : Tok} (H : IsRange h r 0 (2 * (n : Int)) 1 t u v) : IsRange h r 0 ((2 * n : Nat) : Int) 1 t u v := by
  have e : ((2 * n : Nat) : Int) = 2 * (n : Int) := by omega
  rw [e]; exact H
theorem range_ok : ∀ n : Nat, n < 13 → Builtin.Range.small 0 n 1 = true ∧ Builtin.Range.rangeSize 0 n 1 = (n : Int) := by decide +kernel
/-- what holds between the turns of the last loop -/
noncomputable def stat_J (lm G : Addr) (led : List (Addr × Obj)) (_i : Nat) (m' : Str → Option Value) (n' : List (Addr × Obj)) : Prop := n' = led ∧ m' "limiter" = some (.ref lm) ∧ m' "gone" = some (.ref G)
theorem stat_hl {R lm G : Addr} {led : List (Addr × Obj)} {o : Obj} (h : (R, o) ∈ led) : ∀ i m n', stat_J lm G led i m n' → (R, o) ∈ n' := fun _ _ _ k => k.1 ▸ h
end Lw
namespace Lw
theorem hit_off {w : World} {h₀ h : Heap} {L lm st clk dS dE G R I : Addr} {ledC : List (Addr × Obj)} {now : Int} {its : Array Value} {k : Nat} {rs : List Rw} {oS oE o ob : Obj} (H : HitC w h₀ lm st clk dS dE G R ledC now its k rs) (ho : ∀ p ∈ (dS, oS) :: (dE, oE) :: (G, o) :: ledC, p.1 ≠ I) (N : News h₀ L h ((I, ob) :: (dS, oS) :: (dE, oE) :: (G, o) :: ledC)) :
    News h₀ L h ((dS, oS) :: (dE, oE) :: (G, o) :: (I, ob) :: ledC) ∧ (∀ p ∈ (G, o) :: (I, ob) :: ledC, @Ne Nat p.1 dS) ∧ (∀ p ∈ (G, o) :: (I, ob) :: ledC, @Ne Nat p.1 dE) ∧ @Ne Nat I G ∧ ∀ p ∈ ledC, p ∈ (dS, oS) :: (dE, oE) :: (G, o) :: (I, ob) :: ledC := by
  have i1 : @Ne Nat dS I := ho (dS, oS) (.head _)
  have i2 : @Ne Nat dE I := ho (dE, oE) (.tail _ (.head _))
  have i3 : @Ne Nat G I := ho (G, o) (.tail _ (.tail _ (.head _)))
  refine ⟨newsSub N fun p hp => ?_, List.forall_mem_cons.mpr ⟨Ne.symm H.n2, List.forall_mem_cons.mpr ⟨Ne.symm i1, H.oS⟩⟩, List.forall_mem_cons.mpr ⟨Ne.symm H.n3, List.forall_mem_cons.mpr ⟨Ne.symm i2, H.oE⟩⟩, Ne.symm i3, fun _ h => .tail _ (.tail _ (.tail _ (.tail _ h)))⟩
  simp only [List.mem_cons] at hp ⊢
  rcases hp with h | h | h | h | h <;> simp only [h, true_or, or_true]
theorem lim_true {gs : List (List Str)} (H : Lim gs) {it : Item} {ps : List Str} (f : Fit it ps) (h : decide (oft gs (it.parts ps) < it.a) = true) : Lim (gs ++ [it.parts ps]) := by
  have := H.put f h; simpa using this
end Lw
namespace Lw
theorem tab_mk {w : World} {led : List (Addr × Obj)} {d : Addr} {o : Obj} {c : List (Str × Int)} (h : (d, o) ∈ led) (hl : (d == sysModules) = false) (T : TabO w o c) : TabIn w led d c := ⟨o, h, hl, T⟩
/-- what the last loop needs -/
structure StatC (w : World) (h₀ : Heap) (lm st clk dS dE G R : Addr) (led : List (Addr × Obj)) (now : Int) (c e : List (Str × Int)) (gits : Array Value) (gk : Nat) (gs : List (List Str)) (its : Array Value) (k : Nat) (rs : List Rw) : Prop where
  LI : LimIn w.params led lm st
  SI : StoreIn w.params led st clk dS dE
  CK : ClockIn led clk now
  hR : (R, W.listOf its k) ∈ led
  RI : RowsIn w.params h₀ led its rs
  T1 : TabIn w led dS c
  T2 : TabIn w led dE e
  hG : (G, W.listOf gits gk) ∈ led
  GA : GoneAt led gits gs
  hg : gs.length ≤ 100
  hn : 1000000000 ≤ now ∧ now ≤ 3000000000
  C : Counts now gs c e
  Li : Lim gs
  GT : ∃ ps : Array Value, ((736 : Nat), tabObj ps) ∈ led
theorem stat_0 {w : World} {h₀ h : Heap} {L lm st clk dS dE G R : Addr} {ledC : List (Addr × Obj)} {now : Int} {its : Array Value} {k n : Nat} {rs : List Rw} {m' : Str → Option Value} {n' : List (Addr × Obj)} (H : HitC w h₀ lm st clk dS dE G R ledC now its k rs) (J : hit_J w lm dS dE G R ledC now n m' n') (hn : n ≤ 100) (N : News h₀ L h n') :
    m' "rows" = some (.ref R) ∧ m' "limiter" = some (.ref lm) ∧ m' "gone" = some (.ref G) ∧ ∃ c e gits gk gs, StatC w h₀ lm st clk dS dE G R n' now c e gits gk gs its k rs := by
  obtain ⟨f1, f2, f3, oS, oE, c, e, gits, gk, gs, rfl, TS, TE, GA, hg, _, _, C, Li⟩ := J
  have sub : ∀ p ∈ ledC, p ∈ (dS, oS) :: (dE, oE) :: (G, W.listOf gits gk) :: ledC := fun _ h => .tail _ (.tail _ (.tail _ h))
  exact ⟨f1, f2, f3, c, e, gits, gk, gs, H.LI.mono sub, H.SI.mono sub, H.CK.mono sub, sub _ H.hR, H.RI.mono sub, ⟨oS, .head _, H.lS, TS⟩, ⟨oE, .tail _ (.head _), H.lE, TE⟩, .tail _ (.tail _ (.head _)), GA.mono sub, Nat.le_trans hg hn, H.hn, C, Li, H.GT.imp fun _ h => sub _ h⟩
end Lw
namespace Lw
theorem cnt_t {now : Int} {a b : List (List Str)} {c e : List (Str × Int)} (h : Counts now (if true = true then a else b) c e) : Counts now a c e := h
theorem cnt_f {now : Int} {a b : List (List Str)} {c e : List (Str × Int)} (h : Counts now (if false = true then a else b) c e) : Counts now b c e := h
end Lw
end
section
theorem Lw.lay87 : True := by
  w_top off
  k_with_none
  k_with "eval Name" => (k_here; name_kind "globalImplicit"; k_dflt (refine' nameX_K ?zF ?zX ?zT ?ze ?_ ?za ?zb; (case zF => k_asm); (case zX => k_asm); (case zT => k_asm); (case za => rfl); (case zb => rfl); (case ze => k_is); k_whole))
  k_with "ktr_enter" => (refine' code_def ?zk1 ?zk2 ?zk3 ?zk4 ?zk5 ?zkA ?zkF ?zkK ?zk6 ?zk7 ?zk8 ?zk9 ?zkB ?_ ?zc2 ?zc3 ?zc4 ?zc5; (case zkA => exact rfl); (case zkF => exact rfl); (case zkK => first | exact rfl | assumption); (case zk1 => k_asm); (case zk2 => k_asm); (case zk3 => k_asm); (case zk4 => k_asm); (case zk5 => k_asm); (case zk6 => k_is); (case zk7 => k_is); (case zk8 => ktr_room); (case zk9 => first | exact BindsTo.of_eq rfl | exact binds_K (by k_in) rfl (by k_is) rfl rfl rfl); (case zc5 => decide); (case zkB => exact locs rfl); (case zc2 => exact rfl); (case zc3 => exact rfl); (case zc4 => exact rfl); k_whole; intro g' L' h' FG' F' N' B' X' T'; (try dsimp only); (try k_fold))
  k_with "f_raise1" => ((case zB => k_asm); (case zF => k_asm); (case zX => k_asm); (case zN => k_asm); (case zT => k_asm); (case zhk => first | exact rfl | assumption); (case zd => ktr_room); (case zu => ktr_units))
  k_with "f_meansF" => (k_whole; intro t9 h9 tk9 F9 N9; (try dsimp only); (try k_fold))
  k_with "f_raise2" => ((case zF => k_asm); (case zX => k_asm); (case zN => k_asm); (case zI => exact Lw.ItemIn.mono (by assumption) (fun _ h => by (repeat (first | exact h | refine List.Mem.tail _ ?_)))))
  k_with "ksk_a1" => first | with_reducible assumption | ((with_reducible refine Lw.if_no (by decide) ?_); k_extra "ksk_a1") | exact rfl
  k_with "eval Name" => (k_here; k_dflt (refine' ld ?zk1 ?zk2 ?_; (case zk1 => k_asm); (case zk2 => k_extra "ksk_a1"); k_whole))
  k_with "loadName" => (k_here; k_dflt (refine ldn (by k_asm) (by k_extra "ksk_a1") ?_))
  k_with "getAttr ref" => (k_here; (with_reducible show wpAny _ _ (getAttr (Value.ref _) (Str.ofString "amount") _) _ _ _); k_dflt (refine' Lw.it_amount ?zF ?zX ?zN ?zI ?_; k_extra "f_raise2"; k_whole; intro t'; (try dsimp only)))
  k_with "getAttr ref" => (k_here; (with_reducible show wpAny _ _ (getAttr (Value.ref _) (Str.ofString "multiples") _) _ _ _); k_dflt (refine' Lw.it_multiples ?zF ?zX ?zN ?zI ?_; k_extra "f_raise2"; k_whole; intro t'; (try dsimp only)))
  k_with "getAttr ref" => (k_here; (with_reducible show wpAny _ _ (getAttr (Value.ref _) (Str.ofString "namespace") _) _ _ _); k_dflt (refine' Lw.it_namespace ?zF ?zX ?zN ?zI ?_; k_extra "f_raise2"; k_whole; intro t'; (try dsimp only)))
  k_with "getAttr ref" => (k_here; (with_reducible show wpAny _ _ (getAttr (Value.ref _) (Str.ofString "GRANULARITY") _) _ _ _); k_dflt (refine' Lw.it_gran ?zF ?zX ?zN ?zI ?_; k_extra "f_raise2"; k_whole; (try dsimp only)))
  k_with "getMethod ref" => (k_here; (with_reducible show wpAny _ _ (getMethod (Value.ref _) (Str.ofString "key_for") _) _ _ _); k_dflt (refine' Lw.it_key_for ?zF ?zX ?zN ?zI ?_; k_extra "f_raise2"; k_whole; (try dsimp only)))
  k_with "getMethod ref" => (k_here; (with_reducible show wpAny _ _ (getMethod (Value.ref _) (Str.ofString "get_expiry") _) _ _ _); k_dflt (refine' Lw.it_get_expiry ?zF ?zX ?zN ?zI ?_; k_extra "f_raise2"; k_whole; (try dsimp only)))
  k_with "getAttr ref" => (k_here; (with_reducible show wpAny _ _ (getAttr (Value.ref (Lw.Wn.gr _)) (Str.ofString "seconds") _) _ _ _); k_dflt (refine' Lw.gr_sec ?zB ?zF ?zX ?zN ?zT ?zhk ?zd ?zu ?_; k_extra "f_raise1"; k_extra "f_meansF"))
  k_with "getAttr ref" => (k_here; (with_reducible show wpAny _ _ (getAttr (Value.ref (Lw.Wn.gr _)) (Str.ofString "name") _) _ _ _); k_dflt (refine' Lw.gr_nm ?zB ?zF ?zX ?zN ?zT ?zhk ?zd ?zu ?_; k_extra "f_raise1"; k_extra "f_meansF"))
  k_with "ki_room" => exact Lw.ItemIn.mono (by with_reducible assumption) (fun _ h => by (repeat (first | exact h | refine List.Mem.tail _ ?_)))
  k_with "call ref" => (k_here; (with_reducible show wpAny _ _ (call (Value.ref 181) [Value.ref _, Value.ref _]) _ _ _); k_dflt (refine' Lw.c_key ?zB ?zF ?zX ?zN ?zT ?zhk ?zd ?zu ?zi ?zx1 ?zx2 ?zx3 ?zx4 ?zx5 ?_; k_extra "f_raise1"; (case zi => k_extra "ki_room"); (case zx1 => with_reducible assumption); (case zx3 => first | with_reducible assumption | exact Fr.tup (by assumption) (by assumption)); (case zx2 => with_reducible assumption); (case zx4 => with_reducible assumption); (case zx5 => with_reducible assumption); k_extra "f_meansF"))
  k_with "call ref" => (k_here; (with_reducible show wpAny _ _ (call (Value.ref 174) _) _ _ _); k_dflt (refine' Lw.c_expiryE ?zB ?zF ?zX ?zN ?zT ?zhk ?zd ?zu ?zi ?zx1 ?zx2 ?_; k_extra "f_raise1"; (case zi => k_extra "ki_room"); (case zx1 => with_reducible assumption); (case zx2 => with_reducible assumption); k_extra "f_meansF"))
  k_with "getAttr ref" => (k_here; k_dflt (refine Lw.lm_storage (by k_asm) (by k_asm) (by k_asm) (by with_reducible rfl) (by k_extra "f_int") ?_))
  k_with "exec For" => (k_here; k_dflt (refine For_turns (by k_asm) ?_))
  k_with "exec For Name Call cons nil" => walk_at "exec For"
  k_with "exec For Name Name cons nil" => walk_at "exec For"
  k_with "exec For Tuple Name cons nil" => walk_at "exec For"
  k_with "exec For Name Subscript cons nil" => walk_at "exec For"
  k_with "ksk_a2" => first | exact List.Mem.head _ | (refine List.Mem.tail _ ?_; k_extra "ksk_a2") | (refine Lw.mem_of ?_; with_reducible assumption)
  k_with "compareOp NotEq int int" => (k_here; k_dflt (refine Lw.ne_i ?_))
  k_with "ksl_some" => first | exact Lw.Sames.nil | exact Lw.Sames.cons (by first | exact Lw.SameV.str _ _ _ | exact Lw.SameV.int _ _ _) (by k_extra "ksl_some") | exact Lw.Sames.strs (by with_reducible assumption) (by with_reducible assumption) | exact Lw.Sames.strs (by with_reducible assumption) ((by with_reducible assumption : ∀ t : Tok, StrsAre (Value.str _ t :: _) _) _)
  k_with "compareOp NotEq ref ref" => (k_here; k_dflt (first | refine Lw.ne_lists (by k_asm) (by k_extra "ksk_a2") (by k_extra "ksk_a2") (by k_extra "ksl_some") (by ktr_units) ?_ | refine Lw.ne_tups (by k_asm) (by k_extra "ksk_a2") (by k_extra "ksk_a2") (by k_extra "ksl_some") (by ktr_units) ?_))
  k_with "compareOp NotEq str str" => (k_here; k_dflt (refine Lw.ne_s (by exact rfl) ?_))
  k_with "subscriptTail" => (k_here; (with_reducible show wpAny _ _ (subscriptTail _ _ (Value.ref 698) _) _ _ _); k_dflt (refine Lw.name_item (by k_asm) (by k_asm) (by first | with_reducible rfl | with_reducible assumption) ?_); intro _)
  k_with "compareOp Eq ref ref" => (k_here; k_dflt (first | refine Lw.q_eqK (by k_asm) (by k_asm) (by k_asm) (by k_asm) (by k_asm) (by first | exact rfl | assumption) (by ktr_room) (by ktr_units) (by k_extra "ki_room") (by k_extra "ki_room") (by with_reducible assumption) ?_ | refine Lw.q_eq_tup (by k_asm) (by k_asm) (by k_asm) (by k_asm) (by k_asm) (by first | exact rfl | assumption) (by ktr_room) (by ktr_units) (by k_extra "ki_room") (by k_extra "ksk_a2") ?_); k_whole; intro h9 tk9 F9 N9; (try dsimp only); (try k_fold))
  k_with "call type:list" => (k_here; k_dflt (refine Lw.list_of (by k_asm) (by k_asm) (by k_extra "ksk_a2") (by with_reducible assumption) ?_); intro D9 h9 c9 F9 N9 l9)
  k_with "binaryOp Add ref ref" => (k_here; k_dflt (first | refine Lw.add_strs (by k_asm) (by k_asm) (by k_extra "ksk_a2") (by k_extra "ksk_a2") (by with_reducible assumption) ?_ | refine Lw.snoc_strs (by k_asm) (by k_asm) (by k_extra "ksk_a2") (by k_extra "ksk_a2") (by with_reducible assumption) ?_); intro D9 h9 F9 N9)
  k_with "call builtin:str.split" => (k_here; k_dflt (refine Lw.split_key (by k_asm) (by k_asm) (by with_reducible assumption) (by with_reducible assumption) ?_); intro D9 v9 h9 k9 a9 F9 N9)
  k_with "getMethod ref" => (k_here; k_dflt (refine Lw.it_cgs (by k_asm) (by k_asm) (by k_asm) (by with_reducible rfl) (by k_extra "ki_room") ?_); intro q' h' F' N' l1)
  k_with "call ref" => (k_here; (with_reducible show wpAny _ _ (call (Value.ref _) [Value.str _ _]) _ _ _); k_dflt (refine Lw.c_checkK (by k_asm) (by k_asm) (by k_asm) (by k_asm) (by k_asm) (by first | exact rfl | assumption) (by ktr_room) (by ktr_units) (.head _) (by with_reducible assumption) (by with_reducible assumption) ?_); intro h9 tk9 F9 N9; (try dsimp only); (try k_fold))
  k_with "compareOp NotEq bool bool" => (k_here; k_dflt (refine Lw.ne_b (by with_reducible assumption) ?_))
  k_with "call builtin:repr" => (k_here; k_dflt (refine Lw.q_repr (by k_asm) (by k_asm) (by k_asm) (by k_asm) (by k_asm) (by first | exact rfl | assumption) (by ktr_room) (by ktr_units) (by k_extra "ki_room") (by with_reducible assumption) ?_); intro t9 h9 tk9 F9 N9; (try dsimp only); (try k_fold))
  k_with "compareOp Eq ref" => (k_here; k_dflt (first | refine Lw.q_eq_int (by k_asm) (by k_asm) (by k_asm) (by k_asm) (by k_asm) (by first | exact rfl | assumption) (by ktr_room) (by ktr_units) (by k_extra "ki_room") ?_ | refine Lw.q_eq_str (by k_asm) (by k_asm) (by k_asm) (by k_asm) (by k_asm) (by first | exact rfl | assumption) (by ktr_room) (by ktr_units) (by k_extra "ki_room") ?_); intro h9 tk9 F9 N9; (try dsimp only); (try k_fold))
  k_with "binaryOp Mod int int" => (k_here; k_dflt (refine Lw.fmod_known (by omega) (by with_reducible assumption) ?_))
  k_with "ksl_some" => exact Lw.Sames.strs (by with_reducible assumption) ((by with_reducible assumption : ∀ t : Tok, StrsAre (_ ++ [Value.str _ t]) _) _)
  k_with "compareOp Eq str str" => (k_here; k_dflt (refine Lw.eq_s (by exact rfl) ?_))
  k_with "compareOp LtE int int" => (k_here; k_dflt (refine Lw.le_known (by with_reducible assumption) ?_))
  k_with "callWith ref" => (k_here; k_dflt (refine' callWith_K ?zk1 ?zk2 ?_; (case zk1 => k_asm); (case zk2 => k_is); k_whole))
  trivial
namespace Lw
variable {w : World} {tp : Program} {tl : List Str} {mean : ExcName → Option Value} {mg mb : Str → Option Value} {dp un : Nat} {gd : Option (List Code)} {cn : Str} {cs : Scope} {a : Addr} {ccd : Value} {cl : List (Str × Addr)} {outer : List Env} {A₀ : Around} {base h₀ : Heap} {L : Addr} {m : Str → Option Value} {news : List (Addr × Obj)} {s : Shared} {Q E : Value → Shared → Prop}
/-- a place where the walk is to stop, by a line of ours -/
noncomputable def Stop (p : Prop) : Prop := p
theorem unstop {p : Prop} (h : Stop p) : p := h
theorem stop {p : Prop} (h : p) : Stop p := h
theorem c_alone (B : Below A₀ base outer h₀) (F : Fr h₀ L s.heap m) (X : (hd.heap_1 w.params).In h₀) (N : News h₀ L s.heap news) (T : Top tp tl mean mg mb h₀) (hk : cs.kind = .function) (hdp : dp + 12 < recursionLimit) (hun : un + 96 < cLine) {x so nm wh : Addr} {it : Item} {l : List Value} {ps : List Str} {c : Int} {t1 t2 t3 tc : Tok} {sn : Nat} (I : ItemIn w.params news x it) (ho : it.Ok) (ha : 0 ≤ it.a ∧ it.a < 4) (hm : 0 < it.m ∧ it.m < 4) (hS : SafeArgs l ps) (hT : IsTup h₀ nm l.toArray) (hl : l.length ≤ 2) (hp : (ps.map (·.length)).sum ≤ 900) (hf : FreeAll ps) (hso : (so, ({ cls := .type "tuple", data := .seq #[.int it.a t1, .int it.m t2, .int it.k.ix t3] sn } : Obj)) ∈ news) (hw : WholeIn news wh (it.parts ps))
    (hret : ∀ h' tk', Fr h₀ L h' m → News h₀ L h' news → Q (.bool true) { s with heap := h', toks := tk' }) :
    wpAny (model row.prog w) (ktrTop dp un gd cn cs L a ccd cl outer) (call (.ref 734) [.ref x, .ref so, .ref nm, .ref wh, .int c tc]) Q E s := by
  obtain ⟨c0, c1, c2, c3, c4, c5, cn, hch⟩ := chain_at w
  revert X
  k_fill
  intro X
  refine wpAny_call ?_
  k_dflt k_extra "ktr_enter"
  k_with "subscriptTail Name Slice ref ref" => refine Lw.unstop ?_
  k_steps
  refine stop ?_
  have e9 : it.k.ix + 1 = ((it.k.n + 1 : Nat) : Int) := by rw [it.k.ixn]; rfl
  rw [e9]
  have hC9 := fun {h : Heap} (X : (hd.heap_1 w.params).In h) => tup_K X hch
  k_dflt (refine slice_upto (by k_asm) (by k_asm) (hC9 (by k_in)) ⟨_, (by with_reducible assumption : (hd.heap_1 w.params).In _) _ _ hch⟩ (Nat.succ_le_of_lt it.k.n_lt) ?_ (hsz := (by decide : 6 ≤ sizeLine)))
  intro T9 h9 led9 F9 N9 hs9 hT9 hl9
  k_dflt (refine for_tup (chain_J led9 it.m ?m09) rfl hT9 (by k_asm) (by k_asm) (hl9.imp id fun ⟨o, ho⟩ => ⟨o, fun i m n h => h.1 ▸ ho⟩) ⟨rfl, ⟨_, by rw [show it.m * chainP 0 = it.m from Int.mul_one _]; exact rfl⟩, fun _ _ _ => rfl⟩ ?turn9 ?done9)
  case turn9 =>
    intro i8 v8 m8 n8 I8 it8 h8 tk8 hv8 hJ8 ho8 F8 N8
    obtain ⟨c8, t8, rfl, hc8, hc9, hc10⟩ := chain_item hv8
    obtain ⟨rfl, ⟨u8, hl8⟩, hm8⟩ := hJ8
    k_steps
    exact LPost.go (by k_asm) (by k_asm) ho8 ⟨rfl, ⟨_, by rw [hc8, ← Int.mul_assoc]; exact rfl⟩, fun y h1 h2 => (if_neg h1).trans ((if_neg h2).trans (hm8 y h1 h2))⟩
  case done9 =>
    intro m8 n8 h8 tk8 hJ8 F8 N8
    obtain ⟨rfl, ⟨u8, hl8⟩, hm8⟩ := hJ8
    have hexb := ex_bound hm (it := it)
    rw [chain_size, chain_sec, Int.mul_comm] at hl8
    generalize hex : it.k.sec * it.m = ex at hl8 hexb
    have f_item := (hm8 "item" (by decide) (by decide)).trans (by k_extra "ksk_a1" : _ = some (.ref x))
    have f_sort := (hm8 "sort" (by decide) (by decide)).trans (by k_extra "ksk_a1" : _ = some (.ref so))
    have f_names := (hm8 "names" (by decide) (by decide)).trans (by k_extra "ksk_a1" : _ = some (.ref nm))
    have f_whole := (hm8 "whole" (by decide) (by decide)).trans (by k_extra "ksk_a1" : _ = some (.ref wh))
    have f_clock := (hm8 "clock" (by decide) (by decide)).trans (by k_extra "ksk_a1" : _ = some (.int c tc))
    have f_amount := (hm8 "amount" (by decide) (by decide)).trans (by exact rfl : _ = some (.int it.a _))
    have f_many := (hm8 "many" (by decide) (by decide)).trans (by exact rfl : _ = some (.int it.m _))
    have f_window := (hm8 "window" (by decide) (by decide)).trans (by exact rfl : _ = some (.int it.k.ix _))
    clear hm8
    have hm10 := ho.m
    have hp10 : (ps.map (·.length)).sum ≤ 1000 := Nat.le_trans hp (by decide)
    replace I := I.mono hs9
    replace hso := hs9 _ hso
    replace hw := hw.mono hs9
    obtain ⟨ws, wn, hwm, hws⟩ := hw
    unfold Item.parts at hws
    obtain ⟨tw, wr, rfl, hwr⟩ := strs_cons hws
    have hwz1 : wr.length ≤ 1000 := by
      have e1 := hwr.length; have e2 := hS.len; simp only [List.length_cons, List.length_append, List.length_nil] at e1; omega
    have hwz : (Value.str it.ns tw :: wr).length ≤ 1000 := by
      have e1 := hws.length; have e2 := hS.len; simp only [List.length_cons, List.length_append, List.length_nil] at e1 ⊢; omega
    have hW : StrsAre (Value.str it.ns tw :: wr) (it.parts ps) := hws
    have hkl := key_short ho hS hl hp
    have hkl1 : (it.key ps).length ≤ 2100 := Nat.le_trans hkl (by decide)
    have hsp1 := key_split ho hf
    have hd1 := dg_len ho.a
    have hd2 := dg_len ho.m
    have hd3 := Wn_len it.k
    k_with "subscriptTail Name Constant ref int" => ((with_reducible show wpAny _ _ (subscriptTail _ _ (Value.ref wh) _) _ _ _); refine Lw.unstop ?_)
    k_steps
    refine stop ?_
    k_dflt (refine item_first (by k_asm) (by (repeat (first | exact hwm | refine List.Mem.tail _ ?_))) ?_)
    k_steps
    obtain ⟨r1, r2, r3, r4, r5, r6, r7, r8, hr1, hr2, hr3, hr4, hr5⟩ := rd_show ha ⟨Int.le_of_lt hm.1, hm.2⟩
    k_dflt (refine c_parse (by k_asm) (by k_asm) (by k_asm) (by k_asm) (by k_asm) (by first | exact rfl | assumption) (by ktr_room) (by ktr_units) (show_len ho) hr1 hr2 hr3 hr4 hr5 ho.a ⟨hm.1, ho.m.2⟩ (Nat.le_trans hd3 (by decide)) (nm_says it.k) ?_)
    intro xb db b1 b2 b3 b4 b5 b6 h9 tk9 F9 N9 l3 l4
    have IB := item_new (it := ⟨it.k, it.a, it.m, "LIMITER"⟩) N9
    have hoB : Item.Ok ⟨it.k, it.a, it.m, "LIMITER"⟩ := ⟨ho.a, ho.m, .inl rfl⟩
    have hkB : (Item.key ⟨it.k, it.a, it.m, "LIMITER"⟩ ps).length ≤ 2100 := Nat.le_trans (key_short hoB hS hl hp) (by decide)
    have hspB := key_split hoB hf
    have hWB : ∀ t : Tok, StrsAre (Value.str "LIMITER" t :: wr) (Item.parts ⟨it.k, it.a, it.m, "LIMITER"⟩ ps) := fun t => .cons _ _ hwr
    have hE1 : Item.eqv ⟨it.k, it.a, it.m, "LIMITER"⟩ it = true := eqv_same rfl rfl rfl
    have hE2 : Item.eqv it ⟨it.k, it.a, it.m, "LIMITER"⟩ = true := eqv_same rfl rfl rfl
    k_steps
    refine stop ?_
    k_dflt (refine slice_rest (by k_asm) (by k_asm) (by (repeat (first | exact hwm | refine List.Mem.tail _ ?_))) hwz1 ?_)
    intro Ds h9 F9 N9
    iterate 8 walk1
    k_steps
    have N0 := newsSub (l := n8) (by k_asm) (fun _ h => by (repeat (first | exact h | refine List.Mem.tail _ ?_)))
    k_dflt (refine for_range (n := 6) (alone_J n8 ?mR) rfl (by assumption) (by decide) (by decide) (by k_asm) N0 ⟨rfl, fun _ _ _ => rfl⟩ ?turnR ?doneR)
    case turnR =>
      intro i7 t7 m7 n7 I7 it7 h7 tk7 hi7 hJ7 ho7 F7 N7
      obtain ⟨rfl, hm7⟩ := hJ7
      have f7_item := (hm7 "item" (by decide) (by decide)).trans (by k_extra "ksk_a1" : _ = some (.ref x))
      have f7_win := (hm7 "window" (by decide) (by decide)).trans (by k_extra "ksk_a1" : _ = some (.int it.k.ix t3))
      have hix7 := Wn.at_ix hi7
      have hs71 := says_nm it.k (Wn.at i7)
      have hs72 := says_up it.k (Wn.at i7)
      have hl71 : (Wn.at i7).nm.length ≤ 64 := Nat.le_trans (Wn_len _) (by decide)
      have hl72 := up_len (Wn.at i7)
      have he7 := (Wn.at_eq (k := it.k) hi7).symm
      k_steps
      exact LPost.go (by k_asm) (newsSub (by k_asm) (fun _ h => by (repeat (first | exact h | refine List.Mem.tail _ ?_)))) ho7 ⟨rfl, fun y h1 h2 => (if_neg h2).trans ((if_neg h1).trans (hm7 y h1 h2))⟩
    case doneR =>
      intro m7 n7 h7 tk7 hJ7 F7 N7
      obtain ⟨rfl, hm7⟩ := hJ7
      have f9_item := (hm7 "item" (by decide) (by decide)).trans (by k_extra "ksk_a1" : _ = some (.ref x))
      have f9_sort := (hm7 "sort" (by decide) (by decide)).trans (by k_extra "ksk_a1" : _ = some (.ref so))
      have f9_amount := (hm7 "amount" (by decide) (by decide)).trans (by k_extra "ksk_a1" : _ = some (.int it.a t1))
      have f9_window := (hm7 "window" (by decide) (by decide)).trans (by k_extra "ksk_a1" : _ = some (.int it.k.ix t3))
      have f9_length := (hm7 "length" (by decide) (by decide)).trans (by k_extra "ksk_a1" : _ = some (.int ex _))
      have f9_whole := (hm7 "whole" (by decide) (by decide)).trans (by k_extra "ksk_a1" : _ = some (.ref wh))
      have f9_clock := (hm7 "clock" (by decide) (by decide)).trans (by k_extra "ksk_a1" : _ = some (.int c tc))
      have f9_key := (hm7 "key" (by decide) (by decide)).trans (by k_extra "ksk_a1" : _ = some (.str (it.key ps) _))
      clear hm7
      have hss := says_ss it.k it.k
      have hls := ss_len it.k
      obtain ⟨rr, qq, hr1', hr2', hr3', hr4', hr5', hr6', hr7', hr8'⟩ := rest_at (c := c) hexb.1
      obtain ⟨hk1, hk2, ⟨g1, hg1, hg1'⟩, hn1, hn2, hn3, ⟨g2, hg2, hg2'⟩, ⟨g3, hg3, hg3'⟩, hxx⟩ := at_keys hexb hr2' hr3' hr5' hr6' hr7' hr8'
      k_steps
      k_dflt (refine c_keysM (by k_asm) (by k_asm) (by k_asm) (by k_asm) (by k_asm) (by first | exact rfl | assumption) (by ktr_room) (by ktr_units) hkl hxx hn1 hk1 hk2 hg1 ⟨by omega, by omega⟩ ⟨by omega, by omega⟩ hg1' (by k_mem) ?_)
      intro D5 pv5 u51 u52 h5 tk5 F5 N5 l5 e5
      have e5' := e5 hn2
      subst e5'
      clear e5
      dsimp only [pairObj] at N5
      iterate 18 (first | ((fail_if_success (with_reducible show wpAny _ _ (exec (Stmt.While _ _ _ _) _) _ _ _)); walk1) | skip)
      refine While_inv (Lw.cnt_J _ _ qq) (n₀ := (qq + 1 - 0).toNat) (by k_asm) (by k_asm) ⟨rfl, 0, _, rfl, Int.le_refl 0, by omega, rfl, fun _ _ => rfl⟩ ?_
      intro n1 m1 nw1 h1 tk1 F1 N1 J1
      obtain ⟨e1, p1, tp1, a1, a2, a3, a4, hm1⟩ := J1
      subst e1
      subst a4
      have g_at := (hm1 "at" (by decide)).trans (by k_extra "ksk_a1" : _ = some (.int (ex + rr) _))
      have g_length := (hm1 "length" (by decide)).trans (by k_extra "ksk_a1" : _ = some (.int ex _))
      have g_whole := (hm1 "whole" (by decide)).trans (by k_extra "ksk_a1" : _ = some (.ref wh))
      have g_key := (hm1 "key" (by decide)).trans (by k_extra "ksk_a1" : _ = some (.str (it.key ps) _))
      have g_this := (hm1 "this" (by decide)).trans (by k_extra "ksk_a1" : _ = some (.str (winKey (it.key ps) (qq + 1)) u52))
      have g_before := (hm1 "before" (by decide)).trans (by k_extra "ksk_a1" : _ = some (.str (winKey (it.key ps) qq) u51))
      by_cases hc : (p1 + 1) * ex ≤ ex + rr
      · have hd := decide_eq_true hc
        obtain ⟨b1, b2⟩ := cnt_on hexb.1 hr8' a3 hc
        k_steps
        refine WhileStep.intro (by k_asm) (by k_asm) b2 ?_
        exact ⟨rfl, p1 + 1, _, if_self, by omega, b1, rfl, fun y hy => (if_neg hy).trans (hm1 y hy)⟩
      · have hd := decide_eq_false hc
        clear hm1
        have hp := cnt_end hexb.1 hr7' a3 hc
        subst hp
        have hW1 : ∀ t : Tok, StrsAre ((Value.str it.ns tw :: wr) ++ [Value.str (Str.ofString (toString (qq + 1))) t]) (it.parts ps ++ [Str.ofString (toString (qq + 1))]) := fun t => strsAre_snoc hW
        have hW2 : ∀ t : Tok, StrsAre ((Value.str it.ns tw :: wr) ++ [Value.str (Str.ofString (toString (qq + 1 - 1))) t]) (it.parts ps ++ [Str.ofString (toString (qq + 1 - 1))]) := fun t => strsAre_snoc hW
        have hsT := win_split (n := qq + 1) ho hf (by omega)
        have hlT := win_len (n := qq + 1) hkl ⟨by omega, by omega⟩
        have hsB := win_split1 (n := qq) ho hf (by omega)
        have hlB := win_len (n := qq) hkl ⟨by omega, by omega⟩
        k_steps

        k_dflt (refine c_keysM (by k_asm) (by k_asm) (by k_asm) (by k_asm) (by k_asm) (by first | exact rfl | assumption) (by ktr_room) (by ktr_units) hkl hxx hn3 hg2 hk1 hg3 hg2' ⟨by omega, by omega⟩ hg3' (by k_mem) ?_)
        intro D6 pv6 u61 u62 h6 tk6 F6 N6 l6 e6
        clear e6
        dsimp only [pairObj] at N6
        k_steps

        exact hret _ _ (by k_asm) (newsSub (by assumption) (fun p hp => by (have hp := hs9 p hp; repeat (first | exact hp | refine List.Mem.tail _ ?_))))
end Lw
end
section
theorem Lw.lay88 : True := by
  w_top off
  k_with_none
  k_with "eval Name" => (k_here; name_kind "globalImplicit"; k_dflt (refine' nameX_K ?zF ?zX ?zT ?ze ?_ ?za ?zb; (case zF => k_asm); (case zX => k_asm); (case zT => k_asm); (case za => rfl); (case zb => rfl); (case ze => k_is); k_whole))
  k_with "ktr_enter" => (refine' code_def ?zk1 ?zk2 ?zk3 ?zk4 ?zk5 ?zkA ?zkF ?zkK ?zk6 ?zk7 ?zk8 ?zk9 ?zkB ?_ ?zc2 ?zc3 ?zc4 ?zc5; (case zkA => exact rfl); (case zkF => exact rfl); (case zkK => first | exact rfl | assumption); (case zk1 => k_asm); (case zk2 => k_asm); (case zk3 => k_asm); (case zk4 => k_asm); (case zk5 => k_asm); (case zk6 => k_is); (case zk7 => k_is); (case zk8 => ktr_room); (case zk9 => first | exact BindsTo.of_eq rfl | exact binds_K (by k_in) rfl (by k_is) rfl rfl rfl); (case zc5 => decide); (case zkB => exact locs rfl); (case zc2 => exact rfl); (case zc3 => exact rfl); (case zc4 => exact rfl); k_whole; intro g' L' h' FG' F' N' B' X' T'; (try dsimp only); (try k_fold))
  k_with "f_raise1" => ((case zB => k_asm); (case zF => k_asm); (case zX => k_asm); (case zN => k_asm); (case zT => k_asm); (case zhk => first | exact rfl | assumption); (case zd => ktr_room); (case zu => ktr_units))
  k_with "f_meansF" => (k_whole; intro t9 h9 tk9 F9 N9; (try dsimp only); (try k_fold))
  k_with "f_raise2" => ((case zF => k_asm); (case zX => k_asm); (case zN => k_asm); (case zI => exact Lw.ItemIn.mono (by assumption) (fun _ h => by (repeat (first | exact h | refine List.Mem.tail _ ?_)))))
  k_with "callWith ref" => (k_here; k_dflt (refine' callWith_K ?zk1 ?zk2 ?_; (case zk1 => k_asm); (case zk2 => k_is); k_whole))
  trivial
namespace Lw
theorem ldC {M : Model} {A : Around} {E : Value → Shared → Prop} {s : Shared} {name : Str} {scope : Scope} {L a : Addr} {cd : Value} {h₀ : Heap} {m : Str → Option Value} {x : Str} {pos : Pos} {v : Value} {Q : Value → Shared → Prop} (F : Fr h₀ L s.heap m) (hv : m x = some v) (h : Q v s)
    (hk : scope.kind = .function := by rfl) (hl : (envOfC name scope L a cd).kindOf x = some .local := by rfl) (hd : (x == ("__debug__" : Str)) = false := by decide) :
    wpAny M A (eval (.Name x pos) (envOfC name scope L a cd)) Q E s := wpAny_Name (PyProof.Rows.ldnLoc F hv h hk hl) hd
end Lw
local macro_rules | `(tactic| k_all) => `(tactic| k_extra "k_all")
theorem Lw.lay89 : True := by
  w_top off
  k_with_none
  k_with "eval Name" => (k_here; name_kind "globalImplicit"; k_dflt (refine' nameX_K ?zF ?zX ?zT ?ze ?_ ?za ?zb; (case zF => k_asm); (case zX => k_asm); (case zT => k_asm); (case za => rfl); (case zb => rfl); (case ze => k_is); k_whole))
  k_with "ktr_enter" => (refine' code_def ?zk1 ?zk2 ?zk3 ?zk4 ?zk5 ?zkA ?zkF ?zkK ?zk6 ?zk7 ?zk8 ?zk9 ?zkB ?_ ?zc2 ?zc3 ?zc4 ?zc5; (case zkA => exact rfl); (case zkF => exact rfl); (case zkK => first | exact rfl | assumption); (case zk1 => k_asm); (case zk2 => k_asm); (case zk3 => k_asm); (case zk4 => k_asm); (case zk5 => k_asm); (case zk6 => k_is); (case zk7 => k_is); (case zk8 => ktr_room); (case zk9 => first | exact BindsTo.of_eq rfl | exact binds_K (by k_in) rfl (by k_is) rfl rfl rfl); (case zc5 => decide); (case zkB => exact locs rfl); (case zc2 => exact rfl); (case zc3 => exact rfl); (case zc4 => exact rfl); k_whole; intro g' L' h' FG' F' N' B' X' T'; (try dsimp only); (try k_fold))
  k_with "f_raise1" => ((case zB => k_asm); (case zF => k_asm); (case zX => k_asm); (case zN => k_asm); (case zT => k_asm); (case zhk => first | exact rfl | assumption); (case zd => ktr_room); (case zu => ktr_units))
  k_with "f_meansF" => (k_whole; intro t9 h9 tk9 F9 N9; (try dsimp only); (try k_fold))
  k_with "f_raise2" => ((case zF => k_asm); (case zX => k_asm); (case zN => k_asm); (case zI => exact Lw.ItemIn.mono (by assumption) (fun _ h => by (repeat (first | exact h | refine List.Mem.tail _ ?_)))))
  k_with "ksk_a1" => first | with_reducible assumption | ((with_reducible refine Lw.if_no (by decide) ?_); k_extra "ksk_a1") | exact rfl
  k_with "eval Name" => (k_here; (with_reducible show wpAny _ _ (eval (Expr.Name _ _) (envOfC _ _ _ _ _)) _ _ _); k_dflt (refine' Lw.ldC ?zk1 ?zk2 ?_; (case zk1 => k_asm); (case zk2 => k_extra "ksk_a1"); k_whole))
  k_with "exec For" => (k_here; k_dflt (refine For_turns (by k_asm) ?_))
  k_with "exec For Name Call cons nil" => walk_at "exec For"
  k_with "exec For Name Name cons nil" => walk_at "exec For"
  k_with "exec For Tuple Name cons nil" => walk_at "exec For"
  k_with "exec For Name Subscript cons nil" => walk_at "exec For"
  k_with "ksk_a2" => first | exact List.Mem.head _ | (refine List.Mem.tail _ ?_; k_extra "ksk_a2") | (refine Lw.mem_of ?_; with_reducible assumption)
  k_with "binaryOp FloorDiv int int" => (k_here; k_dflt (refine Lw.fdiv_known (by omega) (by with_reducible assumption) (PyProof.noPylong_small (by omega)) ?_))
  k_with "subscriptTail" => (k_here; (with_reducible show wpAny _ _ (subscriptTail _ _ (Value.ref 700) _) _ _ _); k_dflt (refine Lw.given_item (by k_asm) (by k_asm) (by with_reducible assumption) ?_); intro v9 hv9)
  k_with "subscriptTail Name Constant ref int" => (k_here; (with_reducible show wpAny _ _ (subscriptTail _ _ (Value.ref 700) _) _ _ _); k_dflt (refine Lw.given_item (by k_asm) (by k_asm) (by with_reducible assumption) ?_); intro v9 hv9)
  k_with "subscriptTail Name BinOp ref int" => (k_here; (with_reducible show wpAny _ _ (subscriptTail _ _ (Value.ref 700) _) _ _ _); k_dflt (refine Lw.given_item (by k_asm) (by k_asm) (by with_reducible assumption) ?_); intro v9 hv9)
  k_with "subscriptTail Name Name ref int" => (k_here; (with_reducible show wpAny _ _ (subscriptTail _ _ (Value.ref 700) _) _ _ _); k_dflt (refine Lw.given_item (by k_asm) (by k_asm) (by with_reducible assumption) ?_); intro v9 hv9)
  k_with "subscriptTail Name Slice ref ref" => (k_here; (with_reducible show wpAny _ _ (subscriptTail _ _ (Value.ref 700) _) _ _ _); k_dflt (refine Lw.given_item (by k_asm) (by k_asm) (by with_reducible assumption) ?_); intro v9 hv9)
  k_with "subscriptTail" => (k_here; (with_reducible show wpAny _ _ (subscriptTail _ _ (Value.ref 701) _) _ _ _); k_dflt (refine Lw.meant_item (by k_asm) (by k_asm) (by with_reducible assumption) ?_); intro t9)
  k_with "subscriptTail Name Constant ref int" => (k_here; (with_reducible show wpAny _ _ (subscriptTail _ _ (Value.ref 701) _) _ _ _); k_dflt (refine Lw.meant_item (by k_asm) (by k_asm) (by with_reducible assumption) ?_); intro t9)
  k_with "subscriptTail Name BinOp ref int" => (k_here; (with_reducible show wpAny _ _ (subscriptTail _ _ (Value.ref 701) _) _ _ _); k_dflt (refine Lw.meant_item (by k_asm) (by k_asm) (by with_reducible assumption) ?_); intro t9)
  k_with "subscriptTail Name Name ref int" => (k_here; (with_reducible show wpAny _ _ (subscriptTail _ _ (Value.ref 701) _) _ _ _); k_dflt (refine Lw.meant_item (by k_asm) (by k_asm) (by with_reducible assumption) ?_); intro t9)
  k_with "subscriptTail Name Slice ref ref" => (k_here; (with_reducible show wpAny _ _ (subscriptTail _ _ (Value.ref 701) _) _ _ _); k_dflt (refine Lw.meant_item (by k_asm) (by k_asm) (by with_reducible assumption) ?_); intro t9)
  k_with "subscriptTail" => (k_here; (with_reducible show wpAny _ _ (subscriptTail _ _ (Value.ref 707) _) _ _ _); k_dflt (refine Lw.who_item' (by k_asm) (by k_asm) (by with_reducible assumption) ?_); intro nm9 l9 hw1 hw2 hw3 hw4 hw5)
  k_with "subscriptTail Name Constant ref int" => (k_here; (with_reducible show wpAny _ _ (subscriptTail _ _ (Value.ref 707) _) _ _ _); k_dflt (refine Lw.who_item' (by k_asm) (by k_asm) (by with_reducible assumption) ?_); intro nm9 l9 hw1 hw2 hw3 hw4 hw5)
  k_with "subscriptTail Name BinOp ref int" => (k_here; (with_reducible show wpAny _ _ (subscriptTail _ _ (Value.ref 707) _) _ _ _); k_dflt (refine Lw.who_item' (by k_asm) (by k_asm) (by with_reducible assumption) ?_); intro nm9 l9 hw1 hw2 hw3 hw4 hw5)
  k_with "subscriptTail Name Name ref int" => (k_here; (with_reducible show wpAny _ _ (subscriptTail _ _ (Value.ref 707) _) _ _ _); k_dflt (refine Lw.who_item' (by k_asm) (by k_asm) (by with_reducible assumption) ?_); intro nm9 l9 hw1 hw2 hw3 hw4 hw5)
  k_with "subscriptTail Name Slice ref ref" => (k_here; (with_reducible show wpAny _ _ (subscriptTail _ _ (Value.ref 707) _) _ _ _); k_dflt (refine Lw.who_item' (by k_asm) (by k_asm) (by with_reducible assumption) ?_); intro nm9 l9 hw1 hw2 hw3 hw4 hw5)
  k_with "subscriptTail" => (k_here; (with_reducible show wpAny _ _ (subscriptTail _ _ (Value.ref 713) _) _ _ _); k_dflt (refine Lw.parts_item (by k_asm) (by k_asm) (by with_reducible assumption) ?_); intro pt9 vs9 hp9 hs9 hz9)
  k_with "subscriptTail Name Constant ref int" => (k_here; (with_reducible show wpAny _ _ (subscriptTail _ _ (Value.ref 713) _) _ _ _); k_dflt (refine Lw.parts_item (by k_asm) (by k_asm) (by with_reducible assumption) ?_); intro pt9 vs9 hp9 hs9 hz9)
  k_with "subscriptTail Name BinOp ref int" => (k_here; (with_reducible show wpAny _ _ (subscriptTail _ _ (Value.ref 713) _) _ _ _); k_dflt (refine Lw.parts_item (by k_asm) (by k_asm) (by with_reducible assumption) ?_); intro pt9 vs9 hp9 hs9 hz9)
  k_with "subscriptTail Name Name ref int" => (k_here; (with_reducible show wpAny _ _ (subscriptTail _ _ (Value.ref 713) _) _ _ _); k_dflt (refine Lw.parts_item (by k_asm) (by k_asm) (by with_reducible assumption) ?_); intro pt9 vs9 hp9 hs9 hz9)
  k_with "subscriptTail Name Slice ref ref" => (k_here; (with_reducible show wpAny _ _ (subscriptTail _ _ (Value.ref 713) _) _ _ _); k_dflt (refine Lw.parts_item (by k_asm) (by k_asm) (by with_reducible assumption) ?_); intro pt9 vs9 hp9 hs9 hz9)
  k_with "subscriptTail" => (k_here; k_dflt (refine kba_turn (value' := PySem.Expr.Name (PySem.Str.ofString "_") ⟨0, 0, 0, 0⟩) (fun _ => rfl) ?_); k_dflt (refine Lw.two_item (by k_asm) (by k_extra "ksk_a2") (by with_reducible assumption) ?_); intro z9 t9 hz9)
  k_with "subscriptTail Name Constant ref int" => (k_here; k_dflt (refine kba_turn (value' := PySem.Expr.Name (PySem.Str.ofString "_") ⟨0, 0, 0, 0⟩) (fun _ => rfl) ?_); k_dflt (refine Lw.two_item (by k_asm) (by k_extra "ksk_a2") (by with_reducible assumption) ?_); intro z9 t9 hz9)
  k_with "subscriptTail Name BinOp ref int" => (k_here; k_dflt (refine kba_turn (value' := PySem.Expr.Name (PySem.Str.ofString "_") ⟨0, 0, 0, 0⟩) (fun _ => rfl) ?_); k_dflt (refine Lw.two_item (by k_asm) (by k_extra "ksk_a2") (by with_reducible assumption) ?_); intro z9 t9 hz9)
  k_with "subscriptTail Name Name ref int" => (k_here; k_dflt (refine kba_turn (value' := PySem.Expr.Name (PySem.Str.ofString "_") ⟨0, 0, 0, 0⟩) (fun _ => rfl) ?_); k_dflt (refine Lw.two_item (by k_asm) (by k_extra "ksk_a2") (by with_reducible assumption) ?_); intro z9 t9 hz9)
  k_with "subscriptTail Name Slice ref ref" => (k_here; k_dflt (refine kba_turn (value' := PySem.Expr.Name (PySem.Str.ofString "_") ⟨0, 0, 0, 0⟩) (fun _ => rfl) ?_); k_dflt (refine Lw.two_item (by k_asm) (by k_extra "ksk_a2") (by with_reducible assumption) ?_); intro z9 t9 hz9)
  k_with "binaryOp Mod int int" => (k_here; k_dflt (refine Lw.fmod_known (by omega) (by with_reducible assumption) ?_))
  k_with "ki_room" => exact Lw.ItemIn.mono (by with_reducible assumption) (fun _ h => by (repeat (first | exact h | refine List.Mem.tail _ ?_)))
  k_with "call ref" => (k_here; (with_reducible show wpAny _ _ (call (Value.ref 720) _) _ _ _); k_dflt (refine Lw.c_lim (by k_asm) (by k_asm) (by k_asm) (by k_asm) (by k_asm) (by first | exact rfl | assumption) (by ktr_room) (by ktr_units) (by with_reducible assumption) ?_); intro x9 d9 t1 t2 t3 t4 t5 t6 h9 tk9 F9 N9 l1 l2; (have I9 := Lw.item_new (it := ⟨_, _, _, _⟩) N9); (try dsimp only); (try k_fold))
  k_with "binaryOp Add ref ref" => (k_here; k_dflt (first | refine Lw.add_one (by k_asm) (by k_asm) (by k_extra "ksk_a2") (by with_reducible assumption) (by with_reducible assumption) ?_ | refine Lw.add_two (by k_asm) (by k_asm) (by k_extra "ksk_a2") (by k_extra "ksk_a2") (by with_reducible assumption) (by simp) (by simp) ?_); intro D9 h9 n9 F9 N9)
  k_with "getMethod ref" => (k_here; (with_reducible show wpAny _ _ (getMethod (Value.ref _) (PySem.Str.ofString "append") _) _ _ _); k_dflt (refine listMethod_K (by k_asm) (by k_extra "ksk_a2") PySem.F.slot_list_append PySem.F.type_list_append ?_))
  k_with "call builtin:list.append" => (k_here; k_dflt (refine Lw.append_in (by k_asm) (by k_asm) (by k_extra "ksk_a2") (by with_reducible assumption) ?_); intro h9 F9 N9 T9)
  k_with "call ref" => (k_here; (with_reducible show wpAny _ _ (call (Value.ref 734) _) _ _ _); k_dflt (refine Lw.c_alone (by k_asm) (by k_asm) (by k_asm) (by k_asm) (by k_asm) (by first | exact rfl | assumption) (by ktr_room) (by ktr_units) (by k_extra "ki_room") (Lw.row_ok (by with_reducible assumption) (by with_reducible assumption) (by with_reducible assumption)) (by with_reducible assumption) (by with_reducible assumption) (by with_reducible assumption) (by with_reducible assumption) (by with_reducible assumption) (by with_reducible assumption) (by with_reducible assumption) (by k_extra "ksk_a2") ⟨_, _, by k_extra "ksk_a2", Lw.whole_strs (by with_reducible assumption)⟩ ?_); intro h9 tk9 F9 N9; (try dsimp only); (try k_fold))
  k_with "subscriptTail" => (k_here; (with_reducible show wpAny _ _ (subscriptTail _ _ (Value.ref 698) _) _ _ _); k_dflt (refine Lw.name_item (by k_asm) (by k_asm) (by first | with_reducible rfl | with_reducible assumption) ?_); intro _)
  k_with "subscriptTail Name Constant ref int" => (k_here; (with_reducible show wpAny _ _ (subscriptTail _ _ (Value.ref 698) _) _ _ _); k_dflt (refine Lw.name_item (by k_asm) (by k_asm) (by first | with_reducible rfl | with_reducible assumption) ?_); intro _)
  k_with "subscriptTail Name BinOp ref int" => (k_here; (with_reducible show wpAny _ _ (subscriptTail _ _ (Value.ref 698) _) _ _ _); k_dflt (refine Lw.name_item (by k_asm) (by k_asm) (by first | with_reducible rfl | with_reducible assumption) ?_); intro _)
  k_with "subscriptTail Name Name ref int" => (k_here; (with_reducible show wpAny _ _ (subscriptTail _ _ (Value.ref 698) _) _ _ _); k_dflt (refine Lw.name_item (by k_asm) (by k_asm) (by first | with_reducible rfl | with_reducible assumption) ?_); intro _)
  k_with "subscriptTail Name Slice ref ref" => (k_here; (with_reducible show wpAny _ _ (subscriptTail _ _ (Value.ref 698) _) _ _ _); k_dflt (refine Lw.name_item (by k_asm) (by k_asm) (by first | with_reducible rfl | with_reducible assumption) ?_); intro _)
  k_with "getAttr ref" => (k_here; (with_reducible show wpAny _ _ (getAttr (Value.ref _) (Str.ofString "amount") _) _ _ _); k_dflt (refine' Lw.it_amount ?zF ?zX ?zN ?zI ?_; k_extra "f_raise2"; k_whole; intro t'; (try dsimp only)))
  k_with "getAttr ref" => (k_here; (with_reducible show wpAny _ _ (getAttr (Value.ref _) (Str.ofString "multiples") _) _ _ _); k_dflt (refine' Lw.it_multiples ?zF ?zX ?zN ?zI ?_; k_extra "f_raise2"; k_whole; intro t'; (try dsimp only)))
  k_with "getAttr ref" => (k_here; (with_reducible show wpAny _ _ (getAttr (Value.ref _) (Str.ofString "namespace") _) _ _ _); k_dflt (refine' Lw.it_namespace ?zF ?zX ?zN ?zI ?_; k_extra "f_raise2"; k_whole; intro t'; (try dsimp only)))
  k_with "getAttr ref" => (k_here; (with_reducible show wpAny _ _ (getAttr (Value.ref _) (Str.ofString "GRANULARITY") _) _ _ _); k_dflt (refine' Lw.it_gran ?zF ?zX ?zN ?zI ?_; k_extra "f_raise2"; k_whole; (try dsimp only)))
  k_with "getMethod ref" => (k_here; (with_reducible show wpAny _ _ (getMethod (Value.ref _) (Str.ofString "key_for") _) _ _ _); k_dflt (refine' Lw.it_key_for ?zF ?zX ?zN ?zI ?_; k_extra "f_raise2"; k_whole; (try dsimp only)))
  k_with "getMethod ref" => (k_here; (with_reducible show wpAny _ _ (getMethod (Value.ref _) (Str.ofString "get_expiry") _) _ _ _); k_dflt (refine' Lw.it_get_expiry ?zF ?zX ?zN ?zI ?_; k_extra "f_raise2"; k_whole; (try dsimp only)))
  k_with "getAttr ref" => (k_here; (with_reducible show wpAny _ _ (getAttr (Value.ref (Lw.Wn.gr _)) (Str.ofString "seconds") _) _ _ _); k_dflt (refine' Lw.gr_sec ?zB ?zF ?zX ?zN ?zT ?zhk ?zd ?zu ?_; k_extra "f_raise1"; k_extra "f_meansF"))
  k_with "getAttr ref" => (k_here; (with_reducible show wpAny _ _ (getAttr (Value.ref (Lw.Wn.gr _)) (Str.ofString "name") _) _ _ _); k_dflt (refine' Lw.gr_nm ?zB ?zF ?zX ?zN ?zT ?zhk ?zd ?zu ?_; k_extra "f_raise1"; k_extra "f_meansF"))
  k_with "ki_room" => exact Lw.ItemIn.mono (by with_reducible assumption) (fun _ h => by (repeat (first | exact h | refine List.Mem.tail _ ?_)))
  k_with "call ref" => (k_here; (with_reducible show wpAny _ _ (call (Value.ref 181) [Value.ref _, Value.ref _]) _ _ _); k_dflt (refine' Lw.c_key ?zB ?zF ?zX ?zN ?zT ?zhk ?zd ?zu ?zi ?zx1 ?zx2 ?zx3 ?zx4 ?zx5 ?_; k_extra "f_raise1"; (case zi => k_extra "ki_room"); (case zx1 => with_reducible assumption); (case zx3 => first | with_reducible assumption | exact Fr.tup (by assumption) (by assumption)); (case zx2 => with_reducible assumption); (case zx4 => with_reducible assumption); (case zx5 => with_reducible assumption); k_extra "f_meansF"))
  k_with "call ref" => (k_here; (with_reducible show wpAny _ _ (call (Value.ref 174) _) _ _ _); k_dflt (refine' Lw.c_expiryE ?zB ?zF ?zX ?zN ?zT ?zhk ?zd ?zu ?zi ?zx1 ?zx2 ?_; k_extra "f_raise1"; (case zi => k_extra "ki_room"); (case zx1 => with_reducible assumption); (case zx2 => with_reducible assumption); k_extra "f_meansF"))
  k_with "getAttr ref" => (k_here; k_dflt (refine Lw.lm_storage (by k_asm) (by k_asm) (by k_asm) (by with_reducible rfl) (by k_extra "f_int") ?_))
  k_with "compareOp Lt ref ref" => (k_here; k_dflt (refine Lw.q_lt_itK (by k_asm) (by k_asm) (by k_asm) (by k_asm) (by k_asm) (by first | exact rfl | assumption) (by ktr_room) (by ktr_units) (by k_extra "ki_room") (by k_extra "ki_room") (by with_reducible assumption) ?_); k_whole; intro h9 tk9 F9 N9; (try dsimp only); (try k_fold))
  k_with "compareOp Lt int int" => (k_here; k_dflt (refine Lw.lt_known (by with_reducible assumption) ?_))
  k_with "compareOp NotEq bool bool" => (k_here; k_dflt (refine Lw.ne_b (by with_reducible rfl) ?_))
  k_with "compareOp Eq str str" => (k_here; k_dflt (refine Lw.eq_kn (by with_reducible assumption) ?_))
  k_with "compareOp Eq ref ref" => (k_here; k_dflt (first | refine Lw.eq_sortK (by k_asm) (Lw.SortIn.mono (by with_reducible assumption) (fun _ h => by (repeat (first | exact h | refine List.Mem.tail _ ?_)))) (Lw.SortIn.mono (by with_reducible assumption) (fun _ h => by (repeat (first | exact h | refine List.Mem.tail _ ?_)))) (by ktr_units) (by with_reducible assumption) ?_ | refine Lw.eq_wholeK (by k_asm) (Lw.WholeIn.mono (by with_reducible assumption) (fun _ h => by (repeat (first | exact h | refine List.Mem.tail _ ?_)))) (Lw.WholeIn.mono (by with_reducible assumption) (fun _ h => by (repeat (first | exact h | refine List.Mem.tail _ ?_)))) (by ktr_units) (by with_reducible assumption) ?_))
  k_with "compareOp Eq ref ref" => (k_here; k_dflt (refine Lw.q_eqK (by k_asm) (by k_asm) (by k_asm) (by k_asm) (by k_asm) (by first | exact rfl | assumption) (by ktr_room) (by ktr_units) (by k_extra "ki_room") (by k_extra "ki_room") (by with_reducible assumption) ?_); k_whole; intro h9 tk9 F9 N9; (try dsimp only); (try k_fold))
  k_with "subscriptTail" => (k_here; (with_reducible show wpAny _ _ (subscriptTail _ _ (Value.ref _) (Value.int 0 _)) _ _ _); k_dflt (refine Lw.sort_0 (by k_asm) (Lw.SortIn.mono (by with_reducible assumption) (fun _ h => by (repeat (first | exact h | refine List.Mem.tail _ ?_)))) ?_); intro t9)
  k_with "subscriptTail Name Constant ref int" => (k_here; (with_reducible show wpAny _ _ (subscriptTail _ _ (Value.ref _) (Value.int 0 _)) _ _ _); k_dflt (refine Lw.sort_0 (by k_asm) (Lw.SortIn.mono (by with_reducible assumption) (fun _ h => by (repeat (first | exact h | refine List.Mem.tail _ ?_)))) ?_); intro t9)
  k_with "subscriptTail Name BinOp ref int" => (k_here; (with_reducible show wpAny _ _ (subscriptTail _ _ (Value.ref _) (Value.int 0 _)) _ _ _); k_dflt (refine Lw.sort_0 (by k_asm) (Lw.SortIn.mono (by with_reducible assumption) (fun _ h => by (repeat (first | exact h | refine List.Mem.tail _ ?_)))) ?_); intro t9)
  k_with "subscriptTail Name Name ref int" => (k_here; (with_reducible show wpAny _ _ (subscriptTail _ _ (Value.ref _) (Value.int 0 _)) _ _ _); k_dflt (refine Lw.sort_0 (by k_asm) (Lw.SortIn.mono (by with_reducible assumption) (fun _ h => by (repeat (first | exact h | refine List.Mem.tail _ ?_)))) ?_); intro t9)
  k_with "subscriptTail Name Slice ref ref" => (k_here; (with_reducible show wpAny _ _ (subscriptTail _ _ (Value.ref _) (Value.int 0 _)) _ _ _); k_dflt (refine Lw.sort_0 (by k_asm) (Lw.SortIn.mono (by with_reducible assumption) (fun _ h => by (repeat (first | exact h | refine List.Mem.tail _ ?_)))) ?_); intro t9)
  k_with "subscriptTail" => (k_here; (with_reducible show wpAny _ _ (subscriptTail _ _ (Value.ref _) (Value.int 2 _)) _ _ _); k_dflt (refine Lw.sort_2 (by k_asm) (Lw.SortIn.mono (by with_reducible assumption) (fun _ h => by (repeat (first | exact h | refine List.Mem.tail _ ?_)))) ?_); intro t9)
  k_with "subscriptTail Name Constant ref int" => (k_here; (with_reducible show wpAny _ _ (subscriptTail _ _ (Value.ref _) (Value.int 2 _)) _ _ _); k_dflt (refine Lw.sort_2 (by k_asm) (Lw.SortIn.mono (by with_reducible assumption) (fun _ h => by (repeat (first | exact h | refine List.Mem.tail _ ?_)))) ?_); intro t9)
  k_with "subscriptTail Name BinOp ref int" => (k_here; (with_reducible show wpAny _ _ (subscriptTail _ _ (Value.ref _) (Value.int 2 _)) _ _ _); k_dflt (refine Lw.sort_2 (by k_asm) (Lw.SortIn.mono (by with_reducible assumption) (fun _ h => by (repeat (first | exact h | refine List.Mem.tail _ ?_)))) ?_); intro t9)
  k_with "subscriptTail Name Name ref int" => (k_here; (with_reducible show wpAny _ _ (subscriptTail _ _ (Value.ref _) (Value.int 2 _)) _ _ _); k_dflt (refine Lw.sort_2 (by k_asm) (Lw.SortIn.mono (by with_reducible assumption) (fun _ h => by (repeat (first | exact h | refine List.Mem.tail _ ?_)))) ?_); intro t9)
  k_with "subscriptTail Name Slice ref ref" => (k_here; (with_reducible show wpAny _ _ (subscriptTail _ _ (Value.ref _) (Value.int 2 _)) _ _ _); k_dflt (refine Lw.sort_2 (by k_asm) (Lw.SortIn.mono (by with_reducible assumption) (fun _ h => by (repeat (first | exact h | refine List.Mem.tail _ ?_)))) ?_); intro t9)
  k_with "storeName" => (k_here; (with_reducible show wpAny _ _ (storeName (envOfC _ _ _ _ _) (Str.ofString "moment") _) _ _ _); k_dflt (refine Lw.st_cell (by k_asm) (by k_asm) rfl (by with_reducible assumption) (by with_reducible assumption) ?_); intro h9 o9 F9 N9 d9)
  k_with "k_all" => with_reducible assumption
  k_with "call builtin:len" => (k_here; k_dflt (refine Lw.len_in (by k_asm) (by k_extra "ksk_a2") (by with_reducible assumption) ?_); intro t9 tk9)
  k_with "subscriptTail" => (k_here; (with_reducible show wpAny _ _ (subscriptTail _ _ (Value.ref _) (Value.int (Nat.cast _) _)) _ _ _); k_dflt (refine Lw.row_at (by k_asm) (by k_extra "ksk_a2") rfl (by with_reducible assumption) (by with_reducible assumption) ?_))
  k_with "subscriptTail Name Constant ref int" => (k_here; (with_reducible show wpAny _ _ (subscriptTail _ _ (Value.ref _) (Value.int (Nat.cast _) _)) _ _ _); k_dflt (refine Lw.row_at (by k_asm) (by k_extra "ksk_a2") rfl (by with_reducible assumption) (by with_reducible assumption) ?_))
  k_with "subscriptTail Name BinOp ref int" => (k_here; (with_reducible show wpAny _ _ (subscriptTail _ _ (Value.ref _) (Value.int (Nat.cast _) _)) _ _ _); k_dflt (refine Lw.row_at (by k_asm) (by k_extra "ksk_a2") rfl (by with_reducible assumption) (by with_reducible assumption) ?_))
  k_with "subscriptTail Name Name ref int" => (k_here; (with_reducible show wpAny _ _ (subscriptTail _ _ (Value.ref _) (Value.int (Nat.cast _) _)) _ _ _); k_dflt (refine Lw.row_at (by k_asm) (by k_extra "ksk_a2") rfl (by with_reducible assumption) (by with_reducible assumption) ?_))
  k_with "subscriptTail Name Slice ref ref" => (k_here; (with_reducible show wpAny _ _ (subscriptTail _ _ (Value.ref _) (Value.int (Nat.cast _) _)) _ _ _); k_dflt (refine Lw.row_at (by k_asm) (by k_extra "ksk_a2") rfl (by with_reducible assumption) (by with_reducible assumption) ?_))
  k_with "subscriptTail" => (k_here; (with_reducible show wpAny _ _ (subscriptTail _ _ (Value.ref _) (Value.int 0 _)) _ _ _); k_dflt (refine Lw.whole_0 (by k_asm) (Lw.WholeIn.mono (by with_reducible assumption) (fun _ h => by (repeat (first | exact h | refine List.Mem.tail _ ?_)))) ?_); intro t9)
  k_with "subscriptTail Name Constant ref int" => (k_here; (with_reducible show wpAny _ _ (subscriptTail _ _ (Value.ref _) (Value.int 0 _)) _ _ _); k_dflt (refine Lw.whole_0 (by k_asm) (Lw.WholeIn.mono (by with_reducible assumption) (fun _ h => by (repeat (first | exact h | refine List.Mem.tail _ ?_)))) ?_); intro t9)
  k_with "subscriptTail Name BinOp ref int" => (k_here; (with_reducible show wpAny _ _ (subscriptTail _ _ (Value.ref _) (Value.int 0 _)) _ _ _); k_dflt (refine Lw.whole_0 (by k_asm) (Lw.WholeIn.mono (by with_reducible assumption) (fun _ h => by (repeat (first | exact h | refine List.Mem.tail _ ?_)))) ?_); intro t9)
  k_with "subscriptTail Name Name ref int" => (k_here; (with_reducible show wpAny _ _ (subscriptTail _ _ (Value.ref _) (Value.int 0 _)) _ _ _); k_dflt (refine Lw.whole_0 (by k_asm) (Lw.WholeIn.mono (by with_reducible assumption) (fun _ h => by (repeat (first | exact h | refine List.Mem.tail _ ?_)))) ?_); intro t9)
  k_with "subscriptTail Name Slice ref ref" => (k_here; (with_reducible show wpAny _ _ (subscriptTail _ _ (Value.ref _) (Value.int 0 _)) _ _ _); k_dflt (refine Lw.whole_0 (by k_asm) (Lw.WholeIn.mono (by with_reducible assumption) (fun _ h => by (repeat (first | exact h | refine List.Mem.tail _ ?_)))) ?_); intro t9)
  k_with "call builtin:repr" => (k_here; k_dflt (refine Lw.q_repr (by k_asm) (by k_asm) (by k_asm) (by k_asm) (by k_asm) (by first | exact rfl | assumption) (by ktr_room) (by ktr_units) (by k_extra "ki_room") (by with_reducible assumption) ?_); intro t9 h9 tk9 F9 N9; (try dsimp only); (try k_fold))
  k_with "call ref" => (k_here; (with_reducible show wpAny _ _ (call (Value.ref 605) _) _ _ _); k_dflt (refine Lw.c_parseL (by k_asm) (by k_asm) (by k_asm) (by k_asm) (by k_asm) (by first | exact rfl | assumption) (by ktr_room) (by ktr_units) (by with_reducible assumption) (by with_reducible assumption) (by with_reducible assumption) (by with_reducible assumption) (by with_reducible assumption) (by with_reducible assumption) ?_); intro x9 d9 h9 tk9 ox9 od9 F9 N9 I9 hx1 hx2; (try dsimp only); (try k_fold))
  k_with "getMethod ref" => (k_here; (with_reducible show wpAny _ _ (getMethod (Value.ref _) (Str.ofString "hit") _) _ _ _); k_dflt (refine Lw.lm_hit (by k_asm) (by k_asm) (by k_asm) (by with_reducible rfl) (Lw.LimIn.mono (by with_reducible assumption) (fun _ h => by (repeat (first | exact h | refine List.Mem.tail _ ?_)))) ?_))
  k_with "getMethod ref" => (k_here; (with_reducible show wpAny _ _ (getMethod (Value.ref _) (Str.ofString "get_window_stats") _) _ _ _); k_dflt (refine Lw.lm_stats (by k_asm) (by k_asm) (by k_asm) (by with_reducible rfl) (Lw.LimIn.mono (by with_reducible assumption) (fun _ h => by (repeat (first | exact h | refine List.Mem.tail _ ?_)))) ?_))
  k_with "call ref" => (k_here; (with_reducible show wpAny _ _ (call (Value.ref 665) _) _ _ _); k_dflt (refine Lw.c_hitK (by k_asm) (by k_asm) (by k_asm) (by k_asm) (by k_asm) (by first | exact rfl | assumption) (by ktr_room) (by ktr_units) (Lw.LimIn.mono (by with_reducible assumption) (fun _ h => by (repeat (first | exact h | refine List.Mem.tail _ ?_)))) (Lw.StoreIn.mono (by with_reducible assumption) (fun _ h => by (repeat (first | exact h | refine List.Mem.tail _ ?_)))) (Lw.ClockIn.mono (by with_reducible assumption) (fun _ h => by (repeat (first | exact h | refine List.Mem.tail _ ?_)))) (by k_extra "ki_room") (by with_reducible assumption) (by with_reducible assumption) (by with_reducible assumption) (by with_reducible assumption) (by with_reducible assumption) (by with_reducible assumption) (by with_reducible assumption) (by with_reducible assumption) (by with_reducible assumption) (by with_reducible assumption) (by with_reducible assumption) (by with_reducible assumption) (by with_reducible assumption) (by with_reducible assumption) (by with_reducible assumption) (by with_reducible assumption) (by with_reducible assumption) (by with_reducible assumption) (by with_reducible assumption) (by with_reducible assumption) (by with_reducible assumption) ?_); intro oS9 oE9 c9 e9 h9 tk9 F9 N9 TS9 TE9 C9 lc9 le9; (try dsimp only); (try k_fold))
  k_with "call ref" => (k_here; (with_reducible show wpAny _ _ (call (Value.ref 683) _) _ _ _); k_dflt (refine Lw.c_statsK (by k_asm) (by k_asm) (by k_asm) (by k_asm) (by k_asm) (by first | exact rfl | assumption) (by ktr_room) (by ktr_units) (Lw.LimIn.mono (by with_reducible assumption) (fun _ h => by (repeat (first | exact h | refine List.Mem.tail _ ?_)))) (Lw.StoreIn.mono (by with_reducible assumption) (fun _ h => by (repeat (first | exact h | refine List.Mem.tail _ ?_)))) (Lw.ClockIn.mono (by with_reducible assumption) (fun _ h => by (repeat (first | exact h | refine List.Mem.tail _ ?_)))) (by k_extra "ki_room") (by with_reducible assumption) (by with_reducible assumption) (by with_reducible assumption) (by with_reducible assumption) (by with_reducible assumption) (by with_reducible assumption) (by with_reducible assumption) (by with_reducible assumption) (by with_reducible assumption) (by with_reducible assumption) (by with_reducible assumption) (Lw.TabIn.mono (by with_reducible assumption) (fun _ h => by (repeat (first | exact h | refine List.Mem.tail _ ?_)))) (Lw.TabIn.mono (by with_reducible assumption) (fun _ h => by (repeat (first | exact h | refine List.Mem.tail _ ?_)))) (by with_reducible assumption) ?_); intro D9 r9 d9 u9 h9 tk9 F9 N9 l1 l2; (try dsimp only); (try k_fold))
  k_with "call ref" => (k_here; (with_reducible show wpAny _ _ (call (Value.ref 727) _) _ _ _); k_dflt (refine Lw.c_often (by k_asm) (by k_asm) (by k_asm) (by k_asm) (by k_asm) (by first | exact rfl | assumption) (by ktr_room) (by ktr_units) (by k_extra "ksk_a2") (Lw.GoneAt.mono (by with_reducible assumption) (fun _ h => by (repeat (first | exact h | refine List.Mem.tail _ ?_)))) (Lw.WholeIn.mono (by with_reducible assumption) (fun _ h => by (repeat (first | exact h | refine List.Mem.tail _ ?_)))) (by with_reducible assumption) ?_); intro t9 h9 tk9 F9 N9; (try dsimp only); (try k_fold))
  k_with "getAttr ref" => (k_here; (with_reducible show wpAny _ _ (getAttr (Value.ref _) (Str.ofString "remaining") _) _ _ _); k_dflt (refine Lw.c_rem (by k_asm) (by k_asm) (by k_asm) (by k_asm) (by k_asm) (by first | exact rfl | assumption) (by ktr_room) (by ktr_units) (by k_extra "ksk_a2") (by k_extra "ksk_a2") ?_); intro h9 tk9 F9 N9; (try dsimp only); (try k_fold))
  k_with "compareOp NotEq int int" => (k_here; (with_reducible refine Lw.ne_i ?_))
  k_with "callWith ref" => (k_here; k_dflt (refine' callWith_K ?zk1 ?zk2 ?_; (case zk1 => k_asm); (case zk2 => k_is); k_whole))
  trivial
theorem Lw.post_ok (l : List Int) : Lw.row.claim.post [ofPy (PyData.list (List.map PyData.int l))] (WData.bool true) [ofPy (PyData.list (List.map PyData.int l))] = true := by wrow_post
set_option maxHeartbeats 0 in
theorem PySem.Challenge.cw_ji0061_01_holds : PySem.Challenge.rw_ji0061_01.Holds := by
  refine Lw.hd ?_
  k_go0
  all_goals try k_fold
  iterate 48 walk1
  (with_reducible rename IntsAre _ (_ ++ _) => hI)
  have hI6 := Lw.six_of hI
  have hIa := Lw.ints_at hI
  k_steps
  have hJ0 := Lw.rows_0 (by assumption) (by assumption) (by assumption) (by assumption)
  k_dflt (refine Lw.for_list2 (Lw.rows_J _ _ _ _ _ _ _ _ _ _ _ _) rfl (by k_asm) (by k_asm) (Lw.rows_hl hJ0) hJ0 ?turn1 ?done1)
  case turn1 =>
    as_aux_lemma =>
      intro i8 v8 m8 n8 I8 it8 h8 tk8 hv8 hJ8 ho8 F8 N8 hc8
      obtain ⟨r, tr, rfl⟩ := hIa _ _ hv8
      obtain ⟨f_rows, f_clock, hrest, hcell, hne8, hpt8, its8, k8, rs8, hR8, hi8, hRI8⟩ := hJ8
      obtain ⟨q1, ch, q2, am, q3, sp, q4, wq, k, e1, e2, b2, e3, e4, b4, e5, e6, e7, b7, e8, e9, b9⟩ := Lw.nums r
      have hps := Lw.psF_len wq
      have hmr := Lw.meantF_rng b2
      have hz8 := Lw.rows_small hv8 hI6 hi8 hRI8
      k_steps
      exact Lw.rows_go (r := ⟨⟨k, am, Lw.meantF ch, _⟩, Lw.psF wq⟩) (by k_asm) (by k_asm) (by assumption) (by k_extra "ksk_a2") (fun _ h => by (repeat (first | exact h | refine List.Mem.tail _ ?_))) ⟨_, _, _, _, _, _, rfl, by k_extra "ksk_a2", by k_extra "ki_room", ⟨_, _, _, _, by k_extra "ksk_a2"⟩, ⟨_, by with_reducible assumption, by with_reducible assumption, by with_reducible assumption, by with_reducible assumption, by with_reducible assumption⟩, ⟨_, _, by k_extra "ksk_a2", Lw.whole_strs (by with_reducible assumption)⟩⟩ (Lw.row_ok' (by with_reducible assumption) (by with_reducible assumption) (by with_reducible assumption)) hc8 ho8 hrest hcell hne8 hpt8 hR8 hi8 hRI8 (by k_extra "ksk_a1") (by k_extra "ksk_a1")
  case done1 =>
    intro m8 n8 h8 tk8 hJ8 F8 N8
    obtain ⟨f_rows, f_clock, hrest, hcell, hne8, hpt8, its8, k8, rs8, hR8, hi8, hRI8⟩ := hJ8
    k_steps
    k_dflt (refine Lw.for_list2 (Lw.pair_J _ _ _ _) rfl (by k_asm) (by k_asm) (Lw.pair_hl hR8) ⟨rfl, f_rows, f_clock⟩ ?turn2 ?done2)
    case turn2 =>
      as_aux_lemma =>
        intro i2 v2 m2 n2 I2 ob2 h2 tk2 hv2 hJ2 ho2 F2 N2 hc2
        obtain ⟨rfl, f_rows, f_clock⟩ := hJ2
        obtain ⟨r2, hr2, ok2, row2⟩ := hRI8.2 _ _ hv2
        obtain ⟨it2, ps2, tp2, x2, so2, nm2, wh2, nn2, l2, rfl, rfl, htp2, I2', S2, W2, hS2, hT2, hl2, hq2, hp2, hf2, hO2, ha2, hm2⟩ := Lw.row_facts ok2 row2
        have htp2' := List.mem_cons_of_mem (I2, ob2) htp2
        k_steps
        k_dflt (refine Lw.for_list2 (Lw.pair_J2 _ ((I2, ob2) :: n2) _ _ x2 so2 nm2 wh2) rfl (by k_asm) (by k_asm) (Lw.pair_hl2 (List.mem_cons_of_mem _ hR8)) ⟨rfl, by k_extra "ksk_a1", by k_extra "ksk_a1", by k_extra "ksk_a1", by k_extra "ksk_a1", by k_extra "ksk_a1", by k_extra "ksk_a1"⟩ ?turn3 ?done3)
        case turn3 =>
          intro i3 v3 m3 n3 I3 ob3 h3 tk3 hv3 hJ3 ho3 F3 N3 hc3
          obtain ⟨rfl, f_rows3, f_clock3, f_one, f_sort, f_names, f_whole⟩ := hJ3
          obtain ⟨r3, hr3, ok3, row3⟩ := hRI8.2 _ _ hv3
          obtain ⟨it3, ps3, tp3, x3, so3, nm3, wh3, nn3, l3, rfl, rfl, htp3, I3', S3, W3, hS3, hT3, hl3, hq3, hp3, hf3, hO3, ha3, hm3⟩ := Lw.row_facts ok3 row3
          have htp3' := List.mem_cons_of_mem (I3, ob3) (List.mem_cons_of_mem (I2, ob2) htp3)
          obtain ⟨b1, b2, b3, hb1, hb2, hb3, hb4, hb5⟩ := Lw.pair_facts hO2 hf2 hO3 hf3
          k_steps
          all_goals exact Lw.LPost.go (by k_asm) (by k_asm) ho3 ⟨rfl, by k_extra "ksk_a1", by k_extra "ksk_a1", by k_extra "ksk_a1", by k_extra "ksk_a1", by k_extra "ksk_a1", by k_extra "ksk_a1"⟩
        case done3 =>
          intro m3 n3 h3 tk3 hJ3 F3 N3
          obtain ⟨rfl, f_rows3, f_clock3, f_one, f_sort, f_names, f_whole⟩ := hJ3
          k_steps
          exact Lw.LPost.go (by k_asm) (by k_asm) ho2 ⟨rfl, by k_extra "ksk_a1", by k_extra "ksk_a1"⟩
    case done2 =>
      intro m2 n2 h2 tk2 hJ2 F2 N2
      obtain ⟨rfl, f_rows, f_clock⟩ := hJ2
      (with_reducible rename _ = Data.cell _ => hoc)
      (with_reducible rename @LT.lt Nat _ 736 _ => h736)
      obtain ⟨led0, N0, hl1, hl2, hR0, hRI0⟩ := Lw.cell_led N2 hcell hoc hpt8 rfl (by omega) hne8 hR8 hRI8
      obtain ⟨q9, hq9, hq9a, hq9b⟩ := Lw.mod_of f_clock
      have hn9 : 1000000000 ≤ 1000000000 + q9 ∧ 1000000000 + q9 ≤ 3000000000 := by omega
      have hz6 : its8.size ≤ 6 := by (have h1 := hRI8.1; rw [List.size_toArray] at hi8; omega)
      have hz1 : its8.size ≤ 1000 := Nat.le_trans hz6 (by decide)
      clear N2 hcell hpt8 hR8 hRI8 hne8 hrest
      iterate 69 walk1
      obtain ⟨ledC, HC, N4, hJ4⟩ := Lw.hit_0 (by assumption) (by assumption) (by assumption) (by assumption) (by assumption) (by assumption) (by assumption) (by assumption) (by with_reducible assumption) (by with_reducible assumption) (by assumption) (by assumption) (by assumption) (by assumption) (by assumption) hR0 hRI0 hn9 hz6 f_rows
      clear hl1 hl2 hRI0 N0 hR0
      have hRC := HC.hR
      iterate 16 (first | ((fail_if_success (with_reducible show wpAny _ _ (pyIter _) _ _ _)); walk1) | skip)
      have N5 := Lw.newsSub (l := _ :: _ :: _ :: ledC) (by k_asm) (fun _ h => by (repeat (first | exact h | refine List.Mem.tail _ ?_)))
      k_dflt (refine Lw.for_range2 (n := 2 * its8.size) (Lw.hit_J _ _ _ _ _ _ _ _) rfl (Lw.range_cast (by assumption)) (Lw.range_ok _ (by omega)).1 (Lw.range_ok _ (by omega)).2 (by k_asm) N5 hJ4 ?turn4 ?done4)
      case turn4 =>
        intro i4 t4 m4 n4 I4 ob4 h4 tk4 hi4 hJ4' ho4 F4 N4' hc4
        obtain ⟨f_rows4, f_lim4, f_gone4, oS4, oE4, c4, e4, its4, k4, gs4, rfl, TS4, TE4, GA4, hg4, hcl4, hel4, C4, Li4⟩ := hJ4'
        obtain ⟨v4, r4, hj4, hv4, ok4, row4⟩ := Lw.place_row HC.RI hi4
        have hj4b : i4 / 2 < 1000 := by omega
        generalize i4 / 2 = j4 at hj4 hv4 hj4b
        obtain ⟨it4, ps4, tp4, x4, so4, nm4, wh4, nn4, l4, rfl, rfl, htp4, I4', S4, W4, hS4, hT4, hl4, hq4, hp4, hf4, hO4, ha4, hm4⟩ := Lw.row_facts ok4 row4
        obtain ⟨N4r, hoS4, hoE4, hIG, hsub4⟩ := Lw.hit_off HC ho4 N4'
        clear N4'
        have hfit4 : Lw.Fit it4 ps4 := ⟨hO4, hf4, hm4⟩
        have LI4 := HC.LI
        have SI4 := HC.SI
        have CK4 := HC.CK
        have hRC4 := HC.hR
        have n14 := HC.n1
        have lS4 := HC.lS
        have lE4 := HC.lE
        have hgl4 : gs4.length ≤ 100 := by omega
        have hcl4' : c4.length ≤ 100 := by omega
        have hel4' : e4.length ≤ 100 := by omega
        have hz5 : its4.size ≤ 1000 := by have := GA4.1; omega
        have htp4' := hsub4 _ htp4
        obtain hb4 | hb4 : decide (Lw.oft gs4 (it4.parts ps4) < it4.a) = true ∨ decide (Lw.oft gs4 (it4.parts ps4) < it4.a) = false := by cases decide (Lw.oft gs4 (it4.parts ps4) < it4.a) <;> simp
        all_goals rcases hO4.ns with hns | hns
        all_goals (first | (have hcmp : (it4.ns == Str.ofString "LIMITER") = true := by (rw [hns]; decide)) | (have hcmp : (it4.ns == Str.ofString "LIMITER") = false := by (rw [hns]; decide)))
        · as_aux_lemma =>
            obtain hod | hod := Lw.place_odd i4
            all_goals k_steps
            all_goals exact Lw.hit_end (by k_asm) (by k_asm) (Lw.hit_sub1 (by first | exact fun _ h => h | exact fun _ h => .tail _ (.tail _ h)) hIG HC.n2 HC.n3 HC.oG) ho4 (by with_reducible assumption) (by with_reducible assumption) (Lw.gone_push GA4 W4) (by rw [List.length_append]; simp only [List.length_cons, List.length_nil]; omega) hcl4 hel4 (by with_reducible assumption) (by with_reducible assumption) (Lw.cnt_t (by with_reducible assumption)) (Lw.lim_true Li4 hfit4 hb4) (by k_extra "ksk_a1") (by k_extra "ksk_a1") (by k_extra "ksk_a1")
        · as_aux_lemma =>
            k_steps
            exact Lw.hit_end (by k_asm) (by k_asm) (Lw.hit_sub1 (by first | exact fun _ h => h | exact fun _ h => .tail _ (.tail _ h)) hIG HC.n2 HC.n3 HC.oG) ho4 (by with_reducible assumption) (by with_reducible assumption) (Lw.gone_push GA4 W4) (by rw [List.length_append]; simp only [List.length_cons, List.length_nil]; omega) hcl4 hel4 (by with_reducible assumption) (by with_reducible assumption) (Lw.cnt_t (by with_reducible assumption)) (Lw.lim_true Li4 hfit4 hb4) (by k_extra "ksk_a1") (by k_extra "ksk_a1") (by k_extra "ksk_a1")
        · as_aux_lemma =>
            obtain hod | hod := Lw.place_odd i4
            all_goals k_steps
            all_goals exact Lw.hit_end (by k_asm) (by k_asm) (Lw.hit_sub0 (by first | exact fun _ h => h | exact fun _ h => .tail _ (.tail _ h))) ho4 (by with_reducible assumption) (by with_reducible assumption) GA4 (by omega) hcl4 hel4 (by with_reducible assumption) (by with_reducible assumption) (Lw.cnt_f (by with_reducible assumption)) Li4 (by k_extra "ksk_a1") (by k_extra "ksk_a1") (by k_extra "ksk_a1")
        · as_aux_lemma =>
            k_steps
            exact Lw.hit_end (by k_asm) (by k_asm) (Lw.hit_sub0 (by first | exact fun _ h => h | exact fun _ h => .tail _ (.tail _ h))) ho4 (by with_reducible assumption) (by with_reducible assumption) GA4 (by omega) hcl4 hel4 (by with_reducible assumption) (by with_reducible assumption) (Lw.cnt_f (by with_reducible assumption)) Li4 (by k_extra "ksk_a1") (by k_extra "ksk_a1") (by k_extra "ksk_a1")
      case done4 =>
        intro m5 n5 h5 tk5 hJ5 F5 N5
        obtain ⟨f_rows5, f_lim5, f_gone5, c5, e5, gits5, gk5, gs5, LI5, SI5, CK5, hR5, RI5, TI1, TI2, hG5, GA5, hgl5, hn5, C5, Li5, tps5, hGT5⟩ := Lw.stat_0 HC hJ5 (by omega) N5
        k_steps
        k_dflt (refine Lw.for_list2 (Lw.stat_J _ _ n5) rfl (by k_asm) (by k_asm) (Lw.stat_hl hR5) ⟨rfl, f_lim5, f_gone5⟩ ?turn5 ?done5)
        case turn5 =>
          as_aux_lemma =>
            intro i6 v6 m6 n6 I6 ob6 h6 tk6 hv6 hJ6 ho6 F6 N6 hc6
            obtain ⟨rfl, f_lim6, f_gone6⟩ := hJ6
            obtain ⟨r6, hr6, ok6, row6⟩ := RI5.2 _ _ hv6
            obtain ⟨it6, ps6, tp6, x6, so6, nm6, wh6, nn6, l6, rfl, rfl, htp6, I6', S6, W6, hS6, hT6, hl6, hq6, hp6, hf6, hO6, ha6, hm6⟩ := Lw.row_facts ok6 row6
            have htp6' := List.mem_cons_of_mem (I6, ob6) htp6
            have hlim6 := Li5 it6 ps6 ⟨hO6, hf6, hm6⟩
            k_steps
            exact Lw.LPost.go (by k_asm) (Lw.newsSub (by k_asm) (fun _ h => by (repeat (first | exact h | refine List.Mem.tail _ ?_)))) ho6 ⟨rfl, by k_extra "ksk_a1", by k_extra "ksk_a1"⟩
        case done5 =>
          intro m6 n6 h6 tk6 hJ6 F6 N6
          obtain ⟨rfl, f_lim6, f_gone6⟩ := hJ6
          iterate 5 (first | walk1 | skip)
          case refine_2 => walk1
          (show GoodW _ _ _ _ _ (.ok (.ret (.bool _))) _)
          refine goodW_bool (by assumption) (by assumption) (raisesW_false ?_) ?_
          · wrow_none_raised
          · exact Lw.post_ok _
end
