import PyProof.Rows.All
import Wide.All
import OpenK.AllK
import Wide.FinOn
import PySem.Challenge.RW_om0020_01

open PySem PySem.W PyProof.Rows PySem.Calls
set_option Elab.async false
set_option linter.unusedVariables false
set_option linter.unusedSimpArgs false
namespace Mine
set_option maxRecDepth 100000
set_option maxHeartbeats 8000000

/-- the row's program; the statement at a place of it; the row's view of it: its defs and classes -/
noncomputable abbrev PW : Program := PySem.Challenge.rw_om0020_01.row.prog
noncomputable def stAt (n : Nat) : Stmt := PW.main.body.getD n (.Pass ⟨0, 0, 0, 0⟩)
noncomputable def VW : Program := view PW [1, 2, 3, 4, 6, 7, 8, 9, 10, 12, 13, 15, 16, 17, 18, 19, 20, 21, 22, 23, 24, 25, 26]
/-- entries, codes, tuples and functions as the heap bears them -/
noncomputable def en (P : Params) (n : String) (t : Nat) (v : Value) : DictEntry := ⟨PyData.keyHash P (Str.ofString n), .str (Str.ofString n) t, v⟩
noncomputable abbrev sv (n : String) (t : Nat) : Value := .str (Str.ofString n) t
noncomputable abbrev tu (l : List Value) : Obj := { cls := .type "tuple", data := .seq l.toArray }
noncomputable abbrev co (n : String) (t l k c v : Nat) (r : List Value) (i j : Nat) : Obj := { cls := .type "code", data := .fields ([Value.str (Str.ofString n) t, .str (Str.ofString n) (t + 1), .str (Str.ofString "/claim/cut.py") (t + 2), .int l 0, .int k 0, .int 0 0, .int 0 0, .int 3 0, .ref c, .bool true, .int 181 0, .ref v, .none] ++ r ++ [Value.int i 0, .int l 0, .str (Str.ofString "/claim/cut.py") j]).toArray }
noncomputable abbrev fo (n m : String) (t : Nat) (a : Arguments) (b : List Stmt) (sc : Scope) (c : Nat) : Obj :=
  { cls := .type "function", data := .func { name := Str.ofString n, qualname := Str.ofString n, params := a, body := .stmts b, scope := sc, globals := 3, closure := [], defaults := .none, kwdefaults := .none, pyModule := .str (Str.ofString m) t, code := .ref c } }
noncomputable abbrev fz (n : String) (a : Arguments) (b : List Stmt) (sc : Scope) : Obj :=
  { cls := .none, data := .func { name := Str.ofString n, qualname := Str.ofString n, params := a, body := .stmts b, scope := sc, globals := 0, closure := [], defaults := .none, kwdefaults := .none } }
noncomputable def o43 (P : Params) : Obj := tu []
noncomputable def o44 (P : Params) : Obj := { cls := Value.none, data := Data.fields #[] }
noncomputable def o45 (P : Params) : Obj := { cls := Value.type "code", data := Data.fields #[sv "<module>" 182, sv "<module>" 183, sv "/claim/cut.py" 184, Value.int 1 0, Value.int 0 0, Value.int 0 0, Value.int 0 0, Value.int 0 0, Value.ref 11, Value.bool false, Value.int 181 0, Value.ref 12, Value.none, Value.none, Value.none, Value.none, Value.int 185 0, Value.int 1 0, sv "/claim/cut.py" 186] }
noncomputable def o46 (P : Params) : Obj := { cls := Value.type "frame", slots := #[some (Value.ref 13), some (Value.ref 3), some (Value.ref 3), none, some (sv "__main__" 164), none, some (Value.ref 0)] }
noncomputable def o49 (P : Params) : Obj := { cls := Value.none, data := Data.dict #[en P "type.__subclasses__.Exception.0" 205 (Value.int 24 0), en P "type.__subclasses__.Exception.n" 206 (Value.int 1 0)] 2 }
noncomputable def o50 (P : Params) : Obj := { cls := Value.type "dict", data := Data.dict #[en P "__name__" 165 (sv "cpy313.ftplib" 187), en P "__doc__" 166 (Value.none), en P "__package__" 167 (Value.none), en P "__loader__" 168 (Value.builtin "__main__.__loader__#opaque"), en P "__spec__" 169 (Value.none), en P "__annotations__" 170 (Value.ref 6), en P "__builtins__" 171 (Value.ref 4), en P "__file__" 173 (sv "/claim/cut.py" 172), en P "__cached__" 174 (Value.none), en P "Error" 208 (Value.ref 24)] 10 }
noncomputable def o51 (P : Params) : Obj := { cls := Value.none, data := Data.fields #[Value.int 2 0, Value.int 0 0, Value.ref 20] }
noncomputable def o52 (P : Params) : Obj := { cls := Value.type "tuple", data := Data.seq #[Value.type "Exception"] }
noncomputable def o53 (P : Params) : Obj := { cls := Value.type "builtin_function_or_method", data := Data.fields #[Value.builtin "type.__prepare__", Value.type "type"] }
noncomputable def o54 (P : Params) : Obj := { cls := Value.type "dict", data := Data.dict #[en P "__module__" 196 (sv "cpy313.ftplib" 187), en P "__qualname__" 198 (sv "Error" 197), en P "__firstlineno__" 200 (Value.int 2 199), en P "__static_attributes__" 201 (Value.ref 22)] 4 }
noncomputable def o55 (P : Params) : Obj := tu []
noncomputable def o56 (P : Params) : Obj := { cls := Value.none, data := Data.fields #[] }
noncomputable def o57 (P : Params) : Obj := { cls := Value.type "code", data := Data.fields #[sv "Error" 191, sv "Error" 192, sv "/claim/cut.py" 193, Value.int 2 0, Value.int 0 0, Value.int 0 0, Value.int 0 0, Value.int 0 0, Value.ref 18, Value.bool false, Value.int 181 0, Value.ref 19, Value.none, Value.none, Value.none, Value.none, Value.int 194 0, Value.int 2 0, sv "/claim/cut.py" 195] }
noncomputable def o58 (P : Params) : Obj := { cls := Value.type "frame", slots := #[some (Value.ref 20), some (Value.ref 3), some (Value.ref 17), none, some (sv "cpy313.ftplib" 187), none, some (Value.ref 0)] }
noncomputable def o59 (P : Params) : Obj := tu []
noncomputable def o60 (P : Params) : Obj := { cls := Value.type "dict", data := Data.dict #[en P "__module__" 196 (sv "cpy313.ftplib" 187), en P "__firstlineno__" 200 (Value.int 2 199), en P "__static_attributes__" 201 (Value.ref 22), en P "__weakref__" 203 (Value.ref 25), en P "__doc__" 204 (Value.none)] 3 }
noncomputable def o61 (P : Params) : Obj := { cls := Value.type "type", data := Data.cls { name := Str.ofString "Error", bases := [Value.type "Exception"], mro := [Value.ref 24, Value.type "Exception", Value.type "BaseException", Value.type "object"], ns := 23, qualname := Str.ofString "Error" }, slots := #[some (Value.ref 15), none, some (sv "Error" 189), some (sv "Error" 197), some (Value.builtin "Exception.__new__"), some (Value.bool true)] }
noncomputable def o62 (P : Params) : Obj := { cls := Value.type "getset_descriptor", data := Data.fields #[sv "__weakref__" 202, Value.ref 24, Value.builtin "ExceptionGroup.__weakref__", Value.none] }
noncomputable def o63 (P : Params) : Obj := { cls := Value.type "super", data := Data.fields #[Value.ref 24, Value.ref 24, Value.ref 24] }
noncomputable def o64 (P : Params) : Obj := { cls := Value.type "builtin_function_or_method", data := Data.fields #[Value.builtin "object.__init_subclass__", Value.ref 24] }
noncomputable def o65 (P : Params) : Obj := { cls := Value.type "dict", data := Data.dict #[en P "__name__" 165 (sv "cpy313.ftplib" 187), en P "__doc__" 166 (Value.none), en P "__package__" 167 (Value.none), en P "__loader__" 168 (Value.builtin "__main__.__loader__#opaque"), en P "__spec__" 169 (Value.none), en P "__annotations__" 170 (Value.ref 6), en P "__builtins__" 171 (Value.ref 4), en P "__file__" 173 (sv "/claim/cut.py" 172), en P "__cached__" 174 (Value.none), en P "Error" 208 (Value.ref 24), en P "error_reply" 224 (Value.ref 37)] 11 }
noncomputable def o66 (P : Params) : Obj := { cls := Value.none, data := Data.fields #[Value.int 2 0, Value.int 0 0, Value.ref 20, Value.int 4 0, Value.int 0 0, Value.ref 33] }
noncomputable def o67 (P : Params) : Obj := { cls := Value.type "type", data := Data.cls { name := Str.ofString "Error", bases := [Value.type "Exception"], mro := [Value.ref 24, Value.type "Exception", Value.type "BaseException", Value.type "object"], ns := 23, qualname := Str.ofString "Error", subclasses := [Value.ref 37] }, slots := #[some (Value.ref 15), none, some (sv "Error" 189), some (sv "Error" 197), some (Value.builtin "Exception.__new__"), some (Value.bool true)] }
noncomputable def o68 (P : Params) : Obj := { cls := Value.type "tuple", data := Data.seq #[Value.ref 24] }
noncomputable def o69 (P : Params) : Obj := { cls := Value.type "builtin_function_or_method", data := Data.fields #[Value.builtin "type.__prepare__", Value.type "type"] }
noncomputable def o70 (P : Params) : Obj := { cls := Value.type "dict", data := Data.dict #[en P "__module__" 216 (sv "cpy313.ftplib" 187), en P "__qualname__" 218 (sv "error_reply" 217), en P "__firstlineno__" 220 (Value.int 4 219), en P "__static_attributes__" 221 (Value.ref 35)] 4 }
noncomputable def o71 (P : Params) : Obj := tu []
noncomputable def o72 (P : Params) : Obj := { cls := Value.none, data := Data.fields #[] }
noncomputable def o73 (P : Params) : Obj := { cls := Value.type "code", data := Data.fields #[sv "error_reply" 211, sv "error_reply" 212, sv "/claim/cut.py" 213, Value.int 4 0, Value.int 0 0, Value.int 0 0, Value.int 0 0, Value.int 0 0, Value.ref 31, Value.bool false, Value.int 181 0, Value.ref 32, Value.none, Value.none, Value.none, Value.none, Value.int 214 0, Value.int 4 0, sv "/claim/cut.py" 215] }
noncomputable def o74 (P : Params) : Obj := { cls := Value.type "frame", slots := #[some (Value.ref 33), some (Value.ref 3), some (Value.ref 30), none, some (sv "cpy313.ftplib" 187), none, some (Value.ref 0)] }
noncomputable def o75 (P : Params) : Obj := tu []
noncomputable def o76 (P : Params) : Obj := { cls := Value.type "dict", data := Data.dict #[en P "__module__" 216 (sv "cpy313.ftplib" 187), en P "__firstlineno__" 220 (Value.int 4 219), en P "__static_attributes__" 221 (Value.ref 35), en P "__doc__" 222 (Value.none)] 2 }
noncomputable def o77 (P : Params) : Obj := { cls := Value.type "type", data := Data.cls { name := Str.ofString "error_reply", bases := [Value.ref 24], mro := [Value.ref 37, Value.ref 24, Value.type "Exception", Value.type "BaseException", Value.type "object"], ns := 36, qualname := Str.ofString "error_reply" }, slots := #[some (Value.ref 28), none, some (sv "error_reply" 209), some (sv "error_reply" 217), some (Value.builtin "Exception.__new__"), some (Value.bool true)] }
noncomputable def o78 (P : Params) : Obj := { cls := Value.type "super", data := Data.fields #[Value.ref 37, Value.ref 37, Value.ref 37] }
noncomputable def o79 (P : Params) : Obj := { cls := Value.type "builtin_function_or_method", data := Data.fields #[Value.builtin "object.__init_subclass__", Value.ref 37] }
noncomputable def o80 (P : Params) : Obj := { cls := Value.type "dict", data := Data.dict #[en P "__name__" 165 (sv "cpy313.heapq" 254), en P "__doc__" 166 (Value.none), en P "__package__" 167 (Value.none), en P "__loader__" 168 (Value.builtin "__main__.__loader__#opaque"), en P "__spec__" 169 (Value.none), en P "__annotations__" 170 (Value.ref 6), en P "__builtins__" 171 (Value.ref 4), en P "__file__" 173 (sv "/claim/cut.py" 172), en P "__cached__" 174 (Value.none), en P "Error" 208 (Value.ref 24), en P "error_reply" 224 (Value.ref 37), en P "error_proto" 240 (Value.ref 49), en P "parse229" 253 (Value.ref 58), en P "heappush" 263 (Value.ref 65), en P "heappop" 272 (Value.ref 72), en P "heapify" 281 (Value.ref 79), en P "_siftdown" 293 (Value.ref 86)] 17 }
noncomputable def o81 (P : Params) : Obj := { cls := Value.none, data := Data.fields #[Value.int 2 0, Value.int 0 0, Value.ref 20, Value.int 4 0, Value.int 0 0, Value.ref 33, Value.int 6 0, Value.int 0 0, Value.ref 45, Value.int 8 0, Value.int 0 0, Value.ref 57, Value.int 26 0, Value.int 0 0, Value.ref 64, Value.int 29 0, Value.int 0 0, Value.ref 71, Value.int 37 0, Value.int 0 0, Value.ref 78, Value.int 41 0, Value.int 0 0, Value.ref 85] }
noncomputable def o82 (P : Params) : Obj := { cls := Value.type "type", data := Data.cls { name := Str.ofString "Error", bases := [Value.type "Exception"], mro := [Value.ref 24, Value.type "Exception", Value.type "BaseException", Value.type "object"], ns := 23, qualname := Str.ofString "Error", subclasses := [Value.ref 37, Value.ref 49] }, slots := #[some (Value.ref 15), none, some (sv "Error" 189), some (sv "Error" 197), some (Value.builtin "Exception.__new__"), some (Value.bool true)] }
noncomputable def o83 (P : Params) : Obj := { cls := Value.type "tuple", data := Data.seq #[Value.ref 24] }
noncomputable def o84 (P : Params) : Obj := { cls := Value.type "builtin_function_or_method", data := Data.fields #[Value.builtin "type.__prepare__", Value.type "type"] }
noncomputable def o85 (P : Params) : Obj := { cls := Value.type "dict", data := Data.dict #[en P "__module__" 232 (sv "cpy313.ftplib" 187), en P "__qualname__" 234 (sv "error_proto" 233), en P "__firstlineno__" 236 (Value.int 6 235), en P "__static_attributes__" 237 (Value.ref 47)] 4 }
noncomputable def o86 (P : Params) : Obj := tu []
noncomputable def o87 (P : Params) : Obj := { cls := Value.none, data := Data.fields #[] }
noncomputable def o88 (P : Params) : Obj := { cls := Value.type "code", data := Data.fields #[sv "error_proto" 227, sv "error_proto" 228, sv "/claim/cut.py" 229, Value.int 6 0, Value.int 0 0, Value.int 0 0, Value.int 0 0, Value.int 0 0, Value.ref 43, Value.bool false, Value.int 181 0, Value.ref 44, Value.none, Value.none, Value.none, Value.none, Value.int 230 0, Value.int 6 0, sv "/claim/cut.py" 231] }
noncomputable def o89 (P : Params) : Obj := { cls := Value.type "frame", slots := #[some (Value.ref 45), some (Value.ref 3), some (Value.ref 42), none, some (sv "cpy313.ftplib" 187), none, some (Value.ref 0)] }
noncomputable def o90 (P : Params) : Obj := tu []
noncomputable def o91 (P : Params) : Obj := { cls := Value.type "dict", data := Data.dict #[en P "__module__" 232 (sv "cpy313.ftplib" 187), en P "__firstlineno__" 236 (Value.int 6 235), en P "__static_attributes__" 237 (Value.ref 47), en P "__doc__" 238 (Value.none)] 2 }
noncomputable def o92 (P : Params) : Obj := { cls := Value.type "type", data := Data.cls { name := Str.ofString "error_proto", bases := [Value.ref 24], mro := [Value.ref 49, Value.ref 24, Value.type "Exception", Value.type "BaseException", Value.type "object"], ns := 48, qualname := Str.ofString "error_proto" }, slots := #[some (Value.ref 40), none, some (sv "error_proto" 225), some (sv "error_proto" 233), some (Value.builtin "Exception.__new__"), some (Value.bool true)] }
noncomputable def o93 (P : Params) : Obj := { cls := Value.type "super", data := Data.fields #[Value.ref 49, Value.ref 49, Value.ref 49] }
noncomputable def o94 (P : Params) : Obj := { cls := Value.type "builtin_function_or_method", data := Data.fields #[Value.builtin "object.__init_subclass__", Value.ref 49] }
noncomputable def o95 (P : Params) : Obj := tu []
noncomputable def o96 (P : Params) : Obj := { cls := Value.none, data := Data.fields #[] }
noncomputable def o97 (P : Params) : Obj := { cls := Value.type "tuple", data := Data.seq #[sv "resp" 244, sv "peer" 245, sv "left" 246, sv "right" 247, sv "parts" 248, sv "host" 249, sv "port" 250] }
noncomputable def o98 (P : Params) : Obj := tu []
noncomputable def o99 (P : Params) : Obj := (fun {a : Arguments} {b : List Stmt} {s : Scope} {n : Str} {d : List Expr} {r : Option Expr} {t : List TypeParam} {c : Option Scope} {i : Str} {p : Pos} (_ : stAt 4 = .FunctionDef n a b d r t s c i p) => fz "parse229" a b s) rfl
noncomputable def o100 (P : Params) : Obj := co "parse229" 241 8 2 52 53 [Value.ref 54, Value.ref 55, Value.ref 56] 251 252
noncomputable def o101 (P : Params) : Obj := (fun {a : Arguments} {b : List Stmt} {s : Scope} {n : Str} {d : List Expr} {r : Option Expr} {t : List TypeParam} {c : Option Scope} {i : Str} {p : Pos} (_ : stAt 4 = .FunctionDef n a b d r t s c i p) => fo "parse229" "cpy313.ftplib" 187 a b s 57) rfl
noncomputable def o102 (P : Params) : Obj := tu []
noncomputable def o103 (P : Params) : Obj := { cls := Value.none, data := Data.fields #[] }
noncomputable def o104 (P : Params) : Obj := { cls := Value.type "tuple", data := Data.seq #[sv "heap" 259, sv "item" 260] }
noncomputable def o105 (P : Params) : Obj := tu []
noncomputable def o106 (P : Params) : Obj := (fun {a : Arguments} {b : List Stmt} {s : Scope} {n : Str} {d : List Expr} {r : Option Expr} {t : List TypeParam} {c : Option Scope} {i : Str} {p : Pos} (_ : stAt 6 = .FunctionDef n a b d r t s c i p) => fz "heappush" a b s) rfl
noncomputable def o107 (P : Params) : Obj := co "heappush" 256 26 2 59 60 [Value.ref 61, Value.ref 62, Value.ref 63] 261 262
noncomputable def o108 (P : Params) : Obj := (fun {a : Arguments} {b : List Stmt} {s : Scope} {n : Str} {d : List Expr} {r : Option Expr} {t : List TypeParam} {c : Option Scope} {i : Str} {p : Pos} (_ : stAt 6 = .FunctionDef n a b d r t s c i p) => fo "heappush" "cpy313.heapq" 254 a b s 64) rfl
noncomputable def o109 (P : Params) : Obj := tu []
noncomputable def o110 (P : Params) : Obj := { cls := Value.none, data := Data.fields #[] }
noncomputable def o111 (P : Params) : Obj := { cls := Value.type "tuple", data := Data.seq #[sv "heap" 267, sv "lastelt" 268, sv "returnitem" 269] }
noncomputable def o112 (P : Params) : Obj := tu []
noncomputable def o113 (P : Params) : Obj := (fun {a : Arguments} {b : List Stmt} {s : Scope} {n : Str} {d : List Expr} {r : Option Expr} {t : List TypeParam} {c : Option Scope} {i : Str} {p : Pos} (_ : stAt 7 = .FunctionDef n a b d r t s c i p) => fz "heappop" a b s) rfl
noncomputable def o114 (P : Params) : Obj := co "heappop" 264 29 1 66 67 [Value.ref 68, Value.ref 69, Value.ref 70] 270 271
noncomputable def o115 (P : Params) : Obj := (fun {a : Arguments} {b : List Stmt} {s : Scope} {n : Str} {d : List Expr} {r : Option Expr} {t : List TypeParam} {c : Option Scope} {i : Str} {p : Pos} (_ : stAt 7 = .FunctionDef n a b d r t s c i p) => fo "heappop" "cpy313.heapq" 254 a b s 71) rfl
noncomputable def o116 (P : Params) : Obj := tu []
noncomputable def o117 (P : Params) : Obj := { cls := Value.none, data := Data.fields #[] }
noncomputable def o118 (P : Params) : Obj := { cls := Value.type "tuple", data := Data.seq #[sv "x" 276, sv "n" 277, sv "i" 278] }
noncomputable def o119 (P : Params) : Obj := tu []
noncomputable def o120 (P : Params) : Obj := (fun {a : Arguments} {b : List Stmt} {s : Scope} {n : Str} {d : List Expr} {r : Option Expr} {t : List TypeParam} {c : Option Scope} {i : Str} {p : Pos} (_ : stAt 8 = .FunctionDef n a b d r t s c i p) => fz "heapify" a b s) rfl
noncomputable def o121 (P : Params) : Obj := co "heapify" 273 37 1 73 74 [Value.ref 75, Value.ref 76, Value.ref 77] 279 280
noncomputable def o122 (P : Params) : Obj := (fun {a : Arguments} {b : List Stmt} {s : Scope} {n : Str} {d : List Expr} {r : Option Expr} {t : List TypeParam} {c : Option Scope} {i : Str} {p : Pos} (_ : stAt 8 = .FunctionDef n a b d r t s c i p) => fo "heapify" "cpy313.heapq" 254 a b s 78) rfl
noncomputable def o123 (P : Params) : Obj := tu []
noncomputable def o124 (P : Params) : Obj := { cls := Value.none, data := Data.fields #[] }
noncomputable def o125 (P : Params) : Obj := { cls := Value.type "tuple", data := Data.seq #[sv "heap" 285, sv "startpos" 286, sv "pos" 287, sv "newitem" 288, sv "parentpos" 289, sv "parent" 290] }
noncomputable def o126 (P : Params) : Obj := tu []
noncomputable def o127 (P : Params) : Obj := (fun {a : Arguments} {b : List Stmt} {s : Scope} {n : Str} {d : List Expr} {r : Option Expr} {t : List TypeParam} {c : Option Scope} {i : Str} {p : Pos} (_ : stAt 9 = .FunctionDef n a b d r t s c i p) => fz "_siftdown" a b s) rfl
noncomputable def o128 (P : Params) : Obj := co "_siftdown" 282 41 3 80 81 [Value.ref 82, Value.ref 83, Value.ref 84] 291 292
noncomputable def o129 (P : Params) : Obj := (fun {a : Arguments} {b : List Stmt} {s : Scope} {n : Str} {d : List Expr} {r : Option Expr} {t : List TypeParam} {c : Option Scope} {i : Str} {p : Pos} (_ : stAt 9 = .FunctionDef n a b d r t s c i p) => fo "_siftdown" "cpy313.heapq" 254 a b s 85) rfl
noncomputable def o130 (P : Params) : Obj := { cls := Value.type "dict", data := Data.dict #[en P "__name__" 165 (sv "law_om0020_01" 331), en P "__doc__" 166 (Value.none), en P "__package__" 167 (Value.none), en P "__loader__" 168 (Value.builtin "__main__.__loader__#opaque"), en P "__spec__" 169 (Value.none), en P "__annotations__" 170 (Value.ref 6), en P "__builtins__" 171 (Value.ref 4), en P "__file__" 173 (sv "/claim/cut.py" 172), en P "__cached__" 174 (Value.none), en P "Error" 208 (Value.ref 24), en P "error_reply" 224 (Value.ref 37), en P "error_proto" 240 (Value.ref 49), en P "parse229" 253 (Value.ref 58), en P "heappush" 263 (Value.ref 65), en P "heappop" 272 (Value.ref 72), en P "heapify" 281 (Value.ref 79), en P "_siftdown" 293 (Value.ref 86), en P "_siftup" 306 (Value.ref 93), en P "sorted_list_difference" 322 (Value.ref 100), en P "three_way_cmp" 330 (Value.ref 107), en P "_law_figures" 340 (Value.ref 114), en P "_law_shelves" 352 (Value.ref 121), en P "_law_ahead" 362 (Value.ref 128), en P "_law_walk" 373 (Value.ref 135), en P "_law_reply" 379 (Value.ref 140), en P "_law_replies" 385 (Value.ref 145), en P "_law_lacks" 391 (Value.ref 150), en P "_law_read" 399 (Value.ref 157), en P "_law_due" 405 (Value.ref 162)] 29 }
noncomputable def o131 (P : Params) : Obj := { cls := Value.none, data := Data.fields #[Value.int 2 0, Value.int 0 0, Value.ref 20, Value.int 4 0, Value.int 0 0, Value.ref 33, Value.int 6 0, Value.int 0 0, Value.ref 45, Value.int 8 0, Value.int 0 0, Value.ref 57, Value.int 26 0, Value.int 0 0, Value.ref 64, Value.int 29 0, Value.int 0 0, Value.ref 71, Value.int 37 0, Value.int 0 0, Value.ref 78, Value.int 41 0, Value.int 0 0, Value.ref 85, Value.int 52 0, Value.int 0 0, Value.ref 92, Value.int 67 0, Value.int 0 0, Value.ref 99, Value.int 99 0, Value.int 0 0, Value.ref 106, Value.int 102 0, Value.int 0 0, Value.ref 113, Value.int 108 0, Value.int 0 0, Value.ref 120, Value.int 127 0, Value.int 0 0, Value.ref 127, Value.int 134 0, Value.int 0 0, Value.ref 134, Value.int 142 0, Value.int 0 0, Value.ref 139, Value.int 144 0, Value.int 0 0, Value.ref 144, Value.int 146 0, Value.int 0 0, Value.ref 149, Value.int 153 0, Value.int 0 0, Value.ref 156, Value.int 160 0, Value.int 0 0, Value.ref 161] }
noncomputable def o132 (P : Params) : Obj := tu []
noncomputable def o133 (P : Params) : Obj := { cls := Value.none, data := Data.fields #[] }
noncomputable def o134 (P : Params) : Obj := { cls := Value.type "tuple", data := Data.seq #[sv "heap" 297, sv "pos" 298, sv "endpos" 299, sv "startpos" 300, sv "newitem" 301, sv "childpos" 302, sv "rightpos" 303] }
noncomputable def o135 (P : Params) : Obj := tu []
noncomputable def o136 (P : Params) : Obj := (fun {a : Arguments} {b : List Stmt} {s : Scope} {n : Str} {d : List Expr} {r : Option Expr} {t : List TypeParam} {c : Option Scope} {i : Str} {p : Pos} (_ : stAt 10 = .FunctionDef n a b d r t s c i p) => fz "_siftup" a b s) rfl
noncomputable def o137 (P : Params) : Obj := co "_siftup" 294 52 2 87 88 [Value.ref 89, Value.ref 90, Value.ref 91] 304 305
noncomputable def o138 (P : Params) : Obj := (fun {a : Arguments} {b : List Stmt} {s : Scope} {n : Str} {d : List Expr} {r : Option Expr} {t : List TypeParam} {c : Option Scope} {i : Str} {p : Pos} (_ : stAt 10 = .FunctionDef n a b d r t s c i p) => fo "_siftup" "cpy313.heapq" 254 a b s 92) rfl
noncomputable def o139 (P : Params) : Obj := tu []
noncomputable def o140 (P : Params) : Obj := { cls := Value.none, data := Data.fields #[] }
noncomputable def o141 (P : Params) : Obj := { cls := Value.type "tuple", data := Data.seq #[sv "expected" 312, sv "actual" 313, sv "i" 314, sv "j" 315, sv "missing" 316, sv "unexpected" 317, sv "e" 318, sv "a" 319] }
noncomputable def o142 (P : Params) : Obj := tu []
noncomputable def o143 (P : Params) : Obj := (fun {a : Arguments} {b : List Stmt} {s : Scope} {n : Str} {d : List Expr} {r : Option Expr} {t : List TypeParam} {c : Option Scope} {i : Str} {p : Pos} (_ : stAt 12 = .FunctionDef n a b d r t s c i p) => fz "sorted_list_difference" a b s) rfl
noncomputable def o144 (P : Params) : Obj := co "sorted_list_difference" 309 67 2 94 95 [Value.ref 96, Value.ref 97, Value.ref 98] 320 321
noncomputable def o145 (P : Params) : Obj := (fun {a : Arguments} {b : List Stmt} {s : Scope} {n : Str} {d : List Expr} {r : Option Expr} {t : List TypeParam} {c : Option Scope} {i : Str} {p : Pos} (_ : stAt 12 = .FunctionDef n a b d r t s c i p) => fo "sorted_list_difference" "cpy313.unittest.util" 307 a b s 99) rfl
noncomputable def o146 (P : Params) : Obj := tu []
noncomputable def o147 (P : Params) : Obj := { cls := Value.none, data := Data.fields #[] }
noncomputable def o148 (P : Params) : Obj := { cls := Value.type "tuple", data := Data.seq #[sv "x" 326, sv "y" 327] }
noncomputable def o149 (P : Params) : Obj := tu []
noncomputable def o150 (P : Params) : Obj := (fun {a : Arguments} {b : List Stmt} {s : Scope} {n : Str} {d : List Expr} {r : Option Expr} {t : List TypeParam} {c : Option Scope} {i : Str} {p : Pos} (_ : stAt 13 = .FunctionDef n a b d r t s c i p) => fz "three_way_cmp" a b s) rfl
noncomputable def o151 (P : Params) : Obj := co "three_way_cmp" 323 99 2 101 102 [Value.ref 103, Value.ref 104, Value.ref 105] 328 329
noncomputable def o152 (P : Params) : Obj := (fun {a : Arguments} {b : List Stmt} {s : Scope} {n : Str} {d : List Expr} {r : Option Expr} {t : List TypeParam} {c : Option Scope} {i : Str} {p : Pos} (_ : stAt 13 = .FunctionDef n a b d r t s c i p) => fo "three_way_cmp" "cpy313.unittest.util" 307 a b s 106) rfl
noncomputable def o153 (P : Params) : Obj := tu []
noncomputable def o154 (P : Params) : Obj := { cls := Value.none, data := Data.fields #[] }
noncomputable def o155 (P : Params) : Obj := { cls := Value.type "tuple", data := Data.seq #[sv "number" 336, sv "row" 337] }
noncomputable def o156 (P : Params) : Obj := tu []
noncomputable def o157 (P : Params) : Obj := (fun {a : Arguments} {b : List Stmt} {s : Scope} {n : Str} {d : List Expr} {r : Option Expr} {t : List TypeParam} {c : Option Scope} {i : Str} {p : Pos} (_ : stAt 15 = .FunctionDef n a b d r t s c i p) => fz "_law_figures" a b s) rfl
noncomputable def o158 (P : Params) : Obj := co "_law_figures" 333 102 1 108 109 [Value.ref 110, Value.ref 111, Value.ref 112] 338 339
noncomputable def o159 (P : Params) : Obj := (fun {a : Arguments} {b : List Stmt} {s : Scope} {n : Str} {d : List Expr} {r : Option Expr} {t : List TypeParam} {c : Option Scope} {i : Str} {p : Pos} (_ : stAt 15 = .FunctionDef n a b d r t s c i p) => fo "_law_figures" "law_om0020_01" 331 a b s 113) rfl
noncomputable def o160 (P : Params) : Obj := tu []
noncomputable def o161 (P : Params) : Obj := { cls := Value.none, data := Data.fields #[] }
noncomputable def o162 (P : Params) : Obj := { cls := Value.type "tuple", data := Data.seq #[sv "draws" 344, sv "first" 345, sv "second" 346, sv "x" 347, sv "port" 348, sv "kind" 349] }
noncomputable def o163 (P : Params) : Obj := tu []
noncomputable def o164 (P : Params) : Obj := (fun {a : Arguments} {b : List Stmt} {s : Scope} {n : Str} {d : List Expr} {r : Option Expr} {t : List TypeParam} {c : Option Scope} {i : Str} {p : Pos} (_ : stAt 16 = .FunctionDef n a b d r t s c i p) => fz "_law_shelves" a b s) rfl
noncomputable def o165 (P : Params) : Obj := co "_law_shelves" 341 108 1 115 116 [Value.ref 117, Value.ref 118, Value.ref 119] 350 351
noncomputable def o166 (P : Params) : Obj := (fun {a : Arguments} {b : List Stmt} {s : Scope} {n : Str} {d : List Expr} {r : Option Expr} {t : List TypeParam} {c : Option Scope} {i : Str} {p : Pos} (_ : stAt 16 = .FunctionDef n a b d r t s c i p) => fo "_law_shelves" "law_om0020_01" 331 a b s 120) rfl
noncomputable def o167 (P : Params) : Obj := tu []
noncomputable def o168 (P : Params) : Obj := { cls := Value.none, data := Data.fields #[] }
noncomputable def o169 (P : Params) : Obj := { cls := Value.type "tuple", data := Data.seq #[sv "one" 356, sv "other" 357, sv "code" 358, sv "k" 359] }
noncomputable def o170 (P : Params) : Obj := tu []
noncomputable def o171 (P : Params) : Obj := (fun {a : Arguments} {b : List Stmt} {s : Scope} {n : Str} {d : List Expr} {r : Option Expr} {t : List TypeParam} {c : Option Scope} {i : Str} {p : Pos} (_ : stAt 17 = .FunctionDef n a b d r t s c i p) => fz "_law_ahead" a b s) rfl
noncomputable def o172 (P : Params) : Obj := co "_law_ahead" 353 127 3 122 123 [Value.ref 124, Value.ref 125, Value.ref 126] 360 361
noncomputable def o173 (P : Params) : Obj := (fun {a : Arguments} {b : List Stmt} {s : Scope} {n : Str} {d : List Expr} {r : Option Expr} {t : List TypeParam} {c : Option Scope} {i : Str} {p : Pos} (_ : stAt 17 = .FunctionDef n a b d r t s c i p) => fo "_law_ahead" "law_om0020_01" 331 a b s 127) rfl
noncomputable def o174 (P : Params) : Obj := tu []
noncomputable def o175 (P : Params) : Obj := { cls := Value.none, data := Data.fields #[] }
noncomputable def o176 (P : Params) : Obj := { cls := Value.type "tuple", data := Data.seq #[sv "shelf" 366, sv "code" 367, sv "row" 368, sv "one" 369, sv "k" 370] }
noncomputable def o177 (P : Params) : Obj := tu []
noncomputable def o178 (P : Params) : Obj := (fun {a : Arguments} {b : List Stmt} {s : Scope} {n : Str} {d : List Expr} {r : Option Expr} {t : List TypeParam} {c : Option Scope} {i : Str} {p : Pos} (_ : stAt 18 = .FunctionDef n a b d r t s c i p) => fz "_law_walk" a b s) rfl
noncomputable def o179 (P : Params) : Obj := co "_law_walk" 363 134 2 129 130 [Value.ref 131, Value.ref 132, Value.ref 133] 371 372
noncomputable def o180 (P : Params) : Obj := (fun {a : Arguments} {b : List Stmt} {s : Scope} {n : Str} {d : List Expr} {r : Option Expr} {t : List TypeParam} {c : Option Scope} {i : Str} {p : Pos} (_ : stAt 18 = .FunctionDef n a b d r t s c i p) => fo "_law_walk" "law_om0020_01" 331 a b s 134) rfl
noncomputable def o181 (P : Params) : Obj := tu []
noncomputable def o182 (P : Params) : Obj := { cls := Value.none, data := Data.fields #[] }
noncomputable def o183 (P : Params) : Obj := (fun {a : Arguments} {b : List Stmt} {s : Scope} {n : Str} {d : List Expr} {r : Option Expr} {t : List TypeParam} {c : Option Scope} {i : Str} {p : Pos} (_ : stAt 19 = .FunctionDef n a b d r t s c i p) => fz "_law_reply" a b s) rfl
noncomputable def o184 (P : Params) : Obj := co "_law_reply" 374 142 2 136 137 [Value.none, Value.none, Value.ref 138] 377 378
noncomputable def o185 (P : Params) : Obj := (fun {a : Arguments} {b : List Stmt} {s : Scope} {n : Str} {d : List Expr} {r : Option Expr} {t : List TypeParam} {c : Option Scope} {i : Str} {p : Pos} (_ : stAt 19 = .FunctionDef n a b d r t s c i p) => fo "_law_reply" "law_om0020_01" 331 a b s 139) rfl
noncomputable def o186 (P : Params) : Obj := tu []
noncomputable def o187 (P : Params) : Obj := { cls := Value.none, data := Data.fields #[] }
noncomputable def o188 (P : Params) : Obj := (fun {a : Arguments} {b : List Stmt} {s : Scope} {n : Str} {d : List Expr} {r : Option Expr} {t : List TypeParam} {c : Option Scope} {i : Str} {p : Pos} (_ : stAt 20 = .FunctionDef n a b d r t s c i p) => fz "_law_replies" a b s) rfl
noncomputable def o189 (P : Params) : Obj := co "_law_replies" 380 144 2 141 142 [Value.none, Value.none, Value.ref 143] 383 384
noncomputable def o190 (P : Params) : Obj := (fun {a : Arguments} {b : List Stmt} {s : Scope} {n : Str} {d : List Expr} {r : Option Expr} {t : List TypeParam} {c : Option Scope} {i : Str} {p : Pos} (_ : stAt 20 = .FunctionDef n a b d r t s c i p) => fo "_law_replies" "law_om0020_01" 331 a b s 144) rfl
noncomputable def o191 (P : Params) : Obj := tu []
noncomputable def o192 (P : Params) : Obj := { cls := Value.none, data := Data.fields #[] }
noncomputable def o193 (P : Params) : Obj := (fun {a : Arguments} {b : List Stmt} {s : Scope} {n : Str} {d : List Expr} {r : Option Expr} {t : List TypeParam} {c : Option Scope} {i : Str} {p : Pos} (_ : stAt 21 = .FunctionDef n a b d r t s c i p) => fz "_law_lacks" a b s) rfl
noncomputable def o194 (P : Params) : Obj := co "_law_lacks" 386 146 3 146 147 [Value.none, Value.none, Value.ref 148] 389 390
noncomputable def o195 (P : Params) : Obj := (fun {a : Arguments} {b : List Stmt} {s : Scope} {n : Str} {d : List Expr} {r : Option Expr} {t : List TypeParam} {c : Option Scope} {i : Str} {p : Pos} (_ : stAt 21 = .FunctionDef n a b d r t s c i p) => fo "_law_lacks" "law_om0020_01" 331 a b s 149) rfl
noncomputable def o196 (P : Params) : Obj := tu []
noncomputable def o197 (P : Params) : Obj := { cls := Value.none, data := Data.fields #[] }
noncomputable def o198 (P : Params) : Obj := { cls := Value.type "tuple", data := Data.seq #[sv "text" 395, sv "peer" 396] }
noncomputable def o199 (P : Params) : Obj := tu []
noncomputable def o200 (P : Params) : Obj := (fun {a : Arguments} {b : List Stmt} {s : Scope} {n : Str} {d : List Expr} {r : Option Expr} {t : List TypeParam} {c : Option Scope} {i : Str} {p : Pos} (_ : stAt 22 = .FunctionDef n a b d r t s c i p) => fz "_law_read" a b s) rfl
noncomputable def o201 (P : Params) : Obj := co "_law_read" 392 153 2 151 152 [Value.ref 153, Value.ref 154, Value.ref 155] 397 398
noncomputable def o202 (P : Params) : Obj := (fun {a : Arguments} {b : List Stmt} {s : Scope} {n : Str} {d : List Expr} {r : Option Expr} {t : List TypeParam} {c : Option Scope} {i : Str} {p : Pos} (_ : stAt 22 = .FunctionDef n a b d r t s c i p) => fo "_law_read" "law_om0020_01" 331 a b s 156) rfl
noncomputable def o203 (P : Params) : Obj := tu []
noncomputable def o204 (P : Params) : Obj := { cls := Value.none, data := Data.fields #[] }
noncomputable def o205 (P : Params) : Obj := (fun {a : Arguments} {b : List Stmt} {s : Scope} {n : Str} {d : List Expr} {r : Option Expr} {t : List TypeParam} {c : Option Scope} {i : Str} {p : Pos} (_ : stAt 23 = .FunctionDef n a b d r t s c i p) => fz "_law_due" a b s) rfl
noncomputable def o206 (P : Params) : Obj := co "_law_due" 400 160 3 158 159 [Value.none, Value.none, Value.ref 160] 403 404
noncomputable def o207 (P : Params) : Obj := (fun {a : Arguments} {b : List Stmt} {s : Scope} {n : Str} {d : List Expr} {r : Option Expr} {t : List TypeParam} {c : Option Scope} {i : Str} {p : Pos} (_ : stAt 23 = .FunctionDef n a b d r t s c i p) => fo "_law_due" "law_om0020_01" 331 a b s 161) rfl
noncomputable def o208 (P : Params) : Obj := { cls := Value.type "dict", data := Data.dict #[en P "__name__" 165 (sv "law_om0020_01" 331), en P "__doc__" 166 (Value.none), en P "__package__" 167 (Value.none), en P "__loader__" 168 (Value.builtin "__main__.__loader__#opaque"), en P "__spec__" 169 (Value.none), en P "__annotations__" 170 (Value.ref 6), en P "__builtins__" 171 (Value.ref 4), en P "__file__" 173 (sv "/claim/cut.py" 172), en P "__cached__" 174 (Value.none), en P "Error" 208 (Value.ref 24), en P "error_reply" 224 (Value.ref 37), en P "error_proto" 240 (Value.ref 49), en P "parse229" 253 (Value.ref 58), en P "heappush" 263 (Value.ref 65), en P "heappop" 272 (Value.ref 72), en P "heapify" 281 (Value.ref 79), en P "_siftdown" 293 (Value.ref 86), en P "_siftup" 306 (Value.ref 93), en P "sorted_list_difference" 322 (Value.ref 100), en P "three_way_cmp" 330 (Value.ref 107), en P "_law_figures" 340 (Value.ref 114), en P "_law_shelves" 352 (Value.ref 121), en P "_law_ahead" 362 (Value.ref 128), en P "_law_walk" 373 (Value.ref 135), en P "_law_reply" 379 (Value.ref 140), en P "_law_replies" 385 (Value.ref 145), en P "_law_lacks" 391 (Value.ref 150), en P "_law_read" 399 (Value.ref 157), en P "_law_due" 405 (Value.ref 162), en P "_law_sign" 414 (Value.ref 169), en P "_law_under" 420 (Value.ref 174), en P "law" 426 (Value.ref 179)] 32 }
noncomputable def o209 (P : Params) : Obj := { cls := Value.none, data := Data.fields #[Value.int 2 0, Value.int 0 0, Value.ref 20, Value.int 4 0, Value.int 0 0, Value.ref 33, Value.int 6 0, Value.int 0 0, Value.ref 45, Value.int 8 0, Value.int 0 0, Value.ref 57, Value.int 26 0, Value.int 0 0, Value.ref 64, Value.int 29 0, Value.int 0 0, Value.ref 71, Value.int 37 0, Value.int 0 0, Value.ref 78, Value.int 41 0, Value.int 0 0, Value.ref 85, Value.int 52 0, Value.int 0 0, Value.ref 92, Value.int 67 0, Value.int 0 0, Value.ref 99, Value.int 99 0, Value.int 0 0, Value.ref 106, Value.int 102 0, Value.int 0 0, Value.ref 113, Value.int 108 0, Value.int 0 0, Value.ref 120, Value.int 127 0, Value.int 0 0, Value.ref 127, Value.int 134 0, Value.int 0 0, Value.ref 134, Value.int 142 0, Value.int 0 0, Value.ref 139, Value.int 144 0, Value.int 0 0, Value.ref 144, Value.int 146 0, Value.int 0 0, Value.ref 149, Value.int 153 0, Value.int 0 0, Value.ref 156, Value.int 160 0, Value.int 0 0, Value.ref 161, Value.int 167 0, Value.int 0 0, Value.ref 168, Value.int 173 0, Value.int 0 0, Value.ref 173, Value.int 201 0, Value.int 0 0, Value.ref 178] }
noncomputable def o210 (P : Params) : Obj := tu []
noncomputable def o211 (P : Params) : Obj := { cls := Value.none, data := Data.fields #[] }
noncomputable def o212 (P : Params) : Obj := { cls := Value.type "tuple", data := Data.seq #[sv "one" 409, sv "other" 410, sv "code" 411] }
noncomputable def o213 (P : Params) : Obj := tu []
noncomputable def o214 (P : Params) : Obj := (fun {a : Arguments} {b : List Stmt} {s : Scope} {n : Str} {d : List Expr} {r : Option Expr} {t : List TypeParam} {c : Option Scope} {i : Str} {p : Pos} (_ : stAt 24 = .FunctionDef n a b d r t s c i p) => fz "_law_sign" a b s) rfl
noncomputable def o215 (P : Params) : Obj := co "_law_sign" 406 167 3 163 164 [Value.ref 165, Value.ref 166, Value.ref 167] 412 413
noncomputable def o216 (P : Params) : Obj := (fun {a : Arguments} {b : List Stmt} {s : Scope} {n : Str} {d : List Expr} {r : Option Expr} {t : List TypeParam} {c : Option Scope} {i : Str} {p : Pos} (_ : stAt 24 = .FunctionDef n a b d r t s c i p) => fo "_law_sign" "law_om0020_01" 331 a b s 168) rfl
noncomputable def o217 (P : Params) : Obj := tu []
noncomputable def o218 (P : Params) : Obj := { cls := Value.none, data := Data.fields #[] }
noncomputable def o219 (P : Params) : Obj := (fun {a : Arguments} {b : List Stmt} {s : Scope} {n : Str} {d : List Expr} {r : Option Expr} {t : List TypeParam} {c : Option Scope} {i : Str} {p : Pos} (_ : stAt 25 = .FunctionDef n a b d r t s c i p) => fz "_law_under" a b s) rfl
noncomputable def o220 (P : Params) : Obj := co "_law_under" 415 173 4 170 171 [Value.none, Value.none, Value.ref 172] 418 419
noncomputable def o221 (P : Params) : Obj := (fun {a : Arguments} {b : List Stmt} {s : Scope} {n : Str} {d : List Expr} {r : Option Expr} {t : List TypeParam} {c : Option Scope} {i : Str} {p : Pos} (_ : stAt 25 = .FunctionDef n a b d r t s c i p) => fo "_law_under" "law_om0020_01" 331 a b s 173) rfl
noncomputable def o222 (P : Params) : Obj := tu []
noncomputable def o223 (P : Params) : Obj := { cls := Value.none, data := Data.fields #[] }
noncomputable def o224 (P : Params) : Obj := (fun {a : Arguments} {b : List Stmt} {s : Scope} {n : Str} {d : List Expr} {r : Option Expr} {t : List TypeParam} {c : Option Scope} {i : Str} {p : Pos} (_ : stAt 26 = .FunctionDef n a b d r t s c i p) => fz "law" a b s) rfl
noncomputable def o225 (P : Params) : Obj := co "law" 421 201 1 175 176 [Value.none, Value.none, Value.ref 177] 424 425
noncomputable def o226 (P : Params) : Obj := (fun {a : Arguments} {b : List Stmt} {s : Scope} {n : Str} {d : List Expr} {r : Option Expr} {t : List TypeParam} {c : Option Scope} {i : Str} {p : Pos} (_ : stAt 26 = .FunctionDef n a b d r t s c i p) => fo "law" "law_om0020_01" 331 a b s 178) rfl
/-- what stands in the heap behind the top, as far as the walk asks for it -/
noncomputable def KH : Params → Frag := fun P =>
  (nat_lit 3, o208 P) :: (nat_lit 20, o57 P) :: (nat_lit 23, o60 P) :: (nat_lit 24, o82 P) :: (nat_lit 33, o73 P) :: (nat_lit 36, o76 P) :: (nat_lit 37, o77 P) :: (nat_lit 45, o88 P) ::
  (nat_lit 48, o91 P) :: (nat_lit 49, o92 P) :: (nat_lit 57, o100 P) :: (nat_lit 58, o101 P) :: (nat_lit 64, o107 P) :: (nat_lit 65, o108 P) :: (nat_lit 71, o114 P) :: (nat_lit 72, o115 P) ::
  (nat_lit 78, o121 P) :: (nat_lit 79, o122 P) :: (nat_lit 85, o128 P) :: (nat_lit 86, o129 P) :: (nat_lit 92, o137 P) :: (nat_lit 93, o138 P) :: (nat_lit 99, o144 P) :: (nat_lit 100, o145 P) ::
  (nat_lit 106, o151 P) :: (nat_lit 107, o152 P) :: (nat_lit 113, o158 P) :: (nat_lit 114, o159 P) :: (nat_lit 120, o165 P) :: (nat_lit 121, o166 P) :: (nat_lit 127, o172 P) :: (nat_lit 128, o173 P) ::
  (nat_lit 134, o179 P) :: (nat_lit 135, o180 P) :: (nat_lit 139, o184 P) :: (nat_lit 140, o185 P) :: (nat_lit 144, o189 P) :: (nat_lit 145, o190 P) :: (nat_lit 149, o194 P) :: (nat_lit 150, o195 P) ::
  (nat_lit 156, o201 P) :: (nat_lit 157, o202 P) :: (nat_lit 161, o206 P) :: (nat_lit 162, o207 P) :: (nat_lit 168, o215 P) :: (nat_lit 169, o216 P) :: (nat_lit 173, o220 P) :: (nat_lit 174, o221 P) ::
  (nat_lit 178, o225 P) :: (nat_lit 179, o226 P) :: []
noncomputable def asL : List Addr := [3, 20, 23, 24, 33, 36, 37, 45, 48, 49, 57, 58, 64, 65, 71, 72, 78, 79, 85, 86, 92, 93, 99, 100, 106, 107, 113, 114, 120, 121, 127, 128, 134, 135, 139, 140, 144, 145, 149, 150, 156, 157, 161, 162, 168, 169, 173, 174, 178, 179]
theorem asL_eq : ∀ P, asL = (KH P).map (·.1) := fun _ => by kernel_rfl
section
noncomputable abbrev N := @BT.node
noncomputable abbrev E := BT.nil
noncomputable def tr47 (P : Params) : BT := N (PySem.W.boot_o_0 P) (N (PySem.W.boot_o_1 P) (N (PySem.W.boot_o_3 P) (N (PySem.W.boot_o_7 P) E E) (N (o43 P) E E)) (N (PySem.W.boot_o_5 P) (N (PySem.W.boot_o_9 P) E E) (N (o45 P) E E))) (N (PySem.W.boot_o_2 P) (N (PySem.W.boot_o_4 P) (N (PySem.W.boot_o_8 P) E E) (N (o44 P) E E)) (N (PySem.W.boot_o_6 P) (N (PySem.W.boot_o_10 P) E E) (N (o46 P) E E)))
noncomputable def tr64 (P : Params) : BT := N (PySem.W.boot_o_0 P) (N (PySem.W.boot_o_1 P) (N (o50 P) (N (PySem.W.boot_o_7 P) (N (o52 P) E E) (N (o60 P) E E)) (N (o43 P) (N (o56 P) E E) (N (o64 P) E E))) (N (PySem.W.boot_o_5 P) (N (PySem.W.boot_o_9 P) (N (o54 P) E E) (N (o62 P) E E)) (N (o45 P) (N (o58 P) E E) E))) (N (o49 P) (N (PySem.W.boot_o_4 P) (N (PySem.W.boot_o_8 P) (N (o53 P) E E) (N (o61 P) E E)) (N (o51 P) (N (o57 P) E E) E)) (N (PySem.W.boot_o_6 P) (N (PySem.W.boot_o_10 P) (N (o55 P) E E) (N (o63 P) E E)) (N (o46 P) (N (o59 P) E E) E)))
noncomputable def tr79 (P : Params) : BT := N (PySem.W.boot_o_0 P) (N (PySem.W.boot_o_1 P) (N (o65 P) (N (PySem.W.boot_o_7 P) (N (o52 P) (N (o71 P) E E) E) (N (o60 P) (N (o79 P) E E) E)) (N (o43 P) (N (o56 P) (N (o75 P) E E) E) (N (o64 P) E E))) (N (PySem.W.boot_o_5 P) (N (PySem.W.boot_o_9 P) (N (o54 P) (N (o73 P) E E) E) (N (o62 P) E E)) (N (o45 P) (N (o58 P) (N (o77 P) E E) E) (N (o69 P) E E)))) (N (o49 P) (N (PySem.W.boot_o_4 P) (N (PySem.W.boot_o_8 P) (N (o53 P) (N (o72 P) E E) E) (N (o67 P) E E)) (N (o66 P) (N (o57 P) (N (o76 P) E E) E) (N (o68 P) E E))) (N (PySem.W.boot_o_6 P) (N (PySem.W.boot_o_10 P) (N (o55 P) (N (o74 P) E E) E) (N (o63 P) E E)) (N (o46 P) (N (o59 P) (N (o78 P) E E) E) (N (o70 P) E E))))
noncomputable def tr129 (P : Params) : BT := N (PySem.W.boot_o_0 P) (N (PySem.W.boot_o_1 P) (N (o80 P) (N (PySem.W.boot_o_7 P) (N (o52 P) (N (o71 P) (N (o106 P) E E) E) (N (o90 P) (N (o122 P) E E) E)) (N (o60 P) (N (o79 P) (N (o114 P) E E) E) (N (o98 P) E E))) (N (o43 P) (N (o56 P) (N (o75 P) (N (o110 P) E E) E) (N (o94 P) (N (o126 P) E E) E)) (N (o64 P) (N (o86 P) (N (o118 P) E E) E) (N (o102 P) E E)))) (N (PySem.W.boot_o_5 P) (N (PySem.W.boot_o_9 P) (N (o54 P) (N (o73 P) (N (o108 P) E E) E) (N (o92 P) (N (o124 P) E E) E)) (N (o62 P) (N (o84 P) (N (o116 P) E E) E) (N (o100 P) E E))) (N (o45 P) (N (o58 P) (N (o77 P) (N (o112 P) E E) E) (N (o96 P) (N (o128 P) E E) E)) (N (o69 P) (N (o88 P) (N (o120 P) E E) E) (N (o104 P) E E))))) (N (o49 P) (N (PySem.W.boot_o_4 P) (N (PySem.W.boot_o_8 P) (N (o53 P) (N (o72 P) (N (o107 P) E E) E) (N (o91 P) (N (o123 P) E E) E)) (N (o82 P) (N (o83 P) (N (o115 P) E E) E) (N (o99 P) E E))) (N (o81 P) (N (o57 P) (N (o76 P) (N (o111 P) E E) E) (N (o95 P) (N (o127 P) E E) E)) (N (o68 P) (N (o87 P) (N (o119 P) E E) E) (N (o103 P) E E)))) (N (PySem.W.boot_o_6 P) (N (PySem.W.boot_o_10 P) (N (o55 P) (N (o74 P) (N (o109 P) E E) E) (N (o93 P) (N (o125 P) E E) E)) (N (o63 P) (N (o85 P) (N (o117 P) E E) E) (N (o101 P) E E))) (N (o46 P) (N (o59 P) (N (o78 P) (N (o113 P) E E) E) (N (o97 P) (N (o129 P) E E) E)) (N (o70 P) (N (o89 P) (N (o121 P) E E) E) (N (o105 P) E E)))))
noncomputable def tr207 (P : Params) : BT := N (PySem.W.boot_o_0 P) (N (PySem.W.boot_o_1 P) (N (o130 P) (N (PySem.W.boot_o_7 P) (N (o52 P) (N (o71 P) (N (o106 P) (N (o172 P) E E) E) (N (o140 P) (N (o204 P) E E) E)) (N (o90 P) (N (o122 P) (N (o188 P) E E) E) (N (o156 P) E E))) (N (o60 P) (N (o79 P) (N (o114 P) (N (o180 P) E E) E) (N (o148 P) E E)) (N (o98 P) (N (o132 P) (N (o196 P) E E) E) (N (o164 P) E E)))) (N (o43 P) (N (o56 P) (N (o75 P) (N (o110 P) (N (o176 P) E E) E) (N (o144 P) E E)) (N (o94 P) (N (o126 P) (N (o192 P) E E) E) (N (o160 P) E E))) (N (o64 P) (N (o86 P) (N (o118 P) (N (o184 P) E E) E) (N (o152 P) E E)) (N (o102 P) (N (o136 P) (N (o200 P) E E) E) (N (o168 P) E E))))) (N (PySem.W.boot_o_5 P) (N (PySem.W.boot_o_9 P) (N (o54 P) (N (o73 P) (N (o108 P) (N (o174 P) E E) E) (N (o142 P) (N (o206 P) E E) E)) (N (o92 P) (N (o124 P) (N (o190 P) E E) E) (N (o158 P) E E))) (N (o62 P) (N (o84 P) (N (o116 P) (N (o182 P) E E) E) (N (o150 P) E E)) (N (o100 P) (N (o134 P) (N (o198 P) E E) E) (N (o166 P) E E)))) (N (o45 P) (N (o58 P) (N (o77 P) (N (o112 P) (N (o178 P) E E) E) (N (o146 P) E E)) (N (o96 P) (N (o128 P) (N (o194 P) E E) E) (N (o162 P) E E))) (N (o69 P) (N (o88 P) (N (o120 P) (N (o186 P) E E) E) (N (o154 P) E E)) (N (o104 P) (N (o138 P) (N (o202 P) E E) E) (N (o170 P) E E)))))) (N (o49 P) (N (PySem.W.boot_o_4 P) (N (PySem.W.boot_o_8 P) (N (o53 P) (N (o72 P) (N (o107 P) (N (o173 P) E E) E) (N (o141 P) (N (o205 P) E E) E)) (N (o91 P) (N (o123 P) (N (o189 P) E E) E) (N (o157 P) E E))) (N (o82 P) (N (o83 P) (N (o115 P) (N (o181 P) E E) E) (N (o149 P) E E)) (N (o99 P) (N (o133 P) (N (o197 P) E E) E) (N (o165 P) E E)))) (N (o131 P) (N (o57 P) (N (o76 P) (N (o111 P) (N (o177 P) E E) E) (N (o145 P) E E)) (N (o95 P) (N (o127 P) (N (o193 P) E E) E) (N (o161 P) E E))) (N (o68 P) (N (o87 P) (N (o119 P) (N (o185 P) E E) E) (N (o153 P) E E)) (N (o103 P) (N (o137 P) (N (o201 P) E E) E) (N (o169 P) E E))))) (N (PySem.W.boot_o_6 P) (N (PySem.W.boot_o_10 P) (N (o55 P) (N (o74 P) (N (o109 P) (N (o175 P) E E) E) (N (o143 P) (N (o207 P) E E) E)) (N (o93 P) (N (o125 P) (N (o191 P) E E) E) (N (o159 P) E E))) (N (o63 P) (N (o85 P) (N (o117 P) (N (o183 P) E E) E) (N (o151 P) E E)) (N (o101 P) (N (o135 P) (N (o199 P) E E) E) (N (o167 P) E E)))) (N (o46 P) (N (o59 P) (N (o78 P) (N (o113 P) (N (o179 P) E E) E) (N (o147 P) E E)) (N (o97 P) (N (o129 P) (N (o195 P) E E) E) (N (o163 P) E E))) (N (o70 P) (N (o89 P) (N (o121 P) (N (o187 P) E E) E) (N (o155 P) E E)) (N (o105 P) (N (o139 P) (N (o203 P) E E) E) (N (o171 P) E E))))))
noncomputable def tr226 (P : Params) : BT := N (PySem.W.boot_o_0 P) (N (PySem.W.boot_o_1 P) (N (o208 P) (N (PySem.W.boot_o_7 P) (N (o52 P) (N (o71 P) (N (o106 P) (N (o172 P) E E) E) (N (o140 P) (N (o204 P) E E) E)) (N (o90 P) (N (o122 P) (N (o188 P) E E) E) (N (o156 P) (N (o222 P) E E) E))) (N (o60 P) (N (o79 P) (N (o114 P) (N (o180 P) E E) E) (N (o148 P) (N (o214 P) E E) E)) (N (o98 P) (N (o132 P) (N (o196 P) E E) E) (N (o164 P) E E)))) (N (o43 P) (N (o56 P) (N (o75 P) (N (o110 P) (N (o176 P) E E) E) (N (o144 P) (N (o210 P) E E) E)) (N (o94 P) (N (o126 P) (N (o192 P) E E) E) (N (o160 P) (N (o226 P) E E) E))) (N (o64 P) (N (o86 P) (N (o118 P) (N (o184 P) E E) E) (N (o152 P) (N (o218 P) E E) E)) (N (o102 P) (N (o136 P) (N (o200 P) E E) E) (N (o168 P) E E))))) (N (PySem.W.boot_o_5 P) (N (PySem.W.boot_o_9 P) (N (o54 P) (N (o73 P) (N (o108 P) (N (o174 P) E E) E) (N (o142 P) (N (o206 P) E E) E)) (N (o92 P) (N (o124 P) (N (o190 P) E E) E) (N (o158 P) (N (o224 P) E E) E))) (N (o62 P) (N (o84 P) (N (o116 P) (N (o182 P) E E) E) (N (o150 P) (N (o216 P) E E) E)) (N (o100 P) (N (o134 P) (N (o198 P) E E) E) (N (o166 P) E E)))) (N (o45 P) (N (o58 P) (N (o77 P) (N (o112 P) (N (o178 P) E E) E) (N (o146 P) (N (o212 P) E E) E)) (N (o96 P) (N (o128 P) (N (o194 P) E E) E) (N (o162 P) E E))) (N (o69 P) (N (o88 P) (N (o120 P) (N (o186 P) E E) E) (N (o154 P) (N (o220 P) E E) E)) (N (o104 P) (N (o138 P) (N (o202 P) E E) E) (N (o170 P) E E)))))) (N (o49 P) (N (PySem.W.boot_o_4 P) (N (PySem.W.boot_o_8 P) (N (o53 P) (N (o72 P) (N (o107 P) (N (o173 P) E E) E) (N (o141 P) (N (o205 P) E E) E)) (N (o91 P) (N (o123 P) (N (o189 P) E E) E) (N (o157 P) (N (o223 P) E E) E))) (N (o82 P) (N (o83 P) (N (o115 P) (N (o181 P) E E) E) (N (o149 P) (N (o215 P) E E) E)) (N (o99 P) (N (o133 P) (N (o197 P) E E) E) (N (o165 P) E E)))) (N (o209 P) (N (o57 P) (N (o76 P) (N (o111 P) (N (o177 P) E E) E) (N (o145 P) (N (o211 P) E E) E)) (N (o95 P) (N (o127 P) (N (o193 P) E E) E) (N (o161 P) E E))) (N (o68 P) (N (o87 P) (N (o119 P) (N (o185 P) E E) E) (N (o153 P) (N (o219 P) E E) E)) (N (o103 P) (N (o137 P) (N (o201 P) E E) E) (N (o169 P) E E))))) (N (PySem.W.boot_o_6 P) (N (PySem.W.boot_o_10 P) (N (o55 P) (N (o74 P) (N (o109 P) (N (o175 P) E E) E) (N (o143 P) (N (o207 P) E E) E)) (N (o93 P) (N (o125 P) (N (o191 P) E E) E) (N (o159 P) (N (o225 P) E E) E))) (N (o63 P) (N (o85 P) (N (o117 P) (N (o183 P) E E) E) (N (o151 P) (N (o217 P) E E) E)) (N (o101 P) (N (o135 P) (N (o199 P) E E) E) (N (o167 P) E E)))) (N (o46 P) (N (o59 P) (N (o78 P) (N (o113 P) (N (o179 P) E E) E) (N (o147 P) (N (o213 P) E E) E)) (N (o97 P) (N (o129 P) (N (o195 P) E E) E) (N (o163 P) E E))) (N (o70 P) (N (o89 P) (N (o121 P) (N (o187 P) E E) E) (N (o155 P) (N (o221 P) E E) E)) (N (o105 P) (N (o139 P) (N (o203 P) E E) E) (N (o171 P) E E))))))
noncomputable def hp46 (P : Params) : Heap := ⟨#[PySem.W.boot_o_0 P, PySem.W.boot_o_1 P, PySem.W.boot_o_2 P, PySem.W.boot_o_3 P, PySem.W.boot_o_4 P, PySem.W.boot_o_5 P, PySem.W.boot_o_6 P, PySem.W.boot_o_7 P, PySem.W.boot_o_8 P, PySem.W.boot_o_9 P, PySem.W.boot_o_10 P, o43 P, o44 P, o45 P, o46 P], {}⟩
noncomputable def hp227 (P : Params) : Heap := ⟨#[PySem.W.boot_o_0 P, PySem.W.boot_o_1 P, o49 P, o208 P, PySem.W.boot_o_4 P, PySem.W.boot_o_5 P, PySem.W.boot_o_6 P, PySem.W.boot_o_7 P, PySem.W.boot_o_8 P, PySem.W.boot_o_9 P, PySem.W.boot_o_10 P, o43 P, o209 P, o45 P, o46 P, o52 P, o53 P, o54 P, o55 P, o56 P, o57 P, o58 P, o59 P, o60 P, o82 P, o62 P, o63 P, o64 P, o68 P, o69 P, o70 P, o71 P, o72 P, o73 P, o74 P, o75 P, o76 P, o77 P, o78 P, o79 P, o83 P, o84 P, o85 P, o86 P, o87 P, o88 P, o89 P, o90 P, o91 P, o92 P, o93 P, o94 P, o95 P, o96 P, o97 P, o98 P, o99 P, o100 P, o101 P, o102 P, o103 P, o104 P, o105 P, o106 P, o107 P, o108 P, o109 P, o110 P, o111 P, o112 P, o113 P, o114 P, o115 P, o116 P, o117 P, o118 P, o119 P, o120 P, o121 P, o122 P, o123 P, o124 P, o125 P, o126 P, o127 P, o128 P, o129 P, o132 P, o133 P, o134 P, o135 P, o136 P, o137 P, o138 P, o139 P, o140 P, o141 P, o142 P, o143 P, o144 P, o145 P, o146 P, o147 P, o148 P, o149 P, o150 P, o151 P, o152 P, o153 P, o154 P, o155 P, o156 P, o157 P, o158 P, o159 P, o160 P, o161 P, o162 P, o163 P, o164 P, o165 P, o166 P, o167 P, o168 P, o169 P, o170 P, o171 P, o172 P, o173 P, o174 P, o175 P, o176 P, o177 P, o178 P, o179 P, o180 P, o181 P, o182 P, o183 P, o184 P, o185 P, o186 P, o187 P, o188 P, o189 P, o190 P, o191 P, o192 P, o193 P, o194 P, o195 P, o196 P, o197 P, o198 P, o199 P, o200 P, o201 P, o202 P, o203 P, o204 P, o205 P, o206 P, o207 P, o210 P, o211 P, o212 P, o213 P, o214 P, o215 P, o216 P, o217 P, o218 P, o219 P, o220 P, o221 P, o222 P, o223 P, o224 P, o225 P, o226 P], {}⟩
/-- the frame of the top, its code, the statements from a place on -/
noncomputable def eT : Env := { scope := PW.main.scope, locals := mainNs, globals := mainNs, cells := [], code := .ref 13, frame := some 14 }
noncomputable abbrev cT : Code := .body (behindTheImports PW) eT
noncomputable abbrev q0 : Pos := ⟨0, 0, 0, 0⟩
noncomputable def sT (i n : Nat) : List Stmt := ((behindTheImports PW).drop i).take n
noncomputable abbrev at_ (t : BT) (n k : Nat) (os : OsState) : SharedT := ⟨t, n, {}, #[], {}, k, os⟩
theorem body_cut : behindTheImports PW = sT 0 2 ++ (sT 2 1 ++ (sT 3 7 ++ (sT 10 14 ++ (sT 24 3 ++ [])))) := by kernel_rfl
theorem run_pre (w : World) (os : OsState) : topGo treeTable PW w 11 (some (.ref 6)) 12 ⟨boot_heap w.params, #[], boot_drawn, boot_toks, os⟩ (topStub PW) = some (⟨hp46 w.params, #[], {}, 187, os⟩, ⟨denote treeTable cT, cT, q0, [topFrame q0]⟩) := by kernel_rfl
theorem run_block (w : World) (os : OsState) : segRun treeTable PW w 11 (some (.ref 6)) 1 1 ⟨hp46 w.params, #[], {}, 187, os⟩ (blockOf (behindTheImports PW) eT cT q0 [topFrame q0]) = some (.next, (at_ (tr47 w.params) 15 187 os).abs, cT, q0) := by kernel_rfl
theorem run_0 (w : World) (os : OsState) : segRunT treeTable PW w 11 (some (.ref 6)) 1 206 (at_ (tr47 w.params) 15 187 os) (piecesOf (sT 0 2) eT cT q0 [topFrame q0]) = some (.next, at_ (tr64 w.params) 28 209 os, cT, ⟨2, 0, 3, 8⟩) := by kernel_rfl
theorem run_1 (w : World) (os : OsState) : segRunT treeTable PW w 11 (some (.ref 6)) 1 214 (at_ (tr64 w.params) 28 209 os) (piecesOf (sT 2 1) eT cT ⟨2, 0, 3, 8⟩ [topFrame q0]) = some (.next, at_ (tr79 w.params) 40 225 os, cT, ⟨4, 0, 5, 8⟩) := by kernel_rfl
theorem run_2 (w : World) (os : OsState) : segRunT treeTable PW w 11 (some (.ref 6)) 1 384 (at_ (tr79 w.params) 40 225 os) (piecesOf (sT 3 7) eT cT ⟨4, 0, 5, 8⟩ [topFrame q0]) = some (.next, at_ (tr129 w.params) 87 294 os, cT, ⟨41, 0, 51, 23⟩) := by kernel_rfl
theorem run_3 (w : World) (os : OsState) : segRunT treeTable PW w 11 (some (.ref 6)) 1 383 (at_ (tr129 w.params) 87 294 os) (piecesOf (sT 10 14) eT cT ⟨41, 0, 51, 23⟩ [topFrame q0]) = some (.next, at_ (tr207 w.params) 163 406 os, cT, ⟨160, 0, 166, 25⟩) := by kernel_rfl
theorem run_4 (w : World) (os : OsState) : segRunT treeTable PW w 11 (some (.ref 6)) 1 84 (at_ (tr207 w.params) 163 406 os) (piecesOf (sT 24 3) eT cT ⟨160, 0, 166, 25⟩ [topFrame q0]) = some (.next, at_ (tr226 w.params) 180 427 os, cT, ⟨201, 0, 210, 15⟩) := by kernel_rfl
theorem run_fin (w : World) (os : OsState) : topRun treeTable PW w 11 (some (.ref 6)) 2 (at_ (tr226 w.params) 180 427 os).abs ⟨doneF .next, cT, ⟨201, 0, 210, 15⟩, [topFrame q0]⟩ = some ⟨hp227 w.params, #[], {}, 427, os⟩ := by kernel_rfl
theorem run_all (w : World) (os : OsState) : topRun treeTable PW w 11 (some (.ref 6)) (12 + (1 + (206 + (214 + (384 + (383 + (84 + 2))))))) ⟨boot_heap w.params, #[], boot_drawn, boot_toks, os⟩ (topStub PW) = some ⟨hp227 w.params, #[], {}, 427, os⟩ := by
  refine go_top (run_pre w os) (piece_block (run_block w os) ?_)
  rw [body_cut]
  exact piece_app (segRun_of (run_0 w os)) (piece_app (segRun_of (run_1 w os)) (piece_app (segRun_of (run_2 w os)) (piece_app (segRun_of (run_3 w os)) (piece_app (segRun_of (run_4 w os)) (piece_nil (run_fin w os))))))
noncomputable abbrev XT : Shared → Bool := fun s => xlAt VW [] s && recOk (RowW.records PySem.Challenge.rw_om0020_01.row.toRowW) s
noncomputable abbrev HK : Hook := kHook KH asL asL_eq
noncomputable abbrev sF (w : World) (os : OsState) : Shared := ⟨hp227 w.params, #[], {}, 427, os⟩
theorem look_a (w : World) (os : OsState) : (staticsOk (importedModules PW.main.body) (boot_heap w.params) (hp227 w.params) && namesBound PW (hp227 w.params) && gensDone (sF w os) && laidKept (boot_heap w.params) (hp227 w.params)) = true := by kernel_rfl
theorem look_b (w : World) (os : OsState) : openSeen VW [] (importedModules PW.main.body) XT true (sF w os) = openGood VW [] := by kernel_rfl
theorem look_c (w : World) (os : OsState) : HK.obs (sF w os) = HK.val w := by kernel_rfl
theorem left0 : LeftO PW VW [] XT HK.obs HK.val 2658 :=
  LeftO.of_pieces (boot_open (by kernel_rfl) (by decide) (fun s => by kernel_rfl)) (fun w => by kernel_rfl) run_all (by decide) fun w => funext fun os => Prod.ext (look_a w os) (Prod.ext (look_b w os) (look_c w os))
end
theorem said : PySem.Challenge.rw_om0020_01.wellSaid = true := by
  unfold OpenLaw.wellSaid
  repeat' first | with_reducible refine look_both ?_ ?_ | unfold OpenRow.wellSaid | unfold OpenRow.partSaid | unfold OpenScript.wellSaid | unfold looksOpen
  all_goals decide +kernel
theorem hd {d : DefRec} {kwd : List (Str × Expr)} (hdef : defOf VW PySem.Challenge.rw_om0020_01.row.name = some (d, kwd)) (hp : PW.theDef PySem.Challenge.rw_om0020_01.row.name = some (d.params, d.body, d.scope)) (hk : kwWritten? d.params.kwonlyargs d.params.kw_defaults = some kwd)
    (h : WalkO VW [] (XL VW []) HK.says PySem.Challenge.rw_om0020_01.row.toRowW d kwd fun f vs => PySem.call f vs) : PySem.Challenge.rw_om0020_01.Holds := by
  refine holds_law said fun sd => ?_
  refine holds_open (q := VW) (loose := []) (Xt := XT) (XP := XL VW []) (Yf := HK.obs) (Ya := HK.val) (YP := HK.says) (N := 2658)
    left0 HK.of HK.keeps (fun s e => xl_of s (Bool.and_eq_true_iff.mp e).1) XL.keeps hdef hp hk (fun s e => recFacts_of (Bool.and_eq_true_iff.mp e).2) (by rfl) sd (by decide +kernel) ⟨rfl, rfl, rfl, rfl, rfl, by decide +kernel⟩ ?hw h
  case hw => w_witness2

theorem fill (w : World) (h : Heap) : PySem.Challenge.rw_om0020_01.Holds → (KH w.params).In h → True := by k_fill; intros; trivial

section
noncomputable abbrev PP : Program := PySem.Challenge.rw_om0020_01.row.prog
noncomputable abbrev VV : Program := VW

/-- what a caller brings: its frame and all that stands below it -/
structure Cal (w : World) (mean : ExcName → Option Value) (mg mb : Str → Option Value) (outer : List Env) (A₀ : Around) (base h₀ : Heap) (L : Addr) (h : Heap) (m : Str → Option Value) (cs : Scope) : Prop where
  B : Below A₀ base outer h₀
  F : Fr h₀ L h m
  X : (KH w.params).In h₀
  T : Top VV (looseW VV []) mean mg mb h₀
  hk : cs.kind = .function

def Keeps (h h' : Heap) : Prop := ∀ b o, h.get? b = some o → h'.get? b = some o
theorem Keeps.refl (h : Heap) : Keeps h h := fun _ _ e => e
theorem Keeps.trans {a b c : Heap} (x : Keeps a b) (y : Keeps b c) : Keeps a c := fun p o e => y p o (x p o e)

theorem frKeeps {h₀ h h' : Heap} {L : Addr} {m : Str → Option Value} (F : Fr h₀ L h m) (k : Keeps h h') : Fr h₀ L h' m := by
  obtain ⟨oL, a1, a2, hL, a3⟩ := F.ns
  exact ⟨⟨oL, a1, a2, k _ _ hL, a3⟩, fun b o e => k _ _ (F.keep b o e), F.above⟩
theorem newsKeeps {h₀ h h' : Heap} {L : Addr} {news : List (Addr × Obj)} (N : News h₀ L h news) (k : Keeps h h') : News h₀ L h' news :=
  fun p hp => ⟨k _ _ (N p hp).1, (N p hp).2⟩
/-- a thing that was not there is new to every older heap -/
theorem newsNew {h₀ h h' : Heap} {L a : Addr} {o : Obj} {m : Str → Option Value} {news : List (Addr × Obj)} (F : Fr h₀ L h m) (N : News h₀ L h' news) (ho : h'.get? a = some o) (hn : h.get? a = none) : News h₀ L h' ((a, o) :: news) := by
  intro p hp
  rcases List.mem_cons.mp hp with rfl | hp
  · refine ⟨ho, fun e => ?_, ?_⟩
    · obtain ⟨oL, a1, a2, hL, a3⟩ := F.ns
      have : h.get? L = none := by rw [← e]; exact hn
      rw [this] at hL; cases hL
    · cases q : h₀.get? a with
      | none => rfl
      | some x => have := F.keep a x q; rw [hn] at this; cases this
  · exact N p hp

section
variable {w : World} {mean : ExcName → Option Value} {mg mb : Str → Option Value} {outer : List Env} {A₀ : Around} {base h₀ : Heap} {L : Addr} {m : Str → Option Value} {cs : Scope} {dp un : Nat} {gd : Option (List Code)} {cn : Str} {a : Addr} {ccd : Value} {cl : List (Str × Addr)}
  {s : Shared} {Q E : Value → Shared → Prop}
  {name qual : Str} {params : Arguments} {body : List Stmt} {scope : Scope} {dV kV doc pm cdv ct oc : Value} {an od : Option Addr} {osl : Array (Option Value)} {f : Addr}

/-- a def of the text is called; nothing of the caller's is changed -/
theorem enter0 (C : Cal w mean mg mb outer A₀ base h₀ L s.heap m cs) (args : List Value) (binds : List (Str × Value))
    (ho : (KH w.params).lookup f = some ⟨oc, od, .func (fnOf name qual params body scope dV kV doc pm an cdv ct), osl⟩) (hcd : codeIn (KH w.params) cdv qual = true) (hroom : dp < recursionLimit)
    (hbind : bindArgs (fnOf name qual params body scope dV kV doc pm an cdv ct) ⟨args, []⟩ = pure binds) (hloc : ∀ y ∈ binds, scope.names.lookup y.1 = some .local)
    (hco : scope.isCoroutine = false) (hgen : scope.isGenerator = false) (hk : scope.kind = .function) (hcell : ∀ x ∈ scope.names, x.2 ≠ .cell)
    (h : ∀ L' h₁, Below (ktrTop dp un gd cn cs L a ccd cl outer) base (envX cn cs L a ccd cl :: outer) s.heap → Fr s.heap L' h₁ (fun y => binds.reverse.lookup y) → (KH w.params).In s.heap → Top VV (looseW VV []) mean mg mb s.heap → News s.heap L' h₁ [] → s.heap.get? L' = none →
      wpAny (model PP w) ((ktrTop dp un gd cn cs L a ccd cl outer).deeper (envOf qual scope L' f cdv)) (execs body (envOf qual scope L' f cdv))
        (fun fl s' => Q (match fl with | .ret v => v | _ => .none) s') (fun _ _ => False) { s with heap := h₁, toks := s.toks + binds.length }) :
    wpAny (model PP w) (ktrTop dp un gd cn cs L a ccd cl outer) (call (.ref f) args) Q E s := by
  obtain ⟨B, F, X, T, hks⟩ := C
  have X' := X.keeps F.keep
  refine wpAny_call ?_
  refine codeAny_call_def (fd := fnOf name qual params body scope dV kV doc pm an cdv ct) (body := body) (binds := binds) hroom (X' _ _ ho) rfl (T.nolimit.keeps F.keep) (codeRec_of X' hcd) rfl (BindsTo.of_eq hbind) hcell hloc (fun h₁ hns hk₁ => ?_) hco hgen hk
  have B₁ : Below ({ handled := none, depth := dp, frames := some (envX cn cs L a ccd cl :: outer), guards := gd, units := un } : Around) base (envX cn cs L a ccd cl :: outer) s.heap := by
    obtain ⟨_, x2, x3⟩ := pushX (env := envX cn cs L a ccd cl) B F rfl hks
    exact ⟨rfl, x2, x3⟩
  refine wpAny_mono (h s.heap.objs.size h₁ B₁ ⟨hns, hk₁, Nat.le_refl _⟩ X' (T.keeps F.keep) News.nil ?_) (fun fl s' x => x) fun e s' x => x.elim
  cases q : s.heap.get? s.heap.objs.size with
  | none => rfl
  | some o => exact absurd (Heap.lt_size q) (Nat.lt_irrefl _)

/-- a def of the text is called that may change the things of mu -/
theorem enterM (C : Cal w mean mg mb outer A₀ base h₀ L s.heap m cs) {mu : List (Addr × Obj)} (N : News h₀ L s.heap mu) (args : List Value) (binds : List (Str × Value))
    (ho : (KH w.params).lookup f = some ⟨oc, od, .func (fnOf name qual params body scope dV kV doc pm an cdv ct), osl⟩) (hcd : codeIn (KH w.params) cdv qual = true) (hroom : dp < recursionLimit)
    (hbind : bindArgs (fnOf name qual params body scope dV kV doc pm an cdv ct) ⟨args, []⟩ = pure binds) (hloc : ∀ y ∈ binds, scope.names.lookup y.1 = some .local)
    (hco : scope.isCoroutine = false) (hgen : scope.isGenerator = false) (hk : scope.kind = .function) (hcell : ∀ x ∈ scope.names, x.2 ≠ .cell)
    (h : ∀ g L' h₁, g = hideAll s.heap (mu.map (·.1)) → Below (ktrTop dp un gd cn cs L a ccd cl outer) base (envX cn cs L a ccd cl :: outer) g → Fr g L' h₁ (fun y => binds.reverse.lookup y) → (KH w.params).In g → Top VV (looseW VV []) mean mg mb g → News g L' h₁ mu → (∀ p ∈ mu, p.1 < L') →
      wpAny (model PP w) ((ktrTop dp un gd cn cs L a ccd cl outer).deeper (envOf qual scope L' f cdv)) (execs body (envOf qual scope L' f cdv))
        (fun fl s' => Q (match fl with | .ret v => v | _ => .none) s') (fun _ _ => False) { s with heap := h₁, toks := s.toks + binds.length }) :
    wpAny (model PP w) (ktrTop dp un gd cn cs L a ccd cl outer) (call (.ref f) args) Q E s := by
  obtain ⟨B, F, X, T, hks⟩ := C
  have X' := X.keeps F.keep
  refine wpAny_call ?_
  obtain ⟨FG, BG, st, _⟩ := groundX (R := fun _ _ => True) (A := ktrTop dp un gd cn cs L a ccd cl outer) (env := envX cn cs L a ccd cl) B F N rfl rfl hks
  refine codeAny_call_def (fd := fnOf name qual params body scope dV kV doc pm an cdv ct) (body := body) (binds := binds) hroom (X' _ _ ho) rfl (T.nolimit.keeps F.keep) (codeRec_of X' hcd) rfl (BindsTo.of_eq hbind) hcell hloc (fun h₁ hns hk₁ => ?_) hco hgen hk
  exact wpAny_mono (h _ s.heap.objs.size h₁ rfl BG ⟨hns, fun b o e => hk₁ b o (of_hideAll _ e), Nat.le_of_eq (hideAll_size _ _)⟩ (X.keeps st) (T.keeps st)
    (fun p hp => ⟨hk₁ _ _ (N p hp).1, Nat.ne_of_lt (Heap.lt_size (N p hp).1), hideAll_none _ (List.mem_map_of_mem hp)⟩) (fun p hp => Heap.lt_size (N p hp).1)) (fun fl s' x => x) fun e s' x => x.elim

/-- behind such a call: what the caller has -/
theorem afterM {h h' : Heap} {mu rest mu' : List (Addr × Obj)} (F : Fr h₀ L h m) (N : News h₀ L h (mu ++ rest)) (hsep : ∀ p ∈ mu, ∀ q ∈ rest, p.1 ≠ q.1) (k : Keeps (hideAll h (mu.map (·.1))) h') (hmu : mu'.map (·.1) = mu.map (·.1)) (hn : ∀ p ∈ mu', h'.get? p.1 = some p.2) :
    Fr h₀ L h' m ∧ News h₀ L h' (mu' ++ rest) := by
  have nm : ∀ b o, h₀.get? b = some o → b ∉ mu.map (·.1) := fun b o e q => by
    obtain ⟨p, hp, rfl⟩ := List.mem_map.mp q
    rw [(N p (List.mem_append_left _ hp)).2.2] at e; cases e
  have nL : L ∉ mu.map (·.1) := fun q => by
    obtain ⟨p, hp, e⟩ := List.mem_map.mp q
    exact (N p (List.mem_append_left _ hp)).2.1 e
  obtain ⟨oL, a1, a2, hL, a3⟩ := F.ns
  refine ⟨⟨⟨oL, a1, a2, k _ _ (hideAll_get _ hL nL), a3⟩, fun b o e => k _ _ (hideAll_get _ (F.keep b o e) (nm b o e)), F.above⟩, fun p hp => ?_⟩
  rcases List.mem_append.mp hp with q | q
  · have h1 : p.1 ∈ mu.map (·.1) := by rw [← hmu]; exact List.mem_map_of_mem q
    obtain ⟨p', hp', e⟩ := List.mem_map.mp h1
    have := N p' (List.mem_append_left _ hp')
    exact ⟨hn p q, e ▸ this.2⟩
  · have P := N p (List.mem_append_right _ q)
    refine ⟨k _ _ (hideAll_get _ P.1 fun hm => ?_), P.2⟩
    obtain ⟨p', hp', e⟩ := List.mem_map.mp hm
    exact hsep p' hp' p q e
end
end

section
/-- a map with some names said -/
def ov : List (Str × Value) → (Str → Option Value) → Str → Option Value
  | [], m => m
  | (x, v) :: r, m => fun y => if y = x then some v else ov r m y
def Ok : List (Str × Value) → (Str → Option Value) → Prop
  | [], _ => True
  | (x, v) :: r, m => m x = some v ∧ Ok r m
theorem ov_eq {m : Str → Option Value} : ∀ {l : List (Str × Value)}, Ok l m → ov l m = m
  | [], _ => rfl
  | (x, v) :: r, h => by
    funext y
    show (if y = x then some v else ov r m y) = m y
    by_cases e : y = x
    · rw [if_pos e, e]; exact h.1.symm
    · rw [if_neg e, ov_eq h.2]

section
variable {prog : Program} {w : World} {A : Around} {E : Value → Shared → Prop} {s : Shared} {env : Env} {h₀ : Heap} {x : Str} {body : List Stmt} {Q : Flow → Shared → Prop}

/-- what holds behind a turn that goes on -/
def TurnEnd {σ : Type} (h₀ : Heap) (L : Addr) (Led : σ → List (Addr × Obj)) (ps : σ → List (Str × Value)) (P : σ → Prop) (keep : List (Addr × Obj)) (s s₂ : Shared) : Prop :=
  ∃ c h' tk m' news', s₂ = { s with heap := h', toks := tk } ∧ Fr h₀ L h' m' ∧ News h₀ L h' news' ∧ (∀ p ∈ Led c, p ∈ news') ∧ (∀ p ∈ keep, p ∈ news') ∧ Ok (ps c) m' ∧ P c
def TurnPost {σ : Type} (h₀ : Heap) (L : Addr) (Led : σ → List (Addr × Obj)) (ps : σ → List (Str × Value)) (P : σ → Prop) (keep : List (Addr × Obj)) (s : Shared) (Q : Flow → Shared → Prop) (f : Flow) (s₂ : Shared) : Prop :=
  match f with
  | .ret v => Q (.ret v) s₂
  | .brk => Q .next s₂
  | _ => TurnEnd h₀ L Led ps P keep s s₂
theorem TurnEnd.intro {σ : Type} {L : Addr} {Led : σ → List (Addr × Obj)} {ps : σ → List (Str × Value)} {P : σ → Prop} {keep : List (Addr × Obj)} {s : Shared} (c : σ) {h' : Heap} {tk : Nat} {m' : Str → Option Value} {news' : List (Addr × Obj)}
    (F : Fr h₀ L h' m') (N : News h₀ L h' news') (h1 : ∀ p ∈ Led c, p ∈ news') (h2 : ∀ p ∈ keep, p ∈ news') (h3 : Ok (ps c) m') (h4 : P c) : TurnEnd h₀ L Led ps P keep s { s with heap := h', toks := tk } :=
  ⟨c, h', tk, m', news', rfl, F, N, h1, h2, h3, h4⟩

/-- over a list that stood before the frame -/
theorem forB {σ : Type} {L : Addr} {l : Addr} {vs : List Value} {m₀ : Str → Option Value} {news : List (Addr × Obj)} (Led : σ → List (Addr × Obj)) (ps : σ → List (Str × Value)) (P : Nat → σ → Prop) (c₀ : σ) (hL : env.locals = L)
    (hh : A.handled = none) (hl : h₀.IsList l vs.toArray) (F : Fr h₀ L s.heap m₀) (N : News h₀ L s.heap news) (hN : ∀ p ∈ Led c₀, p ∈ news) (hcls : ∀ i c, P i c → ∀ p ∈ Led c, p.2.cls ≠ .type "list_iterator")
    (hk : Ok (ps c₀) m₀) (hp : P 0 c₀)
    (turn : ∀ c i v m h tk it, vs[i]? = some v → P i c → Fr h₀ L h (fun y => if y = x then some v else ov (ps c) m y) → News h₀ L h (it :: Led c) → (∀ p ∈ Led c, p.1 ≠ it.1) →
      wpAny (model prog w) A (execs body env) (TurnPost h₀ L Led ps (P (i + 1)) [it] s Q) E { s with heap := h, toks := tk })
    (done : ∀ c m h tk, P vs.length c → Fr h₀ L h (ov (ps c) m) → News h₀ L h (Led c) → Q .next { s with heap := h, toks := tk }) :
    wpAny (model prog w) A (pyIter (.ref l)) (fun it s₂ => LoopAtV prog w A h₀ env x body Q E it s₂) E s := by
  subst hL
  have hls : s.heap.IsList l vs.toArray := hl.at fun o e => F.keep l o e
  obtain ⟨ol, hol, _⟩ := id hl
  have hlt : l < h₀.objs.size := Heap.lt_size hol
  have hne : l ≠ s.heap.objs.size := Nat.ne_of_lt (Nat.lt_trans (Nat.lt_of_lt_of_le hlt F.above) F.ns.lt)
  refine wpAny_pyIter_list hls ?_
  have W := Walks.list (prog := prog) (w := w) hh s.heap.objs.size l hne vs.toArray
  have hlen : vs.toArray.size = vs.length := List.size_toArray ..
  rw [hlen] at W
  let J : Nat → (Str → Option Value) → List (Addr × Obj) → Prop := fun i m₁ news₁ => ∃ c, news₁ = Led c ∧ Ok (ps c) m₁ ∧ P i c
  refine ⟨_, _, _, vs.length, _, _, m₀, Led c₀, J, rfl, W, ?_, ?_, ?_, ⟨⟨_, Heap.get?_push_size _ rfl, rfl, rfl⟩, hls.at fun o e => Heap.get?_push_of_some _ e⟩, F.push _, (fun p hp => ⟨Heap.get?_push_of_some _ (N p (hN p hp)).1, (N p (hN p hp)).2⟩), ⟨c₀, rfl, hk, hp⟩, ?_, ?_⟩
  · intro hm
    rcases List.mem_cons.mp hm with e | hm
    · exact absurd F.ns.lt (e ▸ Nat.lt_irrefl _)
    · exact absurd (Nat.lt_of_lt_of_le hlt F.above) ((List.mem_singleton.mp hm) ▸ Nat.lt_irrefl _)
  · intro b hb
    rw [List.mem_singleton.mp hb]
    exact next_is_new F
  · intro p hp hI
    exact absurd (Heap.lt_size (N p (hN p hp)).1) ((List.mem_singleton.mp hI) ▸ Nat.lt_irrefl _)
  · rintro i v m₁ news₁ s₁ own ⟨hh', tk', rfl⟩ hin hP ⟨c, rfl, hok, hp'⟩ hoff hown hownat hall hst F₁ N₁
    obtain ⟨⟨io, hio, hioc, hiod⟩, _⟩ := hst
    have hmem : (s.heap.objs.size, io) ∈ own := hall _ (List.mem_cons_self ..) (next_is_new F) io hio
    have hone : ∀ p ∈ own, p = (s.heap.objs.size, io) := by
      intro p hp
      rcases List.mem_cons.mp (hown p hp) with e | e
      · have e2 := hownat p hp
        rw [e] at e2
        have : hh'.get? s.heap.objs.size = some p.2 := e2
        have e3 : some io = some p.2 := hio.symm.trans this
        exact Prod.ext e (Option.some.inj e3).symm
      · have e2 := List.mem_singleton.mp e
        have e3 := (N₁ p (List.mem_append_left _ hp)).2.2
        rw [e2, hol] at e3
        cases e3
    have N₂ : News h₀ env.locals hh' ((s.heap.objs.size, io) :: Led c) := by
      intro p hp
      rcases List.mem_cons.mp hp with rfl | hp
      · exact N₁ _ (List.mem_append_left _ hmem)
      · exact N₁ _ (List.mem_append_right _ hp)
    have hv : vs[i]? = some v := by simpa using hP
    have F₂ : Fr h₀ env.locals hh' (fun y => if y = x then some v else ov (ps c) m₁ y) := by rw [ov_eq hok]; exact F₁
    refine wpAny_mono (turn c i v m₁ hh' tk' (s.heap.objs.size, io) hv hp' F₂ N₂ (fun p hp e => hoff p hp (by rw [e]; exact List.mem_cons_self ..))) (fun f s₂ p => ?_) fun _ _ e => e
    have fin : TurnEnd h₀ env.locals Led ps (P (i + 1)) [(s.heap.objs.size, io)] s s₂ → LoopStepU h₀ env.locals [s.heap.objs.size] own (J (i + 1)) { s with heap := hh', toks := tk' } .next s₂ := by
      rintro ⟨c', h', tk, m', news', e, F', N', h1, h2, h3, h4⟩
      refine ⟨rfl, h', tk, m', Led c', e, F', fun p hp => ?_, fun p hp hq => ?_, c', rfl, h3, h4⟩
      · rcases List.mem_append.mp hp with q | q
        · rw [hone p q]; exact N' _ (h2 _ (List.mem_cons_self ..))
        · exact N' _ (h1 _ q)
      · have e1 := (N' p (h1 p hp)).1
        have e2 := (N' _ (h2 _ (List.mem_cons_self ..))).1
        rw [List.mem_singleton.mp hq] at e1
        have e3 : some p.2 = some io := e1.symm.trans e2
        exact hcls _ c' h4 p hp (by rw [Option.some.inj e3]; exact hioc)
    cases f with
    | ret v => exact .ret p
    | brk => exact .brk p
    | next => exact .next (fin p)
    | cont => exact .cont (fin p)
  · rintro h' tk m' news' F' N' _ ⟨c, rfl, hok, hP⟩
    exact done c m' h' tk hP (by rw [ov_eq hok]; exact F') N'

/-- over any list; the ledger stays -/
theorem forT {σ : Type} {L : Addr} {l : Addr} {vs : List Value} {m₀ : Str → Option Value} {news : List (Addr × Obj)} (ps : σ → List (Str × Value)) (P : Nat → σ → Prop) (c₀ : σ) (hL : env.locals = L)
    (hh : A.handled = none) (hl : s.heap.IsList l vs.toArray) (hlL : l ≠ L) (F : Fr h₀ L s.heap m₀) (N : News h₀ L s.heap news)
    (hk : Ok (ps c₀) m₀) (hp : P 0 c₀)
    (turn : ∀ c i v m h tk own, vs[i]? = some v → P i c → Fr h₀ L h (fun y => if y = x then some v else ov (ps c) m y) → News h₀ L h (own ++ news) →
      wpAny (model prog w) A (execs body env) (TurnPost h₀ L (fun _ => news) ps (P (i + 1)) own s Q) E { s with heap := h, toks := tk })
    (done : ∀ c m h tk, P vs.length c → Fr h₀ L h (ov (ps c) m) → News h₀ L h news → Q .next { s with heap := h, toks := tk }) :
    wpAny (model prog w) A (pyIter (.ref l)) (fun it s₂ => LoopAtV prog w A h₀ env x body Q E it s₂) E s := by
  subst hL
  obtain ⟨ol, hol, _⟩ := id hl
  have hlt : l < s.heap.objs.size := Heap.lt_size hol
  have hne : l ≠ s.heap.objs.size := Nat.ne_of_lt hlt
  refine wpAny_pyIter_list hl ?_
  have W := Walks.list (prog := prog) (w := w) hh s.heap.objs.size l hne vs.toArray
  have hlen : vs.toArray.size = vs.length := List.size_toArray ..
  rw [hlen] at W
  let J : Nat → (Str → Option Value) → List (Addr × Obj) → Prop := fun i m₁ news₁ => news₁ = news ∧ ∃ c, Ok (ps c) m₁ ∧ P i c
  refine ⟨_, _, _, vs.length, _, _, m₀, news, J, rfl, W, ?_, ?_, ?_, ⟨⟨_, Heap.get?_push_size _ rfl, rfl, rfl⟩, hl.at fun o e => Heap.get?_push_of_some _ e⟩, F.push _, (fun p hp => ⟨Heap.get?_push_of_some _ (N p hp).1, (N p hp).2⟩), ⟨rfl, c₀, hk, hp⟩, ?_, ?_⟩
  · intro hm
    rcases List.mem_cons.mp hm with e | hm
    · exact absurd F.ns.lt (e ▸ Nat.lt_irrefl _)
    · exact hlL (List.mem_singleton.mp hm).symm
  · intro b hb
    rw [List.mem_singleton.mp hb]
    exact next_is_new F
  · intro p hp hI
    exact absurd (Heap.lt_size (N p hp).1) ((List.mem_singleton.mp hI) ▸ Nat.lt_irrefl _)
  · rintro i v m₁ news₁ s₁ own ⟨hh', tk', rfl⟩ hin hP ⟨rfl, c, hok, hp'⟩ hoff hown hownat hall hst F₁ N₁
    have hv : vs[i]? = some v := by simpa using hP
    have F₂ : Fr h₀ env.locals hh' (fun y => if y = x then some v else ov (ps c) m₁ y) := by rw [ov_eq hok]; exact F₁
    refine wpAny_mono (turn c i v m₁ hh' tk' own hv hp' F₂ N₁) (fun f s₂ p => ?_) fun _ _ e => e
    have fin : TurnEnd h₀ env.locals (fun _ => news₁) ps (P (i + 1)) own s s₂ → LoopStepU h₀ env.locals [s.heap.objs.size] own (J (i + 1)) { s with heap := hh', toks := tk' } .next s₂ := by
      rintro ⟨c', h', tk, m', news', e, F', N', h1, h2, h3, h4⟩
      refine ⟨rfl, h', tk, m', news₁, e, F', fun p hp => ?_, hoff, rfl, c', h3, h4⟩
      rcases List.mem_append.mp hp with q | q
      · exact N' _ (h2 _ q)
      · exact N' _ (h1 _ q)
    cases f with
    | ret v => exact .ret p
    | brk => exact .brk p
    | next => exact .next (fin p)
    | cont => exact .cont (fin p)
  · rintro h' tk m' news' F' N' _ ⟨rfl, c, hok, hP⟩
    exact done c m' h' tk hP (by rw [ov_eq hok]; exact F') N'

/-- a while, by what holds of it and a measure -/
theorem whileS {σ : Type} {L : Addr} {test : Expr} {pos : Pos} {m₀ : Str → Option Value} {news : List (Addr × Obj)} (Led : σ → List (Addr × Obj)) (ps : σ → List (Str × Value)) (P : σ → Prop) (μ : σ → Nat) (c₀ : σ) (hL : env.locals = L)
    (F : Fr h₀ L s.heap m₀) (N : News h₀ L s.heap news) (hN : ∀ p ∈ Led c₀, p ∈ news) (hk : Ok (ps c₀) m₀) (hp : P c₀)
    (turn : ∀ c m h tk, P c → Fr h₀ L h (ov (ps c) m) → News h₀ L h (Led c) →
      wpAny (model prog w) A (isTrue test env (eval test env)) (fun b s₂ =>
        if b = true then wpAny (model prog w) A (execs body env) (TurnPost h₀ L Led ps (fun c' => P c' ∧ μ c' < μ c) [] s Q) E s₂ else Q .next s₂) E { s with heap := h, toks := tk })
    (hE : PassesOwn (model prog w) A env E := by passes_own) :
    wpAny (model prog w) A (exec (.While test body [] pos) env) Q E s := by
  subst hL
  refine wpAny_While (codeAny_whileLoop (fun n s' => ∃ c h₁ tk₁ m₁, s' = { s with heap := h₁, toks := tk₁ } ∧ Fr h₀ env.locals h₁ m₁ ∧ News h₀ env.locals h₁ (Led c) ∧ Ok (ps c) m₁ ∧ P c ∧ μ c = n) ?_ (μ c₀) ⟨c₀, s.heap, s.toks, m₀, rfl, F, fun p hp => N p (hN p hp), hk, hp, rfl⟩)
  rintro n s' ⟨c, h₁, tk₁, m₁, rfl, F₁, N₁, hok, hP, rfl⟩
  refine wpAny_mono (turn c m₁ h₁ tk₁ hP (by rw [ov_eq hok]; exact F₁) N₁) (fun b s₂ h₂ => ?_) hE
  cases b with
  | false =>
    simp only [Bool.false_eq_true, if_false] at h₂ ⊢
    exact wpAny_execs_nil h₂
  | true =>
    simp only [if_true] at h₂ ⊢
    refine wpAny_mono h₂ (fun f s₃ h₃ => ?_) hE
    have fin : TurnEnd h₀ env.locals Led ps (fun c' => P c' ∧ μ c' < μ c) [] s s₃ → ∃ m, m < μ c ∧ ∃ c h₁ tk₁ m₁, s₃ = { s with heap := h₁, toks := tk₁ } ∧ Fr h₀ env.locals h₁ m₁ ∧ News h₀ env.locals h₁ (Led c) ∧ Ok (ps c) m₁ ∧ P c ∧ μ c = m := by
      rintro ⟨c', h', tk, m', news', e, F', N', h1, h2, h3, h4, h5⟩
      exact ⟨μ c', h5, c', h', tk, m', e, F', fun p hp => N' p (h1 p hp), h3, h4, rfl⟩
    cases f with
    | ret v => exact h₃
    | brk => exact h₃
    | next => exact fin h₃
    | cont => exact fin h₃

/-- over range(n) -/
theorem forR {σ : Type} {L : Addr} {r : Addr} {a₀ b₀ : Int} {t₀ u₀ v₀ : Tok} {n : Nat} {m₀ : Str → Option Value} {news : List (Addr × Obj)} (ps : σ → List (Str × Value)) (P : Nat → σ → Prop) (c₀ : σ) (hL : env.locals = L)
    (hh : A.handled = none) (hr : IsRange s.heap r a₀ b₀ 1 t₀ u₀ v₀) (hsmall : Builtin.Range.small a₀ b₀ 1 = true) (hn : Builtin.Range.rangeSize a₀ b₀ 1 = (n : Int)) (F : Fr h₀ L s.heap m₀) (N : News h₀ L s.heap news)
    (hk : Ok (ps c₀) m₀) (hp : P 0 c₀)
    (turn : ∀ c i t m h tk own, i < n → P i c → Fr h₀ L h (fun y => if y = x then some (.int (a₀ + (i : Int)) t) else ov (ps c) m y) → News h₀ L h (own ++ news) →
      wpAny (model prog w) A (execs body env) (TurnPost h₀ L (fun _ => news) ps (P (i + 1)) own s Q) E { s with heap := h, toks := tk })
    (done : ∀ c m h tk, P n c → Fr h₀ L h (ov (ps c) m) → News h₀ L h news → Q .next { s with heap := h, toks := tk }) :
    wpAny (model prog w) A (pyIter (.ref r)) (fun it s₂ => LoopAtV prog w A h₀ env x body Q E it s₂) E s := by
  subst hL
  refine wpAny_pyIter_range hr hsmall ?_
  have W : Walks prog w A s.heap.objs.size [s.heap.objs.size] [s.heap.objs.size] n (fun i v => i < n ∧ ∃ t, v = .int (a₀ + i * 1) t)
      (fun i h => IsRangeIter h s.heap.objs.size (a₀ + (i : Nat) * 1) ((n : Int) - (i : Nat)) 1) := (Walks.range hh _ a₀ 1 n).bound
  let J : Nat → (Str → Option Value) → List (Addr × Obj) → Prop := fun i m₁ news₁ => news₁ = news ∧ ∃ c, Ok (ps c) m₁ ∧ P i c
  refine ⟨_, _, _, n, _, _, m₀, news, J, rfl, W, ?_, ?_, ?_, (by show IsRangeIter _ _ _ _ _; rw [hn]; simpa using Heap.get?_push_size _ rfl), F.push _, (fun p hp => ⟨Heap.get?_push_of_some _ (N p hp).1, (N p hp).2⟩), ⟨rfl, c₀, hk, hp⟩, ?_, ?_⟩
  · intro hm
    exact absurd F.ns.lt ((List.mem_singleton.mp hm) ▸ Nat.lt_irrefl _)
  · intro b hb
    rw [List.mem_singleton.mp hb]
    exact next_is_new F
  · intro p hp hI
    exact absurd (Heap.lt_size (N p hp).1) ((List.mem_singleton.mp hI) ▸ Nat.lt_irrefl _)
  · rintro i v m₁ news₁ s₁ own ⟨hh', tk', rfl⟩ hin hP ⟨rfl, c, hok, hp'⟩ hoff hown hownat hall hst F₁ N₁
    obtain ⟨_, t, rfl⟩ := hP
    have e1 : a₀ + (i : Int) * 1 = a₀ + (i : Int) := by omega
    rw [e1] at F₁
    have F₂ : Fr h₀ env.locals hh' (fun y => if y = x then some (.int (a₀ + (i : Int)) t) else ov (ps c) m₁ y) := by rw [ov_eq hok]; exact F₁
    refine wpAny_mono (turn c i t m₁ hh' tk' own hin hp' F₂ N₁) (fun f s₂ p => ?_) fun _ _ e => e
    have fin : TurnEnd h₀ env.locals (fun _ => news₁) ps (P (i + 1)) own s s₂ → LoopStepU h₀ env.locals [s.heap.objs.size] own (J (i + 1)) { s with heap := hh', toks := tk' } .next s₂ := by
      rintro ⟨c', h', tk, m', news', e, F', N', h1, h2, h3, h4⟩
      refine ⟨rfl, h', tk, m', news₁, e, F', fun p hp => ?_, hoff, rfl, c', h3, h4⟩
      rcases List.mem_append.mp hp with q | q
      · exact N' _ (h2 _ q)
      · exact N' _ (h1 _ q)
    cases f with
    | ret v => exact .ret p
    | brk => exact .brk p
    | next => exact .next (fin p)
    | cont => exact .cont (fin p)
  · rintro h' tk m' news' F' N' _ ⟨rfl, c, hok, hP⟩
    exact done c m' h' tk hP (by rw [ov_eq hok]; exact F') N'
end
end

section
/-- what the text's global names hold -/
def nmTab : String → Option Value
  | "len" => some (.builtin "len")
  | "range" => some (.type "range")
  | "min" => some (.builtin "min")
  | "ord" => some (.builtin "ord")
  | "str" => some (.type "str")
  | "int" => some (.type "int")
  | "sum" => some (.builtin "sum")
  | "reversed" => some (.type "reversed")
  | "IndexError" => some (.type "IndexError")
  | "error_reply" => some (.ref 37)
  | "error_proto" => some (.ref 49)
  | "parse229" => some (.ref 58)
  | "heappush" => some (.ref 65)
  | "heappop" => some (.ref 72)
  | "heapify" => some (.ref 79)
  | "_siftdown" => some (.ref 86)
  | "_siftup" => some (.ref 93)
  | "sorted_list_difference" => some (.ref 100)
  | "three_way_cmp" => some (.ref 107)
  | "_law_figures" => some (.ref 114)
  | "_law_shelves" => some (.ref 121)
  | "_law_ahead" => some (.ref 128)
  | "_law_walk" => some (.ref 135)
  | "_law_reply" => some (.ref 140)
  | "_law_replies" => some (.ref 145)
  | "_law_lacks" => some (.ref 150)
  | "_law_read" => some (.ref 157)
  | "_law_due" => some (.ref 162)
  | "_law_sign" => some (.ref 169)
  | "_law_under" => some (.ref 174)
  | _ => none
section
variable {w : World} {mean : ExcName → Option Value} {mg mb : Str → Option Value} {A : Around} {E : Value → Shared → Prop} {s : Shared} {h₀ : Heap} {L a : Addr} {m : Str → Option Value} {cn : Str} {cs : Scope} {ccd : Value} {pos : Pos} {Q : Value → Shared → Prop}
theorem nmOf {env : Env} {x : String} {v : Value} (F : Fr h₀ L s.heap m) (X : (KH w.params).In h₀) (T : Top VV (looseW VV []) mean mg mb h₀) (hx : env.kindOf (Str.ofString x) = some .globalImplicit) (e : nmTab x = some v) (h : Q v s)
    (hk : env.scope.kind = .function) (hg : env.globals = mainGlobals) (hb : env.builtins = builtinsNs) : wpAny (model PP w) A (eval (.Name (Str.ofString x) pos) env) Q E s := by
  have T' := topRead_of T
  have kk : ∀ (hdb : (Str.ofString x == ("__debug__" : Str)) = false) (e' : nsIn (KH w.params) mainGlobals (Str.ofString x) = some (some v)), wpAny (model PP w) A (eval (.Name (Str.ofString x) pos) env) Q E s := fun hdb e' =>
    Calls.Name_function_global hk hx (Calls.loadGlobal_global (env := env) (by rw [hg]; exact T'.g.keeps F.keep) (mg_of X T'.g e') h) hdb
  have bb : ∀ (hdb : (Str.ofString x == ("__debug__" : Str)) = false) (e' : nsIn (KH w.params) mainGlobals (Str.ofString x) = some none) (hv : bootBuiltins (Str.ofString x) = some v) (hn : Str.ofString x ≠ "__name__"), wpAny (model PP w) A (eval (.Name (Str.ofString x) pos) env) Q E s := fun hdb e' hv hn =>
    Calls.Name_function_global hk hx (Calls.loadGlobal_builtin (env := env) (by rw [hg]; exact T'.g.keeps F.keep) (mg_none_of X T'.g e') (by rw [hb]; exact T'.b.keeps F.keep) ((T'.builtins _ hn).trans hv) h) hdb
  unfold nmTab at e
  split at e
  · cases e; exact bb (by decide) (by k_is) (by first | boot_by_name | rfl) (by decide)
  · cases e; exact bb (by decide) (by k_is) (by first | boot_by_name | rfl) (by decide)
  · cases e; exact bb (by decide) (by k_is) (by first | boot_by_name | rfl) (by decide)
  · cases e; exact bb (by decide) (by k_is) (by first | boot_by_name | rfl) (by decide)
  · cases e; exact bb (by decide) (by k_is) (by first | boot_by_name | rfl) (by decide)
  · cases e; exact bb (by decide) (by k_is) (by first | boot_by_name | rfl) (by decide)
  · cases e; exact bb (by decide) (by k_is) (by first | boot_by_name | rfl) (by decide)
  · cases e; exact bb (by decide) (by k_is) (by first | boot_by_name | rfl) (by decide)
  · cases e; exact bb (by decide) (by k_is) (by first | boot_by_name | rfl) (by decide)
  · cases e; exact kk (by decide) (by k_is)
  · cases e; exact kk (by decide) (by k_is)
  · cases e; exact kk (by decide) (by k_is)
  · cases e; exact kk (by decide) (by k_is)
  · cases e; exact kk (by decide) (by k_is)
  · cases e; exact kk (by decide) (by k_is)
  · cases e; exact kk (by decide) (by k_is)
  · cases e; exact kk (by decide) (by k_is)
  · cases e; exact kk (by decide) (by k_is)
  · cases e; exact kk (by decide) (by k_is)
  · cases e; exact kk (by decide) (by k_is)
  · cases e; exact kk (by decide) (by k_is)
  · cases e; exact kk (by decide) (by k_is)
  · cases e; exact kk (by decide) (by k_is)
  · cases e; exact kk (by decide) (by k_is)
  · cases e; exact kk (by decide) (by k_is)
  · cases e; exact kk (by decide) (by k_is)
  · cases e; exact kk (by decide) (by k_is)
  · cases e; exact kk (by decide) (by k_is)
  · cases e; exact kk (by decide) (by k_is)
  · cases e; exact kk (by decide) (by k_is)
  · cases e
end
end

section
/-- a text by its signs' numbers -/
def S (l : List Nat) : Str := ⟨l.toArray⟩
theorem S_append (a b : List Nat) : S a ++ S b = S (a ++ b) := by
  show Str.append _ _ = _
  simp [S, Str.append]
theorem S_length (a : List Nat) : (S a).length = a.length := by simp [S, Str.length]
theorem S_cps (a : List Nat) : (S a).cps.toList = a := by simp [S]
theorem S_of (x : Str) : S x.cps.toList = x := by cases x; simp [S]
theorem S_inj {a b : List Nat} (h : S a = S b) : a = b := by rw [← S_cps a, h, S_cps]
theorem S_mul3 (c : Nat) : Txt.mul (S [c]) 3 = S [c, c, c] := rfl

section
variable {prog : Program} {w : World} {A : Around} {E : Value → Shared → Prop} {s : Shared} {Q : Value → Shared → Prop}
theorem addS {x y : Str} {t u : Tok} {xs ys zs : List Nat} (hx : x = S xs) (hy : y = S ys) (hz : xs ++ ys = zs) (hsz : zs.length ≤ 10000) (h : ∀ t' tk, Q (.str (S zs) t') { s with toks := tk }) :
    wpAny (model prog w) A (binaryOp .Add (.str x t) (.str y u)) Q E s := by
  subst hx hy hz
  refine PyProof.Rows.add_str ?_ ?_
  · intro t' tk; rw [S_append]; exact h t' tk
  · rw [S_length, S_length]
    rw [List.length_append] at hsz
    exact Nat.le_trans hsz (by decide)
theorem mulS3 {c : Nat} {t u : Tok} (h : ∀ t' tk, Q (.str (S [c, c, c]) t') { s with toks := tk }) : wpAny (model prog w) A (binaryOp .Mult (.str (S [c]) t) (.int 3 u)) Q E s :=
  SB.mul (mulOk_of 16 1048576 (by rw [S_length]; simp) (by decide) (by decide) (by decide) (by decide)) (by intro t' k; rw [S_mul3]; exact h t' k)
end
theorem lit_229 : Str.ofString "229 (" = S [50, 50, 57, 32, 40] := by decide +kernel
theorem lit_close : Str.ofString ")" = S [41] := by decide +kernel
theorem lit_nil : Str.ofString "" = S [] := by decide +kernel

/-- the number of a figure's sign -/
def dcode (d : Int) : Nat := (48 + d).toNat
def digS (d : Int) : Str := S [dcode d]
theorem digS_of {d : Int} (h0 : 0 ≤ d) (h1 : d < 10) : Str.ofString (toString d) = digS d := by
  obtain ⟨n, rfl⟩ := Int.eq_ofNat_of_zero_le h0
  have key : ∀ k : Fin 10, Str.ofString (toString ((k.1 : Nat) : Int)) = digS ((k.1 : Nat) : Int) := by decide +kernel
  exact key ⟨n, by omega⟩
theorem str_dig {prog : Program} {w : World} {A : Around} {E : Value → Shared → Prop} {s : Shared} {Q : Value → Shared → Prop} {d : Int} {t : Tok} (h0 : 0 ≤ d) (h1 : d < 10) (h : Q (.str (digS d) s.toks) { s with toks := s.toks + 1 }) :
    wpAny (model prog w) A (call (.type "str") [.int d t]) Q E s := by
  refine P.str_of_int ?_ ?_
  · have : d.natAbs < 10 := by omega
    have h2 : d.natAbs.log2 ≤ d.natAbs := Nat.log2_le_self _
    omega
  · rw [digS_of h0 h1]; exact h
theorem join_S : ∀ ls : List (List Nat), Str.join (S []) (ls.map S) = S ls.flatten
  | [] => rfl
  | [x] => by simp [Str.join]
  | x :: y :: r => by
    have ih := join_S (y :: r)
    rw [List.map_cons, List.map_cons, Str.join, ← List.map_cons, ih, S_append, S_append]
    · simp
    · simp
theorem join_digs (ds : List Int) : Txt.join (S []) (ds.map digS) = S (ds.map dcode) := by
  unfold Txt.join
  rw [StrLaws.glued_eq_join]
  have e : ds.map digS = (ds.map fun d => [dcode d]).map S := by simp [digS]
  rw [e, join_S]
  congr 1
  induction ds with
  | nil => rfl
  | cons d r ih => simp at ih ⊢; exact ih (by simp [digS])
end

section
section
variable {prog : Program} {w : World} {A : Around} {E : Value → Shared → Prop} {s : Shared} {env : Env} {h₀ : Heap} {L : Addr} {m : Str → Option Value}
  {elt iter : Expr} {x : Str} {px : Pos} {ifs : List Expr} {scope : Scope} {pos : Pos} {cl : List (Str × Addr)} {Q : Value → Shared → Prop}

/-- what is left of a comprehension once its source has an iterator -/
def CompAt (prog : Program) (w : World) (A : Around) (E : Value → Shared → Prop) (env : Env) (elt : Expr) (x : Str) (px : Pos) (iter : Expr) (ifs : List Expr) (scope : Scope) (pos : Pos) (cl : List (Str × Addr)) (Q : Value → Shared → Prop) (it : Value) (s₂ : Shared) : Prop :=
  wpAny (model prog w) A (newList []) (fun acc s₃ => wpAny (model prog w) A (newFunctionEnv scope env.globals cl [] env.qual none .none (some env)) (fun cenv s₄ =>
      codeAny (model prog w) A (.compStart (.ListComp elt [⟨.Name x px, iter, ifs, 0⟩] scope pos) 0 it acc { cenv with scope := relabel scope env }) (compPost (model prog w) A E none Q acc cenv.locals) s₄) E s₃) E s₂

theorem compOpen (hclos : closureFor scope env = pure cl) (hkind : scope.kind = .function) (hnames : ∀ x ∈ scope.names, x.2 = .local → scope.names.lookup x.1 = some .local)
    (h : wpAny (model prog w) A (eval iter env) (fun xv s₁ => wpAny (model prog w) A (pyIter xv) (fun it s₂ => CompAt prog w A E env elt x px iter ifs scope pos cl Q it s₂) E s₁) E s)
    (hs : ∀ x, foldedSetIterable iter env x = pure x := by intro _; rfl) :
    wpAny (model prog w) A (eval (.ListComp elt [⟨.Name x px, iter, ifs, 0⟩] scope pos) env) Q E s := by
  rw [eval_ListComp]
  exact wpAny_comprehension_free (use := none) rfl hs hclos hkind hnames h

def EltPost {σ : Type} (h₀ : Heap) (L : Addr) (m : Str → Option Value) (Led : σ → List (Addr × Obj)) (P : σ → List Value → Prop) (keep : List (Addr × Obj)) (s : Shared) (ys : List Value) (s' : Shared) : Prop :=
  ∃ c' h' tk' news', s' = { s with heap := h', toks := tk' } ∧ Fr h₀ L h' m ∧ News h₀ L h' news' ∧ (∀ p ∈ keep, p ∈ news') ∧ (∀ p ∈ Led c', p ∈ news') ∧ P c' ys
theorem EltPost.intro {σ : Type} {Led : σ → List (Addr × Obj)} {P : σ → List Value → Prop} {keep : List (Addr × Obj)} {ys : List Value} (c' : σ) {h' : Heap} {tk' : Nat} {news' : List (Addr × Obj)} (F : Fr h₀ L h' m) (N : News h₀ L h' news') (h1 : ∀ p ∈ keep, p ∈ news') (h2 : ∀ p ∈ Led c', p ∈ news') (h3 : P c' ys) :
    EltPost h₀ L m Led P keep s ys { s with heap := h', toks := tk' } := ⟨c', h', tk', news', rfl, F, N, h1, h2, h3⟩

theorem compT {σ : Type} {l : Addr} {vs : List Value} {news : List (Addr × Obj)} (Led : σ → List (Addr × Obj)) (P : Nat → σ → List Value → Prop) (c₀ : σ) (hL : env.locals = L)
    (hh : A.handled = none) (hl : s.heap.IsList l vs.toArray) (hlL : l ≠ L) (F : Fr h₀ L s.heap m) (N : News h₀ L s.heap news) (hN : ∀ p ∈ Led c₀, p ∈ news) (hadr : ∀ c, (Led c).map (·.1) = (Led c₀).map (·.1)) (hlsep : ∀ p ∈ Led c₀, p.1 ≠ l)
    (hcell : ∀ y ∈ scope.names, y.2 ≠ .cell) (hkind : scope.kind = .function) (hx : scope.names.lookup x = some .local) (hsz : vs.length < 2 ^ 20)
    (hp : P 0 c₀ [])
    (turn : ∀ c i v ys h tk keep C mC, vs[i]? = some v → P i c ys → Fr h₀ L h m → News h₀ L h (keep ++ Led c) → h.Ns C mC → mC x = some v → (∃ oC, (C, oC) ∈ keep) → (∀ p ∈ keep, ∀ q ∈ Led c, p.1 ≠ q.1) →
      wpAny (model prog w) A (forIn ifs true fun c r => if r = true then do let ok ← isTrue c (compEnvC scope cl C env) (eval c (compEnvC scope cl C env)); pure (ForInStep.yield ok) else pure (ForInStep.yield r))
        (fun ok s' => if ok = true then wpAny (model prog w) A (eval elt (compEnvC scope cl C env)) (fun y s'' => ys.length ≤ i ∧ EltPost h₀ L m Led (P (i + 1)) keep s (ys ++ [y]) s'') (fun _ _ => False) s' else EltPost h₀ L m Led (P (i + 1)) keep s ys s') (fun _ _ => False) { s with heap := h, toks := tk })
    (done : ∀ c ys D e h tk, P vs.length c ys → Fr h₀ L h m → News h₀ L h ((D, listOf ys.toArray e) :: Led c) → (∀ p ∈ news, p.1 < D) → Q (.ref D) { s with heap := h, toks := tk }) :
    wpAny (model prog w) A (pyIter (.ref l)) (fun it s₂ => CompAt prog w A E env elt x px iter ifs scope pos cl Q it s₂) E s := by
  subst hL
  obtain ⟨ol, hol, _⟩ := id hl
  have hlt : @LT.lt Nat _ l s.heap.objs.size := Heap.lt_size hol
  have hne : l ≠ s.heap.objs.size := Nat.ne_of_lt hlt
  have hlen : vs.toArray.size = vs.length := List.size_toArray ..
  have adr : ∀ c, ∀ p ∈ Led c, ∃ q ∈ Led c₀, q.1 = p.1 := fun c p hp => by
    have : p.1 ∈ (Led c₀).map (·.1) := by rw [← hadr c]; exact List.mem_map_of_mem hp
    exact List.mem_map.mp this
  have ltS : ∀ c, ∀ p ∈ Led c, @LT.lt Nat _ p.1 s.heap.objs.size := fun c p hp => by
    obtain ⟨q, hq, e⟩ := adr c p hp
    rw [← e]; exact Heap.lt_size (N q (hN q hq)).1
  refine wpAny_pyIter_list hl ?_
  refine wpAny_newObj_type (wpAny_newFunctionEnv hcell (by intro y hy; simp at hy) (fun h₁ hns₁ hsb₁ => ?_) hkind)
  dsimp only at hns₁ hsb₁ ⊢
  have hLlt : @LT.lt Nat _ env.locals s.heap.objs.size := F.ns.lt
  generalize hH1 : s.heap.push _ = H1 at hns₁ hsb₁ ⊢
  have sz1 : H1.objs.size = s.heap.objs.size + 1 := by rw [← hH1, Heap.size_push]
  have k1 : ∀ b o, s.heap.get? b = some o → H1.get? b = some o := fun b o e => hH1 ▸ Heap.get?_push_of_some _ e
  have hit1 : H1.IsListIter s.heap.objs.size l 0 := by rw [← hH1]; exact ⟨_, Heap.get?_push_size _ rfl, rfl, rfl⟩
  clear hH1
  generalize hH2 : H1.push _ = H2 at hns₁ hsb₁ ⊢
  have sz2 : H2.objs.size = s.heap.objs.size + 2 := by rw [← hH2, Heap.size_push, sz1]
  have k2 : ∀ b o, H1.get? b = some o → H2.get? b = some o := fun b o e => hH2 ▸ Heap.get?_push_of_some _ e
  have hD2 : H2.get? H1.objs.size = some (listOf ([] : List Value).toArray 0) := by rw [← hH2]; exact Heap.get?_push_size _ rfl
  clear hH2
  have hDI : H1.objs.size ≠ s.heap.objs.size := by rw [sz1]; exact Nat.succ_ne_self _
  have old : ∀ b o, H2.get? b = some o → h₁.get? b = some o := fun b o e => hsb₁.extBut b o (Nat.ne_of_lt (Heap.lt_size e)) (Heap.get?_push_of_some _ e)
  generalize hI : s.heap.objs.size = I at *
  generalize hD : H1.objs.size = D at *
  generalize hC : H2.objs.size = C at *
  have W := Walks.list (prog := prog) (w := w) hh I l hne vs.toArray
  rw [hlen] at W
  have hnew : ∀ b, I ≤ b → h₀.get? b = none := fun b hb => by
    cases q : h₀.get? b with
    | none => rfl
    | some o => have := Heap.lt_size (F.keep b o q); rw [hI] at this; exact absurd hb (Nat.not_le.mpr this)
  have F₁ : Fr h₀ env.locals h₁ m := frKeeps F fun b o e => old b o (k2 b o (k1 b o e))
  have N₁ : News h₀ env.locals h₁ ((D, listOf ([] : List Value).toArray 0) :: Led c₀) := by
    intro p hp
    rcases List.mem_cons.mp hp with rfl | hp
    · exact ⟨old _ _ hD2, neN (by omega), hnew D (by omega)⟩
    · exact ⟨old _ _ (k2 _ _ (k1 _ _ (N p (hN p hp)).1)), (N p (hN p hp)).2⟩
  have hst₁ : h₁.IsListIter I l 0 ∧ h₁.IsList l vs.toArray := ⟨hit1.at fun o e => old _ _ (k2 _ _ e), hl.at fun o e => old _ _ (k2 _ _ (k1 _ _ e))⟩
  have loop : ∀ s₃ : Shared, s₃ = { s with heap := h₁, toks := s.toks + ([] : List (Str × Value)).length } →
      codeAny (model prog w) A (.compLoop (.ListComp elt [⟨.Name x px, iter, ifs, 0⟩] scope pos) 0 (.ref I) (.ref D) (compEnvC scope cl C env)) (compPost (model prog w) A E none Q (.ref D) C) s₃ := by
    rintro s₃ rfl
    refine codeAny_compLoop_tests (fun k s' => ∃ c ys e h tk mC i, s' = { s with heap := h, toks := tk } ∧ (h.IsListIter I l i ∧ h.IsList l vs.toArray) ∧ Fr h₀ env.locals h m ∧ News h₀ env.locals h ((D, listOf ys.toArray e) :: Led c) ∧ h.Ns C mC ∧ P i c ys ∧ ys.length ≤ i ∧ i ≤ vs.length ∧ k = vs.length + 1 - i) ?_ (vs.length + 1)
      ⟨c₀, [], 0, h₁, _, _, 0, rfl, hst₁, F₁, N₁, hns₁, hp, Nat.le_refl _, Nat.zero_le _, rfl⟩
    rintro k s' ⟨c, ys, e, h, tk, mC, i, rfl, hst', F', N', hns', hP, hyl, hi, rfl⟩
    have ledI : ∀ p ∈ (D, listOf ys.toArray e) :: Led c, p.1 ≠ I := fun p hp => by
      rcases List.mem_cons.mp hp with rfl | hp
      · exact hDI
      · exact Nat.ne_of_lt (ltS c p hp)
    have ledC : ∀ p ∈ (D, listOf ys.toArray e) :: Led c, p.1 ≠ C := fun p hp => by
      rcases List.mem_cons.mp hp with rfl | hp
      · exact neN (by omega)
      · have := ltS c p hp; exact neN (by omega)
    have step : ∀ h₂ : Heap, (∀ b o, b ∉ [I] → h.get? b = some o → h₂.get? b = some o) → Fr h₀ env.locals h₂ m ∧ News h₀ env.locals h₂ ((D, listOf ys.toArray e) :: Led c) ∧ h₂.Ns C mC := fun h₂ hk => by
      have ni : ∀ b, b ≠ I → b ∉ [I] := fun b hb hm => hb (List.mem_singleton.mp hm)
      refine ⟨⟨F'.ns.at' fun o e => hk _ o (ni _ (neN (by omega))) e, fun b o e => hk b o (ni b fun q => ?_) (F'.keep b o e), F'.above⟩, fun p hp => ⟨hk _ _ (ni _ (ledI p hp)) (N' p hp).1, (N' p hp).2⟩, hns'.at' fun o e => hk _ o (ni _ (neN (by omega))) e⟩
      rw [q, hnew I (Nat.le_refl _)] at e; cases e
    by_cases hlt' : i < vs.length
    · refine W.item i _ _ _ hlt' hst' fun v h₂ tk₂ hv hst₂ hk₂ => ?_
      obtain ⟨F₂, N₂, hns₂⟩ := step h₂ hk₂
      refine wpAny_assign_Name (wpAny_storeName_local (lookup_relabel_local hx) hns₂ (fun h₃ hns₃ hs₃ => ?_) (by simp [compEnvC, relabel, hkind]))
      have hs₃' : Heap.SameBut C h₂ h₃ := hs₃
      have F₃ : Fr h₀ env.locals h₃ m := F₂.change hs₃' (neN (by omega)) (hnew C (by omega))
      have N₃ : News h₀ env.locals h₃ ((D, listOf ys.toArray e) :: Led c) := fun p hp => ⟨(hs₃'.2 _ (ledC p hp)).trans (N₂ p hp).1, (N₂ p hp).2⟩
      have hst₃ : h₃.IsListIter I l (i + 1) ∧ h₃.IsList l vs.toArray := ⟨hst₂.1.at fun o e => (hs₃'.2 _ (neN (by omega))).trans e, hst₂.2.at fun o e => (hs₃'.2 _ (neN (by omega))).trans e⟩
      obtain ⟨⟨io, hio, hioc, hiod⟩, ⟨lo, hlo, hlr⟩⟩ := id hst₃
      obtain ⟨oC, es, ep, hoC, hCr⟩ := id hns₃
      have hoC' : h₃.get? C = some oC := hoC
      have hv' : vs[i]? = some v := by simpa using hv
      let keep : List (Addr × Obj) := [(I, io), (C, oC), (D, listOf ys.toArray e)] ++ (if (h₀.get? l).isNone then [(l, lo)] else [])
      have NK : News h₀ env.locals h₃ keep := by
        intro p hp
        rcases List.mem_append.mp hp with hp | hp
        · rcases List.mem_cons.mp hp with rfl | hp
          · exact ⟨hio, neN (by omega), hnew I (Nat.le_refl _)⟩
          · rcases List.mem_cons.mp hp with rfl | hp
            · exact ⟨hoC', neN (by omega), hnew C (by omega)⟩
            · rcases List.mem_singleton.mp hp with rfl
              exact N₃ _ (.head _)
        · by_cases hb : (h₀.get? l).isNone = true
          · rw [if_pos hb] at hp
            rcases List.mem_singleton.mp hp with rfl
            exact ⟨hlo, hlL, by simpa using hb⟩
          · rw [if_neg hb] at hp; cases hp
      have sep : ∀ p ∈ keep, ∀ q ∈ Led c, p.1 ≠ q.1 := by
        intro p hp q hq
        have hql := ltS c q hq
        rcases List.mem_append.mp hp with hp | hp
        · rcases List.mem_cons.mp hp with rfl | hp
          · exact neN (by omega)
          · rcases List.mem_cons.mp hp with rfl | hp
            · exact neN (by omega)
            · rcases List.mem_singleton.mp hp with rfl
              exact neN (by omega)
        · by_cases hb : (h₀.get? l).isNone = true
          · rw [if_pos hb] at hp
            rcases List.mem_singleton.mp hp with rfl
            obtain ⟨q', hq', e'⟩ := adr c q hq
            rw [← e']; exact fun z => hlsep q' hq' z.symm
          · rw [if_neg hb] at hp; cases hp
      have N₄ : News h₀ env.locals h₃ (keep ++ Led c) := fun p hp => (List.mem_append.mp hp).elim (NK p) fun q => N₃ p (.tail _ q)
      -- behind the element
      have kept : ∀ (h' : Heap) (news' : List (Addr × Obj)), Fr h₀ env.locals h' m → News h₀ env.locals h' news' → (∀ p ∈ keep, p ∈ news') → (h'.IsListIter I l (i + 1) ∧ h'.IsList l vs.toArray) ∧ h'.Ns C (fun y => if y = x then some v else mC y) ∧ h'.get? D = some (listOf ys.toArray e) := by
        intro h' news' Fx Nx hk
        have g : ∀ p ∈ keep, h'.get? p.1 = some p.2 := fun p hp => (Nx p (hk p hp)).1
        refine ⟨⟨⟨io, g (I, io) (by simp [keep]), hioc, hiod⟩, ?_⟩, ⟨oC, es, ep, g (C, oC) (by simp [keep]), hCr⟩, g (D, _) (by simp [keep])⟩
        refine ⟨lo, ?_, hlr⟩
        cases q : h₀.get? l with
        | none => exact g (l, lo) (by simp [keep, q])
        | some o =>
          have e1 := F₃.keep l o q
          rw [hlo] at e1
          rw [Option.some.inj e1]; exact Fx.keep l o q
      refine wpAny_mono (turn c i v ys h₃ _ keep C _ hv' hP F₃ N₄ hns₃ (if_pos rfl) ⟨oC, by simp [keep]⟩ sep) (fun ok s₅ hs₅ => ?_) fun _ _ z => z.elim
      cases ok with
      | false =>
        simp only [Bool.false_eq_true, if_false] at hs₅ ⊢
        obtain ⟨c', h', tk', news', rfl, Fx, Nx, hk1, hk2, hP'⟩ := hs₅
        obtain ⟨a1, a2, a3⟩ := kept h' news' Fx Nx hk1
        refine ⟨vs.length + 1 - (i + 1), by omega, c', ys, e, h', tk', _, i + 1, rfl, a1, Fx, ?_, a2, hP', by omega, hlt', rfl⟩
        intro p hp
        rcases List.mem_cons.mp hp with rfl | hp
        · exact Nx _ (hk1 _ (by simp [keep]))
        · exact Nx _ (hk2 _ hp)
      | true =>
        simp only [if_true] at hs₅ ⊢
        refine wpAny_mono hs₅ (fun y s₆ hs₆ => ?_) fun _ _ z => z.elim
        obtain ⟨hyl', c', h', tk', news', rfl, Fx, Nx, hk1, hk2, hP'⟩ := hs₆
        obtain ⟨a1, a2, a3⟩ := kept h' news' Fx Nx hk1
        refine append_at a3 (fun h'' hsD hoD => ?_) (hsz := by simp only [List.size_toArray]; exact Nat.le_trans (Nat.le_trans hyl (Nat.le_of_lt (Nat.lt_trans hlt' hsz))) (by decide))
        refine ⟨vs.length + 1 - (i + 1), by omega, c', ys ++ [y], e + 1, h'', tk', _, i + 1, rfl, ⟨a1.1.at fun o e => (hsD.2 _ (Ne.symm hDI)).trans e, a1.2.at fun o e => (hsD.2 _ (neN (by omega))).trans e⟩, Fx.change hsD (neN (by omega)) (hnew D (by omega)), ?_, a2.at' fun o e => (hsD.2 _ (neN (by omega))).trans e, hP', by simp; omega, hlt', rfl⟩
        intro p hp
        rcases List.mem_cons.mp hp with rfl | hp
        · refine ⟨?_, neN (by omega), hnew D (by omega)⟩
          rw [hoD]; simp
        · have := ltS c' p hp
          exact ⟨(hsD.2 _ (neN (by omega))).trans (Nx _ (hk2 _ hp)).1, (Nx _ (hk2 _ hp)).2⟩
    · have hin : i = vs.length := by omega
      subst hin
      refine W.done _ _ _ hst' fun h₂ tk₂ hk₂ => ?_
      obtain ⟨F₂, N₂, hns₂⟩ := step h₂ hk₂
      refine ⟨mC, hns₂, fun h₃ hs₃ => ?_⟩
      refine done c ys D e h₃ tk₂ hP (F₂.change hs₃ (neN (by omega)) (hnew C (by omega))) (fun p hp => ⟨(hs₃.2 _ (ledC p hp)).trans (N₂ p hp).1, (N₂ p hp).2⟩) fun p hp => ?_
      have : @LT.lt Nat _ p.1 s.heap.objs.size := Heap.lt_size (N p hp).1
      exact ltN (by omega)
  exact codeAny_compStart_list (loop _ rfl) (W.self 0 _ _ _ hst₁ (loop _ rfl))
end
end

section
section
variable {w : World} {mean : ExcName → Option Value} {mg mb : Str → Option Value} {outer : List Env} {A₀ : Around} {base h₀ : Heap} {L : Addr} {m : Str → Option Value} {cs : Scope} {dp un : Nat} {gd : Option (List Code)} {cn : Str} {a : Addr} {ccd : Value} {cl : List (Str × Addr)}
  {s : Shared} {Q E : Value → Shared → Prop}
  {name qual : Str} {params : Arguments} {body : List Stmt} {scope : Scope} {dV kV doc pm cdv ct oc : Value} {an od : Option Addr} {osl : Array (Option Value)} {f : Addr}

/-- a def of the text with cells is called; nothing of the caller's is changed -/
theorem enterC0 (C : Cal w mean mg mb outer A₀ base h₀ L s.heap m cs) (args : List Value) (binds : List (Str × Value)) (cls : Addr → List (Str × Addr)) (ml mc : Str → Option Value)
    (ho : (KH w.params).lookup f = some ⟨oc, od, .func (fnOf name qual params body scope dV kV doc pm an cdv ct), osl⟩) (hcd : codeIn (KH w.params) cdv qual = true) (hroom : dp < recursionLimit)
    (hbind : bindArgs (fnOf name qual params body scope dV kV doc pm an cdv ct) ⟨args, []⟩ = pure binds)
    (hkind : (binds.all fun y => scope.names.lookup y.1 == some .local || scope.names.lookup y.1 == some .cell) = true) (hnd : ((cellsFrom 0 scope.names []).map (·.1)).Nodup)
    (hcls : ∀ L', cellsFrom (L' + 1) scope.names [] = cls L') (hml : ∀ L', bindL (envOfC qual scope L' f cdv).kindOf binds (fun _ => none) = ml) (hmc : ∀ L', bindC (envOfC qual scope L' f cdv).kindOf binds (fun _ => none) = mc)
    (hco : scope.isCoroutine = false) (hgen : scope.isGenerator = false) (hk : scope.kind = .function)
    (h : ∀ L' h₁ tk cells, Below (ktrTop dp un gd cn cs L a ccd cl outer) base (envX cn cs L a ccd cl :: outer) s.heap → Fr s.heap L' h₁ ml → (KH w.params).In s.heap → Top VV (looseW VV []) mean mg mb s.heap → News s.heap L' h₁ cells → CellsAre mc (cls L') cells → s.heap.get? L' = none →
      wpAny (model PP w) ((ktrTop dp un gd cn cs L a ccd cl outer).deeper (envX qual scope L' f cdv (cls L'))) (execs body (envX qual scope L' f cdv (cls L')))
        (fun fl s' => Q (match fl with | .ret v => v | _ => .none) s') (fun _ _ => False) { s with heap := h₁, toks := tk }) :
    wpAny (model PP w) (ktrTop dp un gd cn cs L a ccd cl outer) (call (.ref f) args) Q E s := by
  obtain ⟨B, F, X, T, hks⟩ := C
  have X' := X.keeps F.keep
  refine wpAny_call ?_
  have B₁ : Below ({ handled := none, depth := dp, frames := some (envX cn cs L a ccd cl :: outer), guards := gd, units := un } : Around) base (envX cn cs L a ccd cl :: outer) s.heap := by
    obtain ⟨_, x2, x3⟩ := pushX (env := envX cn cs L a ccd cl) B F rfl hks
    exact ⟨rfl, x2, x3⟩
  refine codeAny_call_function (fd := fnOf name qual params body scope dV kV doc pm an cdv ct) hroom (X' _ _ ho) rfl hco hgen rfl (codeRec_of X' hcd) (BindsTo.of_eq hbind _ _ _ _ ?_)
  refine wpAny_newFunctionEnv_cells hk (kindsX hkind _) fun env' he s' x => ?_
  subst he
  refine ⟨(T.nolimit.keeps F.keep).keeps x.toInCall.keep, codeAny_func ?_⟩
  obtain ⟨h₁, tk, rfl, _⟩ := x.done
  have hk₁ := x.toInCall.keep
  obtain ⟨cells, NC, Y⟩ := Cl.news (h₀ := s.heap) (Nat.le_refl _) fun n c hm => ⟨x.cell n c (lookup_of_mem_nodup (cellsFrom_names scope.names 0 (s.heap.objs.size + 1) [] [] rfl ▸ hnd) hm), x.above n c hm⟩
  have e1 : ({ scope := scope, locals := s.heap.objs.size, globals := mainGlobals, cells := cellsFrom (s.heap.objs.size + 1) scope.names [], qual := qual ++ ".<locals>.", func := some f, code := cdv, frame := some s.heap.objs.size, builtins := builtinsNs } : Env) = envX qual scope s.heap.objs.size f cdv (cls s.heap.objs.size) := by rw [hcls]
  have Fx : Fr s.heap s.heap.objs.size h₁ ml := by
    have := x.toInCall.ns
    rw [← hml s.heap.objs.size]
    exact ⟨this, hk₁, Nat.le_refl _⟩
  have Yx : CellsAre mc (cls s.heap.objs.size) cells := by rw [← hmc s.heap.objs.size, ← hcls]; exact Y
  have hn : s.heap.get? s.heap.objs.size = none := by
    cases q : s.heap.get? s.heap.objs.size with
    | none => rfl
    | some o => exact absurd (Heap.lt_size q) (Nat.lt_irrefl _)
  have := h s.heap.objs.size h₁ tk cells B₁ Fx X' (T.keeps F.keep) NC Yx hn
  rw [← e1] at this
  exact wpAny_mono this (fun fl s' x => x) fun e s' x => x.elim
/-- a def of the text is called; it may raise -/
theorem enterR (C : Cal w mean mg mb outer A₀ base h₀ L s.heap m cs) (args : List Value) (binds : List (Str × Value))
    (ho : (KH w.params).lookup f = some ⟨oc, od, .func (fnOf name qual params body scope dV kV doc pm an cdv ct), osl⟩) (hcd : codeIn (KH w.params) cdv qual = true) (hroom : dp < recursionLimit)
    (hbind : bindArgs (fnOf name qual params body scope dV kV doc pm an cdv ct) ⟨args, []⟩ = pure binds) (hloc : ∀ y ∈ binds, scope.names.lookup y.1 = some .local)
    (hco : scope.isCoroutine = false) (hgen : scope.isGenerator = false) (hk : scope.kind = .function) (hcell : ∀ x ∈ scope.names, x.2 ≠ .cell)
    (h : ∀ L' h₁, Below (ktrTop dp un gd cn cs L a ccd cl outer) base (envX cn cs L a ccd cl :: outer) s.heap → Fr s.heap L' h₁ (fun y => binds.reverse.lookup y) → (KH w.params).In s.heap → Top VV (looseW VV []) mean mg mb s.heap → News s.heap L' h₁ [] → s.heap.get? L' = none →
      wpAny (model PP w) ((ktrTop dp un gd cn cs L a ccd cl outer).deeper (envOf qual scope L' f cdv)) (execs body (envOf qual scope L' f cdv))
        (fun fl s' => Q (match fl with | .ret v => v | _ => .none) s')
        (fun e s' => wpAny (model PP w) ((ktrTop dp un gd cn cs L a ccd cl outer).deeper (envOf qual scope L' f cdv)) (leaving (envOf qual scope L' f cdv) e) (fun _ s'' => E e s'') (fun e' s'' => E e' s'') s') { s with heap := h₁, toks := s.toks + binds.length }) :
    wpAny (model PP w) (ktrTop dp un gd cn cs L a ccd cl outer) (call (.ref f) args) Q E s := by
  obtain ⟨B, F, X, T, hks⟩ := C
  have X' := X.keeps F.keep
  refine wpAny_call ?_
  refine codeAny_call_def (fd := fnOf name qual params body scope dV kV doc pm an cdv ct) (body := body) (binds := binds) hroom (X' _ _ ho) rfl (T.nolimit.keeps F.keep) (codeRec_of X' hcd) rfl (BindsTo.of_eq hbind) hcell hloc (fun h₁ hns hk₁ => ?_) hco hgen hk
  have B₁ : Below ({ handled := none, depth := dp, frames := some (envX cn cs L a ccd cl :: outer), guards := gd, units := un } : Around) base (envX cn cs L a ccd cl :: outer) s.heap := by
    obtain ⟨_, x2, x3⟩ := pushX (env := envX cn cs L a ccd cl) B F rfl hks
    exact ⟨rfl, x2, x3⟩
  refine wpAny_mono (h s.heap.objs.size h₁ B₁ ⟨hns, hk₁, Nat.le_refl _⟩ X' (T.keeps F.keep) News.nil ?_) (fun fl s' x => x) fun e s' x => x
  cases q : s.heap.get? s.heap.objs.size with
  | none => rfl
  | some o => exact absurd (Heap.lt_size q) (Nat.lt_irrefl _)

end
end

section
section
variable {prog : Program} {w : World} {A : Around} {E : Value → Shared → Prop} {s : Shared} {h₀ : Heap} {L D : Addr} {m : Str → Option Value} {news news' : List (Addr × Obj)} {vs : List Value} {e : Nat}

theorem itemN {value slice : PySem.Expr} {l : Addr} {k : Int} {u : Tok} {x : Value} {i : Nat} {Q : Value → Shared → Prop} (hl : s.heap.IsList l vs.toArray) (hk : k = (i : Int)) (hz : vs.length < 2 ^ 20) (hx : vs[i]? = some x) (h : Q x s)
    (hs : subscripted slice false (.ref l) (.int k u) = operate [.ref l, .int k u] (getItem (.ref l) (.int k u)) := by with_unfolding_all rfl) (hg : ∀ r, letTemporaryGo value (.ref l) r = pure () := by intro _; with_unfolding_all rfl) :
    wpAny (model prog w) A (subscriptTail value slice (.ref l) (.int k u)) Q E s := by
  have hi : i < vs.length := (List.getElem?_eq_some_iff.mp hx).1
  refine PyProof.Rows.item_listL hl (by omega) (by omega) ?_ h hs hg
  rw [hk]; simpa using hx

theorem setN {k : Int} {t : Tok} {v : Value} {i : Nat} {Q : Unit → Shared → Prop} (F : Fr h₀ L s.heap m) (N : News h₀ L s.heap news) (hk : k = (i : Int)) (U : Upd D (listOf vs.toArray e) (listOf (vs.set i v).toArray e) news news') (hi : i < vs.length) (hz : vs.length < 2 ^ 20)
    (h : ∀ h', Fr h₀ L h' m → News h₀ L h' news' → Q () { s with heap := h' }) : wpAny (model prog w) A (setItem (.ref D) (.int k t) v) Q E s := by
  subst hk
  obtain ⟨pre, post, rfl, rfl, a, b⟩ := U.split
  have z := N (D, listOf vs.toArray e) (List.mem_append.mpr (.inr (.head _)))
  refine ki_setAt z.1 (by omega) (by omega) (by simp only [List.size_toArray]; omega) (h _ (F.change (Heap.SameBut.update ..) z.2.1 z.2.2) (ki_turn _ N a b ?_ ?_))
  · apply Array.toList_inj.mp
    simp
  · simp

theorem popN {y : Value} {Q : Value → Shared → Prop} (F : Fr h₀ L s.heap m) (N : News h₀ L s.heap news) (U : Upd D (listOf (vs ++ [y]).toArray e) (listOf vs.toArray (e + 1)) news news') (hz : vs.length < 2 ^ 20)
    (h : ∀ h', Fr h₀ L h' m → News h₀ L h' news' → Q y { s with heap := h' }) : wpAny (model prog w) A (call (.builtin "list.pop") [.ref D]) Q E s := by
  refine kl_pop F N (p := vs) (y := y) (by simpa using kpa_last y vs) U (by simp only [List.length_append, List.length_cons, List.length_nil]; exact Nat.le_trans (Nat.succ_le_of_lt hz) (by decide)) h

theorem insertN {k : Int} {i : Nat} {u : Tok} {y : Value} {Q : Value → Shared → Prop} (F : Fr h₀ L s.heap m) (N : News h₀ L s.heap news) (hk : k = (i : Int)) (hi : i ≤ vs.length) (U : Upd D (listOf vs.toArray e) (listOf (vs.take i ++ y :: vs.drop i).toArray (e + 1)) news news') (hz : vs.length < 2 ^ 20)
    (h : ∀ h', Fr h₀ L h' m → News h₀ L h' news' → Q .none { s with heap := h' }) : wpAny (model prog w) A (call (.builtin "list.insert") [.ref D, .int k u, y]) Q E s := by
  subst hk
  refine kl_insert F N ?_ ?_ U ?_ h
  · unfold Builtin.List.listFitsIndex
    simp
    omega
  · unfold kl_ins
    rw [if_neg (by omega)]
    simp [Nat.min_eq_left hi]
  · simp only [List.toList_toArray]
    exact Nat.le_trans (Nat.le_of_lt hz) (by decide)

theorem extendN {b : Addr} {ws : List Value} {e2 : Nat} {Q : Value → Shared → Prop} (F : Fr h₀ L s.heap m) (N : News h₀ L s.heap news) (hb : (b, listOf ws.toArray e2) ∈ news) (hne : ws ≠ []) (U : Upd D (listOf vs.toArray e) (listOf (vs ++ ws).toArray (e + 1)) news news') (hz : vs.length + ws.length < 2 ^ 20)
    (h : ∀ h', Fr h₀ L h' m → News h₀ L h' news' → Q .none { s with heap := h' }) : wpAny (model prog w) A (call (.builtin "list.extend") [.ref D, .ref b]) Q E s := by
  have e1 : sizeLine = 16777216 := rfl
  refine kl_extend F N hb (by simp) (by simpa using hne) U ?_ ?_ ?_ h
  · simp [Builtin.List.listTooLong]
    intro _
    omega
  · simp only [List.toList_toArray]; omega
  · simp only [List.size_toArray]; omega

theorem appendN {y : Value} {Q : Value → Shared → Prop} (F : Fr h₀ L s.heap m) (N : News h₀ L s.heap news) (U : Upd D (listOf vs.toArray e) (listOf (vs ++ [y]).toArray (e + 1)) news news') (hz : vs.length < 2 ^ 20)
    (h : ∀ h', Fr h₀ L h' m → News h₀ L h' news' → Q .none { s with heap := h' }) : wpAny (model prog w) A (call (.builtin "list.append") [.ref D, y]) Q E s := by
  have e1 : vs.toArray.push y = (vs ++ [y]).toArray := by simp
  refine append_K F N (by rw [e1]; exact U) h (hsz := by simp only [List.size_toArray]; exact Nat.le_trans (Nat.le_of_lt hz) (by decide))
end
end

local macro_rules | `(tactic| walk_at "mem") => `(tactic| first | exact List.Mem.head _ | (refine List.Mem.tail _ ?_; walk_at "mem") | assumption)
local macro_rules | `(tactic| walk_at "mine") => `(tactic| first
  | ((with_reducible show wpAny _ _ (exec (Stmt.For (Expr.Name _ _) _ _ [] _) _) _ _ _); refine For_invVF (by assumption) rfl rfl ?_)
  | ((with_reducible show wpAny _ _ (subscriptTail _ _ (Value.ref _) (Value.int _ _)) _ _ _); refine' itemN (by is_list) ?k ?z ?c ?_; (case k => exact rfl); (case z => omega); (case c => assumption))
  | ((with_reducible show wpAny _ _ (setItem (Value.ref _) (Value.int _ _) _) _ _ _); refine' setN (by assumption) (by assumption) rfl ?U ?i ?z ?_; (case U => k_upd); (case i => omega); (case z => omega); intro h' F' N'; (try k_sweep))
  | ((with_reducible show wpAny _ _ (call (Value.type "str") [Value.int _ _]) _ _ _); refine str_dig (by with_reducible assumption) (by with_reducible assumption) ?_)
  | ((with_reducible show wpAny _ _ (eval (Expr.ListComp _ _ _ _) _) _ _ _); refine compOpen rfl rfl (by decide) ?_)
  | (with_reducible refine mulS3 ?_; intro _ _)
  | ((with_reducible show wpAny _ _ (binaryOp Operator.Add (Value.str _ _) (Value.str _ _)) _ _ _); refine' addS ?kx ?ky ?kz ?ks ?_; (case kx => walk_at "lits"); (case ky => walk_at "lits"); (case kz => exact rfl); (case ks => first | (simp; done) | (simp; omega)); intro _ _)
  | (with_reducible refine wpAny_execs_cons ?_)
  | (with_reducible refine wpAny_execs_nil ?_)
  | ((with_reducible show wpAny _ _ (eval (Expr.Name _ _) _) _ _ _); first | ((with_reducible show wpAny _ _ (eval (Expr.Name _ _) (envOf _ _ _ _ _)) _ _ _); refine ld (by assumption) rfl ?_ rfl rfl) | ((with_reducible show wpAny _ _ (eval (Expr.Name _ _) (compEnvC _ _ _ _)) _ _ _); first | refine ldVarK (by with_reducible assumption) (by with_reducible assumption) ?_ rfl rfl | refine ldCellK rfl (by with_reducible assumption) ?_ rfl rfl) | ((with_reducible show wpAny _ _ (eval (Expr.Name _ _) (envX _ _ _ _ _ _)) _ _ _); first | refine nameX_L (by assumption) rfl ?_ rfl rfl | refine nameX_C (by assumption) rfl (by walk_at "mem") (by assumption) ?_ rfl rfl) | refine nmOf (by assumption) (by assumption) (by assumption) rfl rfl ?_ rfl rfl rfl)
  | ((with_reducible show wpAny _ _ (callWith _ (Value.builtin _) _ _ _) _ _ _); refine PyProof.Rows.callWith_builtin1 ?_)
  | ((with_reducible show wpAny _ _ (eval (Expr.Call (Expr.Name _ _) _ [] _) _) _ _ _); refine PyProof.Rows.Call_ ?_)
  | (with_reducible refine wpAny_Expr ?_)
  | (with_reducible refine wpAny_Return_some ?_)
  | (with_reducible refine wpAny_If ?_)
  | (with_reducible refine wpAny_isTrue_Compare1 ?_)
  | (with_reducible refine wpAny_Compare1 ?_)
  | ((with_reducible show wpAny _ _ (eval (Expr.Subscript _ _ _) _) _ _ _); (fail_if_success (with_reducible show wpAny _ _ (eval (Expr.Subscript _ (Expr.Slice _ _ _ _) _) _) _ _ _)); refine PyProof.Rows.Subscript_ ?_)
  | (with_reducible refine Calls.Constant_str ?_)
  | (with_reducible refine wpAny_Constant_int ?_)
  | (with_reducible refine wpAny_BinOp ?_)
  | ((with_reducible show wpAny _ _ (subscriptTail _ _ (Value.ref _) (Value.int _ _)) _ _ _); refine' PyProof.Rows.item_listL (by is_list) ?a ?b ?c ?_; (case a => omega); (case b => omega); (case c => first | assumption | (simp only [Int.toNat_natCast, Int.zero_add]; assumption)))
  | ((with_reducible show wpAny _ _ (call (Value.type "range") [Value.int _ _]) _ _ _); refine' range1_rows (by assumption) (by assumption) ?_; intro h' tk t₁ u₁ v₁ R' F' N' kp'; (try k_sweep))
  | ((with_reducible show wpAny _ _ (call (Value.builtin "len") [Value.ref _]) _ _ _); refine' PyProof.Rows.len_list (by is_list) ?z ?_; (case z => (simp only [List.size_toArray, List.length_append, List.length_cons, List.length_nil, List.length_set]; omega)); (try simp only [List.size_toArray]))
  | fail "no rule of mine")
local macro_rules | `(tactic| walk_at "lits") => `(tactic| first | with_reducible exact lit_229 | with_reducible exact lit_close | with_reducible exact lit_nil | exact rfl)
local macro_rules | `(tactic| walk_at "stop") => `(tactic| ((fail_if_success (with_reducible show wpAny _ _ (pyIter _) _ _ _)); (fail_if_success (with_reducible show wpAny _ _ (exec (Stmt.While _ _ _ _) _) _ _ _)); (fail_if_success (with_reducible show wpAny _ _ (call (Value.ref _) _) _ _ _))))
local macro_rules | `(tactic| walk_at "go") => `(tactic| repeat' (walk_at "stop"; first | walk_at "mine" | walk1 | (dsimp only; walk1)))
local macro_rules | `(tactic| walk_at "stopx") => `(tactic| (fail_if_success (with_reducible show wpAny _ _ (execs _ _) _ _ _)))
local macro_rules | `(tactic| walk_at "gos") => `(tactic| repeat' (walk_at "stop"; walk_at "stopx"; first | walk_at "mine" | walk1 | (dsimp only; walk1)))
local macro_rules | `(tactic| walk_at "gosq") => `(tactic| repeat' (walk_at "stop"; walk_at "stopx"; walk_at "stopq"; first | walk_at "mine" | walk1 | (dsimp only; walk1)))

section
open PySem.Builtin.Str
/-- the places of a sign -/
def posS (l : List Nat) (c lo : Nat) : List Nat := (List.range' lo (l.length + 1 - lo)).filter fun i => l[i]? == some c

theorem occ_go (l : List Nat) (c limit : Nat) : ∀ (n a : Nat) (arr : Array Nat) (free : Nat), free ≤ a → arr.size ≤ limit →
    (forIn (List.range' a n) (arr, free) (StrLaws.occBody (S l) (S [c]) l.length limit)).run.fst.toList = arr.toList ++ ((List.range' a n).filter fun i => l[i]? == some c).take (limit - arr.size)
  | 0, a, arr, free, _, _ => by simp
  | n + 1, a, arr, free, hf, hs => by
    rw [List.range'_succ, List.forIn_cons]
    unfold StrLaws.occBody
    have key := StrLaws.subAt_one (S l) c a
    rw [S_cps, S_length] at key
    by_cases hc : l[a]? = some c
    · have k := key.mpr hc
      rw [List.filter_cons_of_pos (by simpa using hc)]
      by_cases hlt : arr.size < limit
      · rw [if_pos ⟨⟨⟨hlt, hf⟩, k.1⟩, k.2⟩]
        have ih := occ_go l c limit n (a + 1) (arr.push a) (a + (S [c]).length) (by rw [S_length]; simp) (by simp; omega)
        simp only [pure_bind] at ih ⊢
        rw [show a + 1 * 1 = a + 1 by omega] at *
        refine ih.trans ?_
        rw [show limit - arr.size = (limit - (arr.push a).size) + 1 by simp; omega, List.take_succ_cons]
        simp
      · rw [if_neg (fun h => hlt h.1.1.1)]
        have ih := occ_go l c limit n (a + 1) arr free (by omega) hs
        simp only [pure_bind] at ih ⊢
        refine ih.trans ?_
        rw [show limit - arr.size = 0 by omega]
        simp
    · have k : ¬ (a + (S [c]).length ≤ l.length ∧ subAt (S l) (S [c]) a = true) := fun h => hc (key.mp h)
      rw [List.filter_cons_of_neg (by simpa using hc), if_neg (fun h => k ⟨h.1.2, h.2⟩)]
      have ih := occ_go l c limit n (a + 1) arr free (by omega) hs
      simp only [pure_bind] at ih ⊢
      exact ih
theorem occ_one (l : List Nat) (c lo limit : Nat) : occurrences (S l) (S [c]) lo l.length limit = (posS l c lo).take limit := by
  rw [StrLaws.occ_eq]
  have := occ_go l c limit (l.length + 1 - lo) lo #[] lo (Nat.le_refl _) (Nat.zero_le _)
  simpa [posS] using this
theorem find_S (l : List Nat) (c : Nat) : Txt.find (S l) (S [c]) = match posS l c 0 with | i :: _ => (i : Int) | [] => -1 := by
  unfold Txt.find
  rw [S_length, occ_one]
  cases posS l c 0 <;> simp
theorem find3_S (l : List Nat) (c k : Nat) : Txt.find3 (S l) (S [c]) (k : Int) = match posS l c k with | i :: _ => (i : Int) | [] => -1 := by
  unfold Txt.find3
  have e : fromIndex (S l).length (k : Int) = k := by
    unfold fromIndex
    rw [if_neg (by omega)]
    omega
  rw [e, S_length, occ_one]
  cases posS l c k <;> simp
theorem kind_pos (x : Str) : 1 ≤ Builtin.Str.strKind x := by
  unfold Builtin.Str.strKind
  split
  · decide
  · split <;> decide
theorem kind_one {c : Nat} (h : c < 256) : Builtin.Str.strKind (S [c]) = 1 := by
  unfold Builtin.Str.strKind
  rw [if_pos (by simp [S, h])]
theorem split_S {l : List Nat} {c : Nat} (hc : c < 256) (hl : l ≠ []) : Txt.split (S l) (S [c]) = if posS l c 0 = [] then [S l] else partsBetween (S l) (posS l c 0) 1 := by
  unfold Txt.split
  have h1 : (decide ((S l).length < (S [c]).length) || decide (Builtin.Str.strKind (S l) < Builtin.Str.strKind (S [c]))) = false := by
    rw [S_length, S_length, kind_one hc]
    have k1 := kind_pos (S l)
    have k2 : 0 < l.length := List.length_pos_iff.mpr hl
    simp only [Bool.or_eq_false_iff, decide_eq_false_iff_not, List.length_cons, List.length_nil]
    exact ⟨by omega, by omega⟩
  have h2 : (posS l c 0).take (l.length + 1) = posS l c 0 := by
    refine List.take_of_length_le ?_
    unfold posS
    refine Nat.le_trans (List.length_filter_le _ _) ?_
    simp
  rw [h1, S_length, occ_one, h2]
  simp only [Bool.false_eq_true, if_false]
  cases posS l c 0 <;> simp [S_length]
theorem split_len {l : List Nat} {c : Nat} (hc : c < 256) (hl : l ≠ []) : (Txt.split (S l) (S [c])).length = (posS l c 0).length + 1 := by
  rw [split_S hc hl]
  split
  · rename_i h; rw [h]; rfl
  · unfold partsBetween
    simp
theorem S_fits {l : List Nat} (h : l.length < 10000) : (S l).length ≤ sizeLine := by
  rw [S_length]; exact Nat.le_trans (Nat.le_of_lt h) (by decide)

theorem slice_to {l : List Nat} {k : Nat} (h : k ≤ l.length) : Txt.slice (S l) none (some (k : Int)) = S (l.take k) := by
  rw [eq_of_beq (slice_closes_to (x := S l) (j := (k : Int)) ⟨by omega, by rw [S_cps]; omega⟩), S_cps]
  simp [S]
theorem slice_from {l : List Nat} {k : Nat} (h : k ≤ l.length) : Txt.slice (S l) (some (k : Int)) none = S (l.drop k) := by
  rw [eq_of_beq (slice_closes_from (x := S l) (i := (k : Int)) ⟨by omega, by rw [S_cps]; omega⟩), S_cps, Int.toNat_natCast, List.take_of_length_le]
  · rfl
  · rw [List.length_drop]; omega
theorem slice_mid {l : List Nat} {i j : Nat} (h : i ≤ j) (h2 : j ≤ l.length) : Txt.slice (S l) (some (i : Int)) (some (j : Int)) = S ((l.drop i).take (j - i)) := by
  rw [eq_of_beq (slice_closes (x := S l) (i := (i : Int)) (j := (j : Int)) ⟨by omega, by omega, by rw [S_cps]; omega⟩), S_cps]
  simp only [Int.toNat_natCast]
  rw [show ((j : Int) - (i : Int)).toNat = j - i by omega]
  rfl
theorem slice_last {l : List Nat} (h : l ≠ []) : Txt.slice (S l) none (some (-1)) = S l.dropLast := by
  have : 0 < l.length := List.length_pos_iff.mpr h
  rw [eq_of_beq (slice_closes_to_neg (x := S l) (j := -1) (k := ((l.length - 1 : Nat) : Int)) (by decide) (by rw [S_length]; omega) (by rw [S_length]; omega)), S_cps, List.dropLast_eq_take]
  simp [S]

section
variable {prog : Program} {w : World} {A : Around} {E : Value → Shared → Prop} {s : Shared}
theorem findR {l r : List Nat} {c a : Nat} {y : Str} {t u : Tok} {Q : Value → Shared → Prop} (hy : y = S [c]) (hf : posS l c 0 = a :: r) (hq : Q (.int (a : Int) s.toks) { s with toks := s.toks + 1 }) : wpAny (model prog w) A (call (.builtin "str.find") [.str (S l) t, .str y u]) Q E s := by
  subst hy
  refine SC.find ?_
  rw [find_S, hf]; exact hq
theorem findR0 {l : List Nat} {c : Nat} {y : Str} {t u : Tok} {Q : Value → Shared → Prop} (hy : y = S [c]) (hf : posS l c 0 = []) (hq : Q (.int (-1) s.toks) { s with toks := s.toks + 1 }) : wpAny (model prog w) A (call (.builtin "str.find") [.str (S l) t, .str y u]) Q E s := by
  subst hy
  refine SC.find ?_
  rw [find_S, hf]; exact hq
theorem find3R {l r : List Nat} {c a i : Nat} {k : Int} {y : Str} {t u v : Tok} {Q : Value → Shared → Prop} (hy : y = S [c]) (hk : k = (i : Int)) (hf : posS l c i = a :: r) (hq : Q (.int (a : Int) s.toks) { s with toks := s.toks + 1 }) : wpAny (model prog w) A (call (.builtin "str.find") [.str (S l) t, .str y u, .int k v]) Q E s := by
  subst hy hk
  refine SC.find3 ?_
  rw [find3_S, hf]; exact hq
theorem find3R0 {l : List Nat} {c i : Nat} {k : Int} {y : Str} {t u v : Tok} {Q : Value → Shared → Prop} (hy : y = S [c]) (hk : k = (i : Int)) (hf : posS l c i = []) (hq : Q (.int (-1) s.toks) { s with toks := s.toks + 1 }) : wpAny (model prog w) A (call (.builtin "str.find") [.str (S l) t, .str y u, .int k v]) Q E s := by
  subst hy hk
  refine SC.find3 ?_
  rw [find3_S, hf]; exact hq
theorem neR_t {x y : Str} {a b : List Nat} {t u : Tok} {Q : Value → Shared → Prop} (hx : x = S a) (hy : y = S b) (h : a ≠ b) (hq : Q (.bool true) s) : wpAny (model prog w) A (compareOp .NotEq (.str x t) (.str y u)) Q E s := by
  subst hx hy
  refine P.ne_str ?_
  rw [S_cps, S_cps, bne_iff_ne.mpr h]
  exact hq
theorem neR_f {x y : Str} {a b : List Nat} {t u : Tok} {Q : Value → Shared → Prop} (hx : x = S a) (hy : y = S b) (h : a = b) (hq : Q (.bool false) s) : wpAny (model prog w) A (compareOp .NotEq (.str x t) (.str y u)) Q E s := by
  subst hx hy h
  refine P.ne_str ?_
  simpa using hq
theorem itemR {value slice : PySem.Expr} {l : List Nat} {i x : Nat} {k : Int} {t u : Tok} {Q : Value → Shared → Prop} (hk : k = (i : Int)) (hz : l.length < 10000) (hx : l[i]? = some x) (hq : Q (.str (S [x]) s.toks) { s with toks := s.toks + 1 })
    (hs : subscripted slice false (.str (S l) t) (.int k u) = operate [.str (S l) t, .int k u] (getItem (.str (S l) t) (.int k u)) := by with_unfolding_all rfl)
    (ht : ∀ r, letTemporaryGo value (.str (S l) t) r = pure () := by intro _; with_unfolding_all rfl) : wpAny (model prog w) A (subscriptTail value slice (.str (S l) t) (.int k u)) Q E s := by
  subst hk
  have hi : i < l.length := (List.getElem?_eq_some_iff.mp hx).1
  refine item_str ?_ (by rw [S_length]; omega) (by rw [S_length]; omega) (fun _ => ?_) hs ht
  · unfold fitsSsize
    simp
    omega
  · have e : Txt.item (S l) (i : Int) = S [x] := by
      unfold Txt.item Txt.charAt
      have e1 : seqIndex? (i : Int) (S l).length = some i := by
        rw [S_length]
        unfold seqIndex?
        simp only [show ¬ (i : Int) < 0 by omega, if_false]
        simp [hi]
      rw [e1]
      simp [S, hx]
    rw [e]; exact hq
end
theorem lit_open : Str.ofString "(" = S [40] := by decide +kernel
theorem lit_229s : Str.ofString "229" = S [50, 50, 57] := by decide +kernel
section
variable {prog : Program} {w : World} {A : Around} {E : Value → Shared → Prop} {s : Shared} {h₀ : Heap} {L : Addr} {m : Str → Option Value} {news : List (Addr × Obj)} {Q : Value → Shared → Prop} {value slice : PySem.Expr} {l : List Nat} {t : Tok}
theorem sliceTo {k : Nat} {j : Int} {uj : Tok} (hF : Fr h₀ L s.heap m) (hN : News h₀ L s.heap news) (hj : j = (k : Int)) (hk : k ≤ l.length) (hz : l.length < 10000) (h : ∀ h' t' tk, Fr h₀ L h' m → News h₀ L h' news → Q (.str (S (l.take k)) t') { s with heap := h', toks := tk })
    (hs : subscripted slice false (.str (S l) t) (.ref s.heap.objs.size) = operate [.ref s.heap.objs.size, .str (S l) t] (getItem (.str (S l) t) (.ref s.heap.objs.size)) := by with_unfolding_all rfl)
    (ht : ∀ r, letTemporaryGo value (.str (S l) t) r = pure () := by intro _; with_unfolding_all rfl) :
    wpAny (model prog w) A (subscriptTail value slice (.str (S l) t) (.ref s.heap.objs.size)) Q E { s with heap := s.heap.push { cls := .type "slice", data := .fields #[.none, .int j uj, .none] } } := by
  subst hj
  exact slice_strN_ns hF hN (by rw [slice_to hk]; exact h) hs ht (S_fits hz)
theorem sliceFrom {k : Nat} {j : Int} {uj : Tok} (hF : Fr h₀ L s.heap m) (hN : News h₀ L s.heap news) (hj : j = (k : Int)) (hk : k ≤ l.length) (hz : l.length < 10000) (h : ∀ h' t' tk, Fr h₀ L h' m → News h₀ L h' news → Q (.str (S (l.drop k)) t') { s with heap := h', toks := tk })
    (hs : subscripted slice false (.str (S l) t) (.ref s.heap.objs.size) = operate [.ref s.heap.objs.size, .str (S l) t] (getItem (.str (S l) t) (.ref s.heap.objs.size)) := by with_unfolding_all rfl)
    (ht : ∀ r, letTemporaryGo value (.str (S l) t) r = pure () := by intro _; with_unfolding_all rfl) :
    wpAny (model prog w) A (subscriptTail value slice (.str (S l) t) (.ref s.heap.objs.size)) Q E { s with heap := s.heap.push { cls := .type "slice", data := .fields #[.int j uj, .none, .none] } } := by
  subst hj
  exact slice_strN_sn hF hN (by rw [slice_from hk]; exact h) hs ht (S_fits hz)
theorem sliceLast {uj : Tok} (hF : Fr h₀ L s.heap m) (hN : News h₀ L s.heap news) (hk : l ≠ []) (hz : l.length < 10000) (h : ∀ h' t' tk, Fr h₀ L h' m → News h₀ L h' news → Q (.str (S l.dropLast) t') { s with heap := h', toks := tk })
    (hs : subscripted slice false (.str (S l) t) (.ref s.heap.objs.size) = operate [.ref s.heap.objs.size, .str (S l) t] (getItem (.str (S l) t) (.ref s.heap.objs.size)) := by with_unfolding_all rfl)
    (ht : ∀ r, letTemporaryGo value (.str (S l) t) r = pure () := by intro _; with_unfolding_all rfl) :
    wpAny (model prog w) A (subscriptTail value slice (.str (S l) t) (.ref s.heap.objs.size)) Q E { s with heap := s.heap.push { cls := .type "slice", data := .fields #[.none, .int (-1) uj, .none] } } := by
  exact slice_strN_ns hF hN (by rw [slice_last hk]; exact h) hs ht (S_fits hz)
theorem sliceMid {i k : Nat} {i₀ j : Int} {ui uj : Tok} (hF : Fr h₀ L s.heap m) (hN : News h₀ L s.heap news) (hi : i₀ = (i : Int)) (hj : j = (k : Int)) (hik : i ≤ k) (hk : k ≤ l.length) (hz : l.length < 10000) (h : ∀ h' t' tk, Fr h₀ L h' m → News h₀ L h' news → Q (.str (S ((l.drop i).take (k - i))) t') { s with heap := h', toks := tk })
    (hs : subscripted slice false (.str (S l) t) (.ref s.heap.objs.size) = operate [.ref s.heap.objs.size, .str (S l) t] (getItem (.str (S l) t) (.ref s.heap.objs.size)) := by with_unfolding_all rfl)
    (ht : ∀ r, letTemporaryGo value (.str (S l) t) r = pure () := by intro _; with_unfolding_all rfl) :
    wpAny (model prog w) A (subscriptTail value slice (.str (S l) t) (.ref s.heap.objs.size)) Q E { s with heap := s.heap.push { cls := .type "slice", data := .fields #[.int i₀ ui, .int j uj, .none] } } := by
  subst hi hj
  exact slice_strN_ss hF hN (by rw [slice_mid hik hk]; exact h) hs ht (S_fits hz)
end
end

section
theorem min_size (a b : Nat) : Builtin.Range.rangeSize 0 (if (b : Int) < (a : Int) then (b : Int) else (a : Int)) 1 = ((min a b : Nat) : Int) := by
  unfold Builtin.Range.rangeSize
  split <;> simp <;> (try split) <;> omega

def aheadP : List Int → List Int → Int → Bool
  | [], [], _ => false
  | [], d :: _, code => decide (code ≤ 48 + d)
  | d :: _, [], code => decide (48 + d < code)
  | a :: r, b :: q, code => if a = b then aheadP r q code else decide (a < b)

theorem aheadP_lt {one other : List Int} {code : Int} (h : one.length < other.length) : aheadP (one.drop (min one.length other.length)) (other.drop (min one.length other.length)) code = decide (code ≤ 48 + other.getD one.length 0) := by
  rw [Nat.min_eq_left (by omega), List.drop_length, List.drop_eq_getElem_cons h, List.getD_eq_getElem?_getD, List.getElem?_eq_getElem h]
  rfl
theorem aheadP_gt {one other : List Int} {code : Int} (h : other.length < one.length) : aheadP (one.drop (min one.length other.length)) (other.drop (min one.length other.length)) code = decide (48 + one.getD other.length 0 < code) := by
  rw [Nat.min_eq_right (by omega), List.drop_length, List.drop_eq_getElem_cons h, List.getD_eq_getElem?_getD, List.getElem?_eq_getElem h]
  rfl
theorem aheadP_eq {one other : List Int} {code : Int} (h : one.length = other.length) : aheadP (one.drop (min one.length other.length)) (other.drop (min one.length other.length)) code = false := by
  rw [show min one.length other.length = one.length by omega, List.drop_length, h, List.drop_length]
  rfl
theorem ahead_ct {w mean mg mb outer A₀ base h₀ L m cs} {dp un : Nat} {gd cn a ccd cl} {s : Shared} {Q E} {news}
    (C : Cal w mean mg mb outer A₀ base h₀ L s.heap m cs) (N : News h₀ L s.heap news) (hd : dp + 10 < recursionLimit)
    {a1 a2 : Addr} {vs1 vs2 : List Value} {one other : List Int} {code : Int} {tc : Tok} (l1 : s.heap.IsList a1 vs1.toArray) (i1 : IntsAre vs1 one) (l2 : s.heap.IsList a2 vs2.toArray) (i2 : IntsAre vs2 other)
    (z1 : one.length < 1000) (z2 : other.length < 1000)
    (ret : ∀ h' tk', Fr h₀ L h' m → News h₀ L h' news → Keeps s.heap h' → Q (.bool (aheadP one other code)) { s with heap := h', toks := tk' }) :
    wpAny (model PP w) (ktrTop dp un gd cn cs L a ccd cl outer) (call (.ref 128) [.ref a1, .ref a2, .int code tc]) Q E s := by
  have F := C.F
  refine enter0 C _ [(Str.ofString "one", .ref a1), (Str.ofString "other", .ref a2), (Str.ofString "code", .int code tc)] (by k_is) (by k_is) (by omega) rfl (locs rfl) rfl rfl rfl (by decide) ?_
  intro L' h₁ B' F' X' T' N' hL'
  clear C
  have q1 := i1.length
  have q2 := i2.length
  walk_at "go"
  rename IsRange _ _ _ _ _ _ _ _ => R
  rename Fr s.heap L' _ _ => F1
  rename News s.heap L' _ _ => N1
  refine forR (σ := Unit) (L := L') (n := min one.length other.length) (fun _ => [(Str.ofString "one", .ref a1), (Str.ofString "other", .ref a2), (Str.ofString "code", .int code tc)]) (fun i _ => aheadP one other code = aheadP (one.drop i) (other.drop i) code) () rfl rfl R ?small ?hn F1 N1 ⟨rfl, rfl, rfl, trivial⟩ rfl ?turn ?done
  case small => exact small_one (by omega) (by omega) (by split <;> omega) (by split <;> omega)
  case hn => (have z9 := min_size vs1.length vs2.length; rw [q1, q2] at z9 ⊢; exact z9)
  case turn =>
    clear R F1 N1
    intro c i t m' h tk own hi hP F' N'
    have e1 : i < one.length := by omega
    have e2 : i < other.length := by omega
    obtain ⟨t1, g1⟩ := i1.get i one[i] (by simp [e1])
    obtain ⟨t2, g2⟩ := i2.get i other[i] (by simp [e2])
    rw [List.drop_eq_getElem_cons e1, List.drop_eq_getElem_cons e2] at hP
    rw [show aheadP (one[i] :: List.drop (i + 1) one) (other[i] :: List.drop (i + 1) other) code = if one[i] = other[i] then aheadP (List.drop (i + 1) one) (List.drop (i + 1) other) code else decide (one[i] < other[i]) from rfl] at hP
    walk_at "go"
    · rename ¬ _ => hc
      rw [if_neg hc] at hP
      rw [hP] at ret
      exact ret _ _ (frKeeps F F'.keep) (newsKeeps N F'.keep) F'.keep
    · rename _ = _ => hc
      rw [if_pos hc] at hP
      exact TurnEnd.intro () F' N' (fun p hp => nomatch hp) (fun p hp => List.mem_append_left _ hp) ⟨rfl, rfl, rfl, trivial⟩ hP
  case done =>
    clear R F1 N1
    intro c m' h tk hP F' N'
    rw [hP] at ret
    walk_at "go"
    · rename _ < _ => hc
      rw [aheadP_lt (by omega)] at ret
      rw [show ((vs1.length : Nat) : Int).toNat = one.length by omega]
      exact ret _ _ (frKeeps F F'.keep) (newsKeeps N F'.keep) F'.keep
    · rw [aheadP_gt (by omega)] at ret
      rw [show ((vs2.length : Nat) : Int).toNat = other.length by omega]
      exact ret _ _ (frKeeps F F'.keep) (newsKeeps N F'.keep) F'.keep
    · rw [aheadP_eq (by omega)] at ret
      rw [decide_eq_false (by omega)]
      exact ret _ _ (frKeeps F F'.keep) (newsKeeps N F'.keep) F'.keep
end

section
def cmp3 (x y : Str) : Int := b2i (decide (y.cps.toList < x.cps.toList)) - b2i (decide (x.cps.toList < y.cps.toList))
theorem cmp_ct {w mean mg mb outer A₀ base h₀ L m cs} {dp un : Nat} {gd cn a ccd cl} {s : Shared} {x y : Str} {tx ty : Tok} {Q E} {news}
    (C : Cal w mean mg mb outer A₀ base h₀ L s.heap m cs) (N : News h₀ L s.heap news) (hd : dp + 10 < recursionLimit)
    (ret : ∀ t h' tk', Fr h₀ L h' m → News h₀ L h' news → Keeps s.heap h' → Q (.int (cmp3 x y) t) { s with heap := h', toks := tk' }) :
    wpAny (model PP w) (ktrTop dp un gd cn cs L a ccd cl outer) (call (.ref 107) [.str x tx, .str y ty]) Q E s := by
  have F := C.F
  refine enter0 C _ [(Str.ofString "x", .str x tx), (Str.ofString "y", .str y ty)] (by k_is) (by k_is) (by omega) rfl (locs rfl) rfl rfl rfl (by decide) ?_
  intro L' h₁ B' F' X' T' N' hL'
  clear C
  walk_at "go"
  exact ret _ _ _ (frKeeps F F'.keep) (newsKeeps N F'.keep) F'.keep

def signP (one other : List Int) (code : Int) : Str := if aheadP one other code then Str.ofString "-1" else if aheadP other one code then Str.ofString "1" else Str.ofString "0"
theorem sign_ct {w mean mg mb outer A₀ base h₀ L m cs} {dp un : Nat} {gd cn a ccd cl} {s : Shared} {Q E} {news}
    (C : Cal w mean mg mb outer A₀ base h₀ L s.heap m cs) (N : News h₀ L s.heap news) (hd : dp + 20 < recursionLimit)
    {a1 a2 : Addr} {vs1 vs2 : List Value} {one other : List Int} {code : Int} {tc : Tok} (l1 : s.heap.IsList a1 vs1.toArray) (i1 : IntsAre vs1 one) (l2 : s.heap.IsList a2 vs2.toArray) (i2 : IntsAre vs2 other)
    (z1 : one.length < 1000) (z2 : other.length < 1000)
    (ret : ∀ t h' tk', Fr h₀ L h' m → News h₀ L h' news → Keeps s.heap h' → Q (.str (signP one other code) t) { s with heap := h', toks := tk' }) :
    wpAny (model PP w) (ktrTop dp un gd cn cs L a ccd cl outer) (call (.ref 169) [.ref a1, .ref a2, .int code tc]) Q E s := by
  have F := C.F
  refine enter0 C _ [(Str.ofString "one", .ref a1), (Str.ofString "other", .ref a2), (Str.ofString "code", .int code tc)] (by k_is) (by k_is) (by omega) rfl (locs rfl) rfl rfl rfl (by decide) ?_
  intro L' h₁ B' F' X' T' N' hL'
  clear C
  unfold signP at ret
  walk_at "go"
  refine ahead_ct ⟨B', F', X', T', rfl⟩ N' (show dp + 1 + 10 < recursionLimit by omega) (F'.lst l1) i1 (F'.lst l2) i2 z1 z2 ?_
  intro h' tk' F₂ N₂ k₂
  walk_at "go"
  · rename _ = true => e1
    rw [if_pos e1] at ret
    exact ret _ _ _ (frKeeps F F₂.keep) (newsKeeps N F₂.keep) F₂.keep
  · rename _ = false => e1
    rw [if_neg (by rw [e1]; decide)] at ret
    refine ahead_ct ⟨B', F₂, X', T', rfl⟩ N₂ (show dp + 1 + 10 < recursionLimit by omega) (F₂.lst l2) i2 (F₂.lst l1) i1 z2 z1 ?_
    intro h' tk' F₃ N₃ k₃
    walk_at "go"
    · rename _ = true => e2
      rw [if_pos e2] at ret
      exact ret _ _ _ (frKeeps F F₃.keep) (newsKeeps N F₃.keep) F₃.keep
    · rename _ = false => e2
      rw [if_neg (by rw [e2]; decide)] at ret
      exact ret _ _ _ (frKeeps F F₃.keep) (newsKeeps N F₃.keep) F₃.keep
end

section
def figs (n : Nat) : List Int := if h : n < 10 then [(n : Int)] else figs (n / 10) ++ [((n % 10 : Nat) : Int)]
termination_by n

theorem fdiv10 (k : Nat) : Int.fdiv (k : Int) 10 = ((k / 10 : Nat) : Int) := by rw [Int.fdiv_eq_ediv_of_nonneg _ (by decide)]; rfl
theorem fmod10 (k : Nat) : Int.fmod (k : Int) 10 = ((k % 10 : Nat) : Int) := by rw [Int.fmod_eq_emod_of_nonneg _ (by decide)]; rfl
theorem figs_base (n : Nat) : figs n = if 9 < n then figs (n / 10) ++ [Int.fmod (n : Int) 10] else [Int.fmod (n : Int) 10] := by
  rw [figs, fmod10]
  by_cases h9 : n < 10
  · rw [dif_pos h9, if_neg (by omega), show n % 10 = n by omega]
  · rw [dif_neg h9, if_pos (by omega)]
theorem figs_step {n k : Nat} {ds : List Int} (hk : 9 < k) (hf : figs n = if 9 < k then figs (k / 10) ++ ds else ds) : figs n = if 9 < k / 10 then figs (k / 10 / 10) ++ ([((k / 10 % 10 : Nat) : Int)] ++ ds) else [((k / 10 % 10 : Nat) : Int)] ++ ds := by
  rw [hf, if_pos hk, figs]
  by_cases h9 : k / 10 < 10
  · rw [dif_pos h9, if_neg (by omega), show k / 10 % 10 = k / 10 by omega]
  · rw [dif_neg h9, if_pos (by omega), List.append_assoc]

theorem figures_ct {w mean mg mb outer A₀ base h₀ L m cs} {dp un : Nat} {gd cn a ccd cl} {s : Shared} {Q E} {news}
    (C : Cal w mean mg mb outer A₀ base h₀ L s.heap m cs) (N : News h₀ L s.heap news) (hd : dp + 10 < recursionLimit)
    {n : Nat} {i : Int} {t : Tok} (hn : i = (n : Int)) (hlt : n < 1000)
    (ret : ∀ r us e h' tk', Fr h₀ L h' m → News h₀ L h' ((r, listOf us.toArray e) :: news) → Keeps s.heap h' → s.heap.get? r = none → IntsAre us (figs n) → Q (.ref r) { s with heap := h', toks := tk' }) :
    wpAny (model PP w) (ktrTop dp un gd cn cs L a ccd cl outer) (call (.ref 114) [.int i t]) Q E s := by
  subst hn
  have F := C.F
  refine enter0 C _ [(Str.ofString "number", .int (n : Int) t)] (by k_is) (by k_is) (by omega) rfl (locs rfl) rfl rfl rfl (by decide) ?_
  intro L' h₁ B' F' X' T' N' hL'
  clear C
  walk_at "go"
  dsimp only
  refine whileS (σ := Nat × Tok × Addr × List Value × Nat) (L := L') (fun c => [(c.2.2.1, listOf c.2.2.2.1.toArray c.2.2.2.2)]) (fun c => [(Str.ofString "number", .int (c.1 : Int) c.2.1), (Str.ofString "row", .ref c.2.2.1)])
    (fun c => c.1 < 1000 ∧ ∃ ds, IntsAre c.2.2.2.1 ds ∧ ds.length + c.1 ≤ 1000 ∧ figs n = if 9 < c.1 then figs (c.1 / 10) ++ ds else ds) (fun c => c.1) (n, t, _, _, _) rfl (by assumption) (by assumption) (by intro p hp; exact hp) ⟨rfl, rfl, trivial⟩ ⟨hlt, _, .cons _ _ .nil, ?_, ?_⟩ ?_
  · simp; omega
  · exact figs_base n
  · rintro ⟨k, t1, r, us, e⟩ m' h tk ⟨hk, ds, hi, hlen, hf⟩ F' N'
    dsimp only at hk hi hlen hf F' N' ⊢
    walk_at "go"
    · rename 9 < _ => h9
      rename IntsAre _ ([_] ++ ds) => hI
      rw [fdiv10, fmod10] at hI
      refine TurnEnd.intro (k / 10, _, _, _, _) (by assumption) (by assumption) (by intro p hp; cases hp with | head => exact .head _ | tail _ h => cases h) (fun p hp => nomatch hp) ⟨by rw [← fdiv10]; rfl, rfl, trivial⟩ ⟨⟨?_, _, hI, ?_, figs_step (by omega) hf⟩, ?_⟩
      · show k / 10 < 1000; omega
      · simp; omega
      · show k / 10 < k; omega
    · rename ¬ _ => h9
      rw [if_neg (by omega)] at hf
      rw [hf] at ret
      exact ret _ _ _ _ _ (frKeeps F F'.keep) (newsNew F (newsKeeps N F'.keep) (N' _ (.head _)).1 (N' _ (.head _)).2.2) F'.keep (N' _ (.head _)).2.2 hi
end

section
/-- the reply of a port under the mark whose sign has the number c -/
def replyL (ds : List Int) (c : Nat) : List Nat := [50, 50, 57, 32, 40, c, c, c] ++ ds.map dcode ++ [c, 41]
def replyP (ds : List Int) (c : Nat) : Str := S (replyL ds c)
/-- a port: at most three figures -/
def Port (ds : List Int) : Prop := ds.length ≤ 3 ∧ ds ≠ [] ∧ ∀ d ∈ ds, 0 ≤ d ∧ d < 10
theorem strsAre_snoc {y : Str} {t : Tok} : ∀ {vs : List Value} {ys : List Str}, StrsAre vs ys → StrsAre (vs ++ [.str y t]) (ys ++ [y])
  | _, _, .nil => .cons _ _ .nil
  | _, _, .cons _ _ h => .cons _ _ (strsAre_snoc h)
theorem strsAre_len : ∀ {vs : List Value} {ys : List Str}, StrsAre vs ys → vs.length = ys.length
  | _, _, .nil => rfl
  | _, _, .cons _ _ h => by simp [strsAre_len h]
theorem sum_digs (ds : List Int) : ((ds.map digS).map (·.length)).sum = ds.length := by
  induction ds with
  | nil => rfl
  | cons d r ih => simp only [List.map_cons, List.sum_cons, ih, List.length_cons]; rw [show (digS d).length = 1 from rfl]; omega

theorem reply_ct {w mean mg mb outer A₀ base h₀ L m cs} {dp un : Nat} {gd cn a ccd cl} {s : Shared} {Q E} {news}
    (C : Cal w mean mg mb outer A₀ base h₀ L s.heap m cs) (N : News h₀ L s.heap news) (hd : dp + 10 < recursionLimit)
    {a1 : Addr} {vs1 : List Value} {ds : List Int} {c : Nat} {tm : Tok} (l1 : s.heap.IsList a1 vs1.toArray) (i1 : IntsAre vs1 ds) (hp : Port ds)
    (ret : ∀ t h' tk', Fr h₀ L h' m → News h₀ L h' news → Keeps s.heap h' → Q (.str (replyP ds c) t) { s with heap := h', toks := tk' }) :
    wpAny (model PP w) (ktrTop dp un gd cn cs L a ccd cl outer) (call (.ref 140) [.ref a1, .str (S [c]) tm]) Q E s := by
  have F := C.F
  obtain ⟨z1, z0, zd⟩ := hp
  refine enter0 C _ [(Str.ofString "port", .ref a1), (Str.ofString "mark", .str (S [c]) tm)] (by k_is) (by k_is) (by omega) rfl (locs rfl) rfl rfl rfl (by decide) ?_
  intro L' h₁ B' F' X' T' N' hL'
  clear C
  walk_at "go"
  refine compT (σ := Unit) (L := L') (fun _ => []) (fun i _ ys => StrsAre ys ((ds.take i).map digS)) () rfl rfl (F'.lst l1) ?_ F' N' (fun p hp => nomatch hp) (fun _ => rfl) (fun p hp => nomatch hp) (by decide) rfl rfl ?_ .nil ?_ ?_
  · rintro rfl
    obtain ⟨o, ho, _⟩ := l1
    rw [hL'] at ho; cases ho
  · have := i1.length; omega
  · intro c' i v ys h tk keep C mC hv hP F₁ N₁ hns hx hC hsep
    have hi : i < ds.length := by
      have := i1.length
      have := (List.getElem?_eq_some_iff.mp hv).1
      omega
    obtain ⟨t1, g1⟩ := i1.get i ds[i] (by simp [hi])
    rw [hv] at g1
    cases g1
    obtain ⟨d0, d1⟩ := zd ds[i] (List.getElem_mem hi)
    try dsimp only
    refine wpAny_tests_nil ?_
    walk_at "go"
    · have := strsAre_len hP; simp at this; omega
    · refine EltPost.intro () F₁ N₁ (fun p hp => List.mem_append_left _ hp) (fun p hp => nomatch hp) ?_
      rw [List.take_add_one, List.getElem?_eq_getElem hi]
      simp only [List.map_append, Option.toList_some, List.map_cons, List.map_nil]
      exact strsAre_snoc hP
  · intro c' ys D e h tk hP F₁ N₁ hD
    rw [i1.length, List.take_length] at hP
    try dsimp only
    walk_at "go"
    refine join_listC (N₁.isList (.head _)) (by simpa using hP) (by rw [lit_nil, S_length]; decide) (by rw [sum_digs]; simp; omega) ?_
    intro t1 k1
    rw [lit_nil, join_digs]
    walk_at "go"
    rw [show [50, 50, 57, 32, 40, c, c, c] ++ ds.map dcode ++ [c] ++ [41] = replyL ds c by simp [replyL]]
    exact ret _ _ _ (frKeeps F F₁.keep) (newsKeeps N F₁.keep) F₁.keep
end

section
/-- a list's items are ports -/
inductive PortsAre (h : Heap) : List Value → List (List Int) → Prop
  | nil : PortsAre h [] []
  | cons {a : Addr} {us vs : List Value} {p : List Int} {ps : List (List Int)} : h.IsList a us.toArray → IntsAre us p → Port p → PortsAre h vs ps → PortsAre h (.ref a :: vs) (p :: ps)
theorem PortsAre.length {h : Heap} : ∀ {vs : List Value} {ps : List (List Int)}, PortsAre h vs ps → vs.length = ps.length
  | _, _, .nil => rfl
  | _, _, .cons _ _ _ r => by simp [r.length]
theorem PortsAre.keeps {h h' : Heap} (k : Keeps h h') : ∀ {vs : List Value} {ps : List (List Int)}, PortsAre h vs ps → PortsAre h' vs ps
  | _, _, .nil => .nil
  | _, _, .cons l i p r => .cons (l.at fun o e => k _ o e) i p (r.keeps k)
theorem PortsAre.get {h : Heap} : ∀ {vs : List Value} {ps : List (List Int)}, PortsAre h vs ps → ∀ {i : Nat} {v : Value}, vs[i]? = some v → ∃ a us p, v = .ref a ∧ ps[i]? = some p ∧ h.IsList a us.toArray ∧ IntsAre us p ∧ Port p
  | _, _, .nil, i, v, e => by simp at e
  | _, _, .cons l i p r, 0, v, e => by simp at e; exact ⟨_, _, _, e.symm, rfl, l, i, p⟩
  | _, _, .cons l i p r, k + 1, v, e => by simpa using r.get (by simpa using e)
theorem PortsAre.append {h : Heap} : ∀ {vs us : List Value} {ps qs : List (List Int)}, PortsAre h vs ps → PortsAre h us qs → PortsAre h (vs ++ us) (ps ++ qs)
  | _, _, _, _, .nil, r => r
  | _, _, _, _, .cons l i p t, r => .cons l i p (t.append r)
theorem PortsAre.take {h : Heap} : ∀ {vs : List Value} {ps : List (List Int)}, PortsAre h vs ps → ∀ n, PortsAre h (vs.take n) (ps.take n)
  | _, _, .nil, n => by simpa using PortsAre.nil
  | _, _, .cons l i p t, 0 => .nil
  | _, _, .cons l i p t, n + 1 => .cons l i p (t.take n)
theorem PortsAre.port {h : Heap} : ∀ {vs : List Value} {ps : List (List Int)}, PortsAre h vs ps → ∀ p ∈ ps, Port p
  | _, _, .cons _ _ p r, q, hq => by
    rcases List.mem_cons.mp hq with rfl | hq
    · exact p
    · exact r.port q hq
end

section
theorem replies_ct {w mean mg mb outer A₀ base h₀ L m cs} {dp un : Nat} {gd cn a ccd cl} {s : Shared} {Q E} {news}
    (C : Cal w mean mg mb outer A₀ base h₀ L s.heap m cs) (N : News h₀ L s.heap news) (hd : dp + 20 < recursionLimit)
    {a1 : Addr} {vs1 : List Value} {ps : List (List Int)} {c : Nat} {tm : Tok} (l1 : s.heap.IsList a1 vs1.toArray) (i1 : PortsAre s.heap vs1 ps) (hlen : ps.length < 1000)
    (ret : ∀ r us e h' tk', Fr h₀ L h' m → News h₀ L h' ((r, listOf us.toArray e) :: news) → Keeps s.heap h' → s.heap.get? r = none → StrsAre us (ps.map fun p => replyP p c) → Q (.ref r) { s with heap := h', toks := tk' }) :
    wpAny (model PP w) (ktrTop dp un gd cn cs L a ccd cl outer) (call (.ref 145) [.ref a1, .str (S [c]) tm]) Q E s := by
  have F := C.F
  refine enterC0 C _ [(Str.ofString "row", .ref a1), (Str.ofString "mark", .str (S [c]) tm)] (fun L' => [(Str.ofString "mark", L' + 1)]) (fun y => if y = Str.ofString "row" then some (.ref a1) else none) (fun y => if y = Str.ofString "mark" then some (.str (S [c]) tm) else none)
    (by k_is) (by k_is) (by omega) rfl rfl (by decide) (fun _ => rfl) (fun _ => rfl) (fun _ => rfl) rfl rfl rfl ?_
  intro L' h₁ tk cells B' F' X' T' N' Y hL'
  clear C
  obtain ⟨co, rfl, hco⟩ := Y.one
  replace hco : co.data = .cell (some (.str (S [c]) tm)) := hco
  walk_at "go"
  have hne : a1 ≠ L' := by
    rintro rfl
    obtain ⟨o, ho, _⟩ := l1
    rw [hL'] at ho; cases ho
  have hne1 : ∀ p ∈ [(L' + 1, co)], p.1 ≠ a1 := by
    intro p hp e
    obtain ⟨o, ho, _⟩ := l1
    have := (N' p hp).2.2
    rw [e, ho] at this; cases this
  refine compT (σ := Unit) (L := L') (fun _ => [(L' + 1, co)]) (fun i _ ys => StrsAre ys ((ps.take i).map fun p => replyP p c)) () rfl rfl (F'.lst l1) hne F' N' (fun p hp => hp) (fun _ => rfl) hne1 (by decide) rfl rfl ?_ .nil ?_ ?_
  · have := i1.length; omega
  · intro c' i v ys h tk keep C mC hv hP F₁ N₁ hns hx hC hsep
    obtain ⟨a2, us, p, rfl, hpi, hl2, hi2, hp2⟩ := i1.get hv
    have hcm : h.IsCell (L' + 1) (some (.str (S [c]) tm)) := ⟨co, (N₁ _ (List.mem_append_right _ (.head _))).1, hco⟩
    try dsimp only
    refine wpAny_tests_nil ?_
    walk_at "go"
    refine reply_ct ⟨B', F₁, X', T', rfl⟩ N₁ (show dp + 1 + 10 < recursionLimit by omega) (F₁.lst hl2) hi2 hp2 ?_
    intro t h' tk' F₂ N₂ k₂
    refine ⟨?_, EltPost.intro () F₂ N₂ (fun p hp => List.mem_append_left _ hp) (fun p hp => List.mem_append_right _ hp) ?_⟩
    · have := strsAre_len hP; simp at this; omega
    · rw [List.take_add_one, hpi]
      simp only [List.map_append, Option.toList_some, List.map_cons, List.map_nil]
      exact strsAre_snoc hP
  · intro c' ys D e h tk hP F₁ N₁ hD
    rw [i1.length, List.take_length] at hP
    try dsimp only
    walk_at "go"
    exact ret _ _ _ _ _ (frKeeps F F₁.keep) (newsNew F (newsKeeps N F₁.keep) (N₁ _ (.head _)).1 (N₁ _ (.head _)).2.2) F₁.keep (N₁ _ (.head _)).2.2 hP
end

section
abbrev ltS (x y : Str) : Prop := x.cps.toList < y.cps.toList
/-- _siftdown's loop, plain -/
def sdGo (new : Str) (start : Nat) (xs : List Str) (pos : Nat) : List Str :=
  if h : start < pos then
    if ltS new (xs.getD ((pos - 1) / 2) new) then sdGo new start (xs.set pos (xs.getD ((pos - 1) / 2) new)) ((pos - 1) / 2) else xs.set pos new
  else xs.set pos new
termination_by pos
decreasing_by omega

theorem strsAre_get : ∀ {vs : List Value} {xs : List Str}, StrsAre vs xs → ∀ {i : Nat}, i < xs.length → ∃ t, vs[i]? = some (.str (xs.getD i default) t)
  | _, _, .cons y t h, 0, _ => ⟨t, rfl⟩
  | _, _, .cons y t h, i + 1, hi => by
    obtain ⟨t', e⟩ := strsAre_get h (i := i) (by simpa using hi)
    exact ⟨t', by simpa using e⟩
theorem strsAre_set {x : Str} {t : Tok} : ∀ {vs : List Value} {xs : List Str}, StrsAre vs xs → ∀ i, StrsAre (vs.set i (.str x t)) (xs.set i x)
  | _, _, .nil, i => by simpa using StrsAre.nil
  | _, _, .cons y u h, 0 => .cons x t h
  | _, _, .cons y u h, i + 1 => .cons y u (strsAre_set h i)

theorem par_eq {p : Nat} (h : 0 < p) : Int.fdiv ((p : Int) - 1) (2 ^ Int.toNat 1) = (((p - 1) / 2 : Nat) : Int) := by
  rw [show (2 : Int) ^ Int.toNat 1 = 2 from rfl, Int.fdiv_eq_ediv_of_nonneg _ (by decide)]
  omega

theorem siftdown_ct {w mean mg mb outer A₀ base h₀ L m cs} {dp un : Nat} {gd cn a ccd cl} {s : Shared} {Q E}
    {d : Addr} {vs : List Value} {e : Nat} {xs : List Str} {start pos : Nat} {t1 t2 : Tok}
    (C : Cal w mean mg mb outer A₀ base h₀ L s.heap m cs) (N : News h₀ L s.heap [(d, listOf vs.toArray e)]) (hd : dp + 10 < recursionLimit)
    (hv : StrsAre vs xs) (hlen : xs.length < 1000) (hpos : pos < xs.length)
    (ret : ∀ us e' h' tk', Keeps (hideAll s.heap [d]) h' → h'.get? d = some (listOf us.toArray e') → StrsAre us (sdGo (xs.getD pos default) start xs pos) → Q .none { s with heap := h', toks := tk' }) :
    wpAny (model PP w) (ktrTop dp un gd cn cs L a ccd cl outer) (call (.ref 86) [.ref d, .int (start : Int) t1, .int (pos : Int) t2]) Q E s := by
  have F := C.F
  refine enterM C N _ [(Str.ofString "heap", .ref d), (Str.ofString "startpos", .int (start : Int) t1), (Str.ofString "pos", .int (pos : Int) t2)] (by k_is) (by k_is) (by omega) rfl (locs rfl) rfl rfl rfl (by decide) ?_
  intro g L' h₁ hg B' F' X' T' N' hL'
  subst hg
  clear C
  have hvl := strsAre_len hv
  obtain ⟨tn, g1⟩ := strsAre_get hv hpos
  generalize hnew : xs.getD pos default = new at *
  generalize hR : sdGo new start xs pos = R at *
  walk_at "go"
  try dsimp only
  refine whileS (σ := List Value × List Str × Nat × Tok × Nat) (L := L') (fun c => [(d, listOf c.1.toArray c.2.2.2.2)])
    (fun c => [(Str.ofString "heap", .ref d), (Str.ofString "startpos", .int (start : Int) t1), (Str.ofString "pos", .int (c.2.2.1 : Int) c.2.2.2.1), (Str.ofString "newitem", .str new tn)])
    (fun c => StrsAre c.1 c.2.1 ∧ c.2.1.length = xs.length ∧ c.2.2.1 < xs.length ∧ R = sdGo new start c.2.1 c.2.2.1) (fun c => c.2.2.1) (vs, xs, pos, t2, e) rfl (by assumption) (by assumption) (by intro p hp; exact hp) ⟨rfl, rfl, rfl, rfl, trivial⟩ ⟨hv, rfl, hpos, hR.symm⟩ ?_
  rintro ⟨vs', xs', p', tp, e'⟩ m' h tk ⟨hv', hl', hp', hr'⟩ F' N'
  dsimp only at hv' hl' hp' hr' F' N' ⊢
  have hvl' := strsAre_len hv'
  walk_at "go"
  · rename _ < _ => hlt
    have hlt' : start < p' := by omega
    rw [sdGo, dif_pos hlt'] at hr'
    obtain ⟨t3, g3⟩ := strsAre_get hv' (i := (p' - 1) / 2) (by omega)
    have e3 : xs'.getD ((p' - 1) / 2) new = xs'.getD ((p' - 1) / 2) default := by simp [List.getD_eq_getElem?_getD, show (p' - 1) / 2 < xs'.length by omega]
    rw [e3] at hr'
    refine itemN (i := (p' - 1) / 2) (by is_list) (par_eq (by omega)) (by omega) g3 ?_
    walk_at "go"
    · rename _ < _ => hc
      rw [if_pos hc] at hr'
      refine TurnEnd.intro (vs'.set p' _, xs'.set p' _, (p' - 1) / 2, _, e') (by assumption) (by assumption) (by intro p hp; exact hp) (fun p hp => nomatch hp) ⟨rfl, rfl, by rw [← par_eq (by omega)]; rfl, rfl, trivial⟩ ⟨⟨strsAre_set hv' _, by simpa using hl', ?_, hr'⟩, ?_⟩
      · show (p' - 1) / 2 < _; omega
      · show (p' - 1) / 2 < p'; omega
    · rename ¬ (_ < _) => hc
      rw [if_neg hc] at hr'
      unfold TurnPost
      dsimp only
      walk_at "go"
      rename Fr _ _ _ _ => F2
      rename News _ _ _ _ => N2
      refine ret _ _ _ _ F2.keep (N2 _ (.head _)).1 ?_
      rw [hr']
      exact strsAre_set hv' _
  · rename ¬ (_ < _) => hlt
    have hlt' : ¬ start < p' := by omega
    rw [sdGo, dif_neg hlt'] at hr'
    walk_at "go"
    rename Fr _ _ _ _ => F2
    rename News _ _ _ _ => N2
    refine ret _ _ _ _ F2.keep (N2 _ (.head _)).1 ?_
    rw [hr']
    exact strsAre_set hv' _
end

section
/-- _siftup's loop, plain -/
def suGo (n : Nat) (xs : List Str) (pos : Nat) : List Str × Nat :=
  if h : 2 * pos + 1 < n then
    if 2 * pos + 2 < n ∧ ¬ ltS (xs.getD (2 * pos + 1) default) (xs.getD (2 * pos + 2) default) then suGo n (xs.set pos (xs.getD (2 * pos + 2) default)) (2 * pos + 2)
    else suGo n (xs.set pos (xs.getD (2 * pos + 1) default)) (2 * pos + 1)
  else (xs, pos)
termination_by n - pos
decreasing_by all_goals omega

def suP (xs : List Str) (pos : Nat) : List Str :=
  sdGo (xs.getD pos default) pos ((suGo xs.length xs pos).1.set (suGo xs.length xs pos).2 (xs.getD pos default)) (suGo xs.length xs pos).2

theorem su1 {n p : Nat} {xs : List Str} (h : 2 * p + 1 < n) (hc : 2 * p + 2 < n → ltS (xs.getD (2 * p + 1) default) (xs.getD (2 * p + 2) default)) : suGo n xs p = suGo n (xs.set p (xs.getD (2 * p + 1) default)) (2 * p + 1) := by
  rw [suGo, dif_pos h, if_neg (fun hh => hh.2 (hc hh.1))]
theorem su2 {n p : Nat} {xs : List Str} (h : 2 * p + 2 < n) (hc : ¬ ltS (xs.getD (2 * p + 1) default) (xs.getD (2 * p + 2) default)) : suGo n xs p = suGo n (xs.set p (xs.getD (2 * p + 2) default)) (2 * p + 2) := by
  rw [suGo, dif_pos (by omega), if_pos ⟨h, hc⟩]
theorem su3 {n p : Nat} {xs : List Str} (h : ¬ 2 * p + 1 < n) : suGo n xs p = (xs, p) := by
  rw [suGo, dif_neg h]

theorem siftup_ct {w mean mg mb outer A₀ base h₀ L m cs} {dp un : Nat} {gd cn a ccd cl} {s : Shared} {Q E}
    {d : Addr} {vs : List Value} {e : Nat} {xs : List Str} {pos : Nat} {t2 : Tok}
    (C : Cal w mean mg mb outer A₀ base h₀ L s.heap m cs) (N : News h₀ L s.heap [(d, listOf vs.toArray e)]) (hd : dp + 20 < recursionLimit)
    (hv : StrsAre vs xs) (hlen : xs.length < 1000) (hpos : pos < xs.length)
    (ret : ∀ us e' h' tk', Keeps (hideAll s.heap [d]) h' → h'.get? d = some (listOf us.toArray e') → StrsAre us (suP xs pos) → Q .none { s with heap := h', toks := tk' }) :
    wpAny (model PP w) (ktrTop dp un gd cn cs L a ccd cl outer) (call (.ref 93) [.ref d, .int (pos : Int) t2]) Q E s := by
  have F := C.F
  refine enterM C N _ [(Str.ofString "heap", .ref d), (Str.ofString "pos", .int (pos : Int) t2)] (by k_is) (by k_is) (by omega) rfl (locs rfl) rfl rfl rfl (by decide) ?_
  intro g L' h₁ hg B' F' X' T' N' hL'
  subst hg
  clear C
  have hvl := strsAre_len hv
  obtain ⟨tn, g1⟩ := strsAre_get hv hpos
  unfold suP at ret
  generalize hnew : xs.getD pos default = new at *
  walk_at "go"
  try dsimp only
  refine whileS (σ := List Value × List Str × Nat × Tok × Tok × Nat) (L := L') (fun c => [(d, listOf c.1.toArray c.2.2.2.2.2)])
    (fun c => [(Str.ofString "heap", .ref d), (Str.ofString "startpos", .int (pos : Int) t2), (Str.ofString "endpos", .int (vs.length : Int) _), (Str.ofString "pos", .int (c.2.2.1 : Int) c.2.2.2.1), (Str.ofString "childpos", .int ((2 * c.2.2.1 + 1 : Nat) : Int) c.2.2.2.2.1), (Str.ofString "newitem", .str new tn)])
    (fun c => StrsAre c.1 c.2.1 ∧ c.2.1.length = xs.length ∧ c.2.2.1 < xs.length ∧ suGo xs.length xs pos = suGo xs.length c.2.1 c.2.2.1) (fun c => xs.length - c.2.2.1) (vs, xs, pos, t2, _, e) rfl (by assumption) (by assumption) (by intro p hp; exact hp) ⟨rfl, rfl, rfl, rfl, rfl, rfl, trivial⟩ ⟨hv, rfl, hpos, rfl⟩ ?_
  rintro ⟨vs', xs', p', tp, tc, e'⟩ m' h tk ⟨hv', hl', hp', hr'⟩ F' N'
  dsimp only at hv' hl' hp' hr' F' N' ⊢
  have hvl' := strsAre_len hv'
  walk_at "go"
  · rename ltS _ _ => hc
    refine TurnEnd.intro (vs'.set p' _, xs'.set p' (xs'.getD (2 * p' + 1) default), 2 * p' + 1, _, _, e') (by assumption) (by assumption) (by intro p hp; exact hp) (fun p hp => nomatch hp) ⟨rfl, rfl, rfl, rfl, rfl, rfl, trivial⟩ ⟨⟨strsAre_set (by assumption) _, by simpa using hl', ?_, hr'.trans (su1 (by omega) fun _ => hc)⟩, ?_⟩
    · show 2 * p' + 1 < _; omega
    · show xs.length - (2 * p' + 1) < xs.length - p'; omega
  · rename ¬ ltS _ _ => hc
    refine TurnEnd.intro (vs'.set p' _, xs'.set p' (xs'.getD (2 * p' + 2) default), 2 * p' + 2, _, _, e') (by assumption) (by assumption) (by intro p hp; exact hp) (fun p hp => nomatch hp) ⟨rfl, rfl, rfl, rfl, rfl, rfl, trivial⟩ ⟨⟨strsAre_set (by assumption) _, by simpa using hl', ?_, hr'.trans (su2 (by omega) hc)⟩, ?_⟩
    · show 2 * p' + 2 < _; omega
    · show xs.length - (2 * p' + 2) < xs.length - p'; omega
  · refine TurnEnd.intro (vs'.set p' _, xs'.set p' (xs'.getD (2 * p' + 1) default), 2 * p' + 1, _, _, e') (by assumption) (by assumption) (by intro p hp; exact hp) (fun p hp => nomatch hp) ⟨rfl, rfl, rfl, rfl, rfl, rfl, trivial⟩ ⟨⟨strsAre_set (by assumption) _, by simpa using hl', ?_, hr'.trans (su1 (by omega) fun hh => by omega)⟩, ?_⟩
    · show 2 * p' + 1 < _; omega
    · show xs.length - (2 * p' + 1) < xs.length - p'; omega
  · rename Fr _ _ _ _ => F2
    rename News _ _ _ _ => N2
    rw [hr', su3 (by omega)] at ret
    dsimp only at ret
    refine siftdown_ct ⟨B', F2, X', T', rfl⟩ N2 (show dp + 1 + 10 < recursionLimit by omega) (strsAre_set hv' p') (by simp; omega) (by simp; omega) ?_
    intro us e2 h3 tk3 k3 g3 r3
    obtain ⟨F3, N3⟩ := afterM (mu := [(d, _)]) (rest := []) (mu' := [(d, listOf us.toArray e2)]) F2 N2 (fun _ _ _ hq => nomatch hq) k3 rfl (by intro p hp; rw [List.mem_singleton.mp hp]; exact g3)
    walk_at "go"
    refine ret _ _ _ _ F3.keep g3 ?_
    rw [show (xs'.set p' new).getD p' default = new by simp [List.getD_eq_getElem?_getD, hl', hp']] at r3
    exact r3
end

section
def pushP (xs : List Str) (x : Str) : List Str := sdGo x 0 (xs ++ [x]) xs.length

theorem push_ct {w mean mg mb outer A₀ base h₀ L m cs} {dp un : Nat} {gd cn a ccd cl} {s : Shared} {Q E}
    {d : Addr} {vs : List Value} {e : Nat} {xs : List Str} {x : Str} {t : Tok}
    (C : Cal w mean mg mb outer A₀ base h₀ L s.heap m cs) (N : News h₀ L s.heap [(d, listOf vs.toArray e)]) (hd : dp + 20 < recursionLimit)
    (hv : StrsAre vs xs) (hlen : xs.length < 900)
    (ret : ∀ us e' h' tk', Keeps (hideAll s.heap [d]) h' → h'.get? d = some (listOf us.toArray e') → StrsAre us (pushP xs x) → Q .none { s with heap := h', toks := tk' }) :
    wpAny (model PP w) (ktrTop dp un gd cn cs L a ccd cl outer) (call (.ref 65) [.ref d, .str x t]) Q E s := by
  have F := C.F
  refine enterM C N _ [(Str.ofString "heap", .ref d), (Str.ofString "item", .str x t)] (by k_is) (by k_is) (by omega) rfl (locs rfl) rfl rfl rfl (by decide) ?_
  intro g L' h₁ hg B' F' X' T' N' hL'
  replace hg : g = hideAll s.heap [d] := hg
  subst hg
  clear C
  have hvl := strsAre_len hv
  walk_at "go"
  rename Fr _ _ _ _ => F2
  rename News _ _ _ _ => N2
  rw [show (((vs ++ [Value.str x t]).length : Nat) : Int) - 1 = ((xs.length : Nat) : Int) by simp; omega]
  refine siftdown_ct (start := 0) ⟨B', F2, X', T', rfl⟩ N2 (show dp + 1 + 10 < recursionLimit by omega) (strsAre_snoc hv) (by simp; omega) (by simp) ?_
  intro us e2 h3 tk3 k3 g3 r3
  obtain ⟨F3, N3⟩ := afterM (mu := [(d, _)]) (rest := []) (mu' := [(d, listOf us.toArray e2)]) F2 N2 (fun _ _ _ hq => nomatch hq) k3 rfl (by intro p hp; rw [List.mem_singleton.mp hp]; exact g3)
  walk_at "go"
  refine ret _ _ _ _ F3.keep g3 ?_
  rw [show (xs ++ [x]).getD xs.length default = x by simp [List.getD_eq_getElem?_getD]] at r3
  exact r3

theorem pop_ct {w mean mg mb outer A₀ base h₀ L m cs} {dp un : Nat} {gd cn a ccd cl} {s : Shared} {Q E}
    {d : Addr} {vs : List Value} {e : Nat} {xs : List Str} {x : Str} {t : Tok}
    (C : Cal w mean mg mb outer A₀ base h₀ L s.heap m cs) (N : News h₀ L s.heap [(d, listOf (vs ++ [Value.str x t]).toArray e)]) (hd : dp + 30 < recursionLimit)
    (hv : StrsAre vs xs) (hlen : xs.length < 900)
    (ret : ∀ us e' t' h' tk', Keeps (hideAll s.heap [d]) h' → h'.get? d = some (listOf us.toArray e') → StrsAre us (if xs = [] then [] else suP (xs.set 0 x) 0) → Q (.str (if xs = [] then x else xs.getD 0 default) t') { s with heap := h', toks := tk' }) :
    wpAny (model PP w) (ktrTop dp un gd cn cs L a ccd cl outer) (call (.ref 72) [.ref d]) Q E s := by
  have F := C.F
  refine enterM C N _ [(Str.ofString "heap", .ref d)] (by k_is) (by k_is) (by omega) rfl (locs rfl) rfl rfl rfl (by decide) ?_
  intro g L' h₁ hg B' F' X' T' N' hL'
  replace hg : g = hideAll s.heap [d] := hg
  subst hg
  clear C
  have hvl := strsAre_len hv
  walk_at "go"
  dsimp only
  refine popN F' N' (Upd.head (fun _ hq => nomatch hq)) (by omega) ?_
  intro h2 F2 N2
  cases hv with
  | nil =>
    walk_at "go"
    rename Fr _ _ _ _ => F3
    rename News _ _ _ _ => N3
    exact ret [] _ _ _ _ F3.keep (N3 _ (.head _)).1 .nil
  | cons y ty hv1 =>
    rename_i vs1 xs1
    have hlen2 : xs1.length + 1 < 900 := by simpa using hlen
    walk_at "go"
    rw [if_neg (by simp), if_neg (by simp)] at ret
    rename News _ _ _ [(d, listOf (Value.str x t :: vs1).toArray _)] => N3
    rename Fr _ _ _ _ => F3
    refine siftup_ct (pos := 0) (xs := x :: xs1) ⟨B', F3, X', T', rfl⟩ N3 (show dp + 1 + 20 < recursionLimit by omega) (.cons x t hv1) (by simp; omega) (by simp) ?_
    intro us e2 h3 tk3 k3 g3 r3
    obtain ⟨F4, N4⟩ := afterM (mu := [(d, _)]) (rest := []) (mu' := [(d, listOf us.toArray e2)]) F3 N3 (fun _ _ _ hq => nomatch hq) k3 rfl (by intro p hp; rw [List.mem_singleton.mp hp]; exact g3)
    walk_at "go"
    exact ret _ _ _ _ _ F4.keep g3 r3
end

section
section
open PySem.Builtin.Range
/-- the test that range.__reversed__ makes -/
def revSmall (a b c : Int) : Bool := rangeFitsLong a && rangeFitsLong b && rangeFitsLong c && rangeFitsLong (-c) && rangeFitsLong (a - c) && rangeFitsLong (rangeSize a b c)
theorem meets_range_reversed (r : Addr) (a b c : Int) (t u v : Tok) (hc0 : ¬(!(rangeFitsLong a && rangeFitsLong b && rangeFitsLong c && rangeFitsLong (-c) && rangeFitsLong (a - c) && rangeFitsLong (rangeSize a b c))) = true) :
    Meets (Builtin.«range.__reversed__» ⟨[.ref r], []⟩) (fun _ R s => s.heap.get? r = some { cls := .type "range", dict := none, data := .fields #[.int a t, .int b u, .int c v], slots := #[] } ∧ R (.ok (.ret (Value.ref s.heap.objs.size))) { s with heap := s.heap.push { cls := Value.type (if (rangeFitsLong a && rangeFitsLong b && rangeFitsLong c && rangeFitsLong (-c) && rangeFitsLong (a - c) && rangeFitsLong (rangeSize a b c)) = true then "range_iterator" else "longrange_iterator"), data := .fields #[rawInt (a + (rangeSize a b c - 1) * c), rawInt (rangeSize a b c), rawInt (-c)] } }) :=
  .of_wp fun prog w A R s h => by obtain ⟨hp, g, d, tk, os⟩ := s; obtain ⟨hl, h⟩ := h; wp_walk; exact ⟨_, rfl, h⟩
end
theorem sub_ri_reversed : isSubtype (.type "range_iterator") (.type "reversed") = pure false := by rw [isSubtype_type]; kernel_rfl
section
variable {prog : Program} {w : World} {A : Around} {E : Value → Shared → Prop} {s : Shared}
abbrev rangeIt (a n c : Int) : Obj := { cls := .type "range_iterator", dict := none, data := .fields #[rawInt a, rawInt n, rawInt c], slots := #[] }

theorem call_range_reversed {r : Addr} {a b c : Int} {t u v : Tok} {Q : Value → Shared → Prop} (hr : IsRange s.heap r a b c t u v) (hs : revSmall a b c = true)
    (h : Q (.ref s.heap.objs.size) { s with heap := s.heap.push (rangeIt (a + (Builtin.Range.rangeSize a b c - 1) * c) (Builtin.Range.rangeSize a b c) (-c)) }) : wpAny (model prog w) A (call (.builtin "range.__reversed__") [.ref r]) Q E s := by
  have hT : s.TypeIs (.ref r) "range" := ⟨_, hr, rfl⟩
  unfold revSmall at hs
  refine call_meets F.slot_range_reversed hT F.entry_range_reversed (F.args_range_reversed_1 _) (meets_range_reversed r a b c t u v (by rw [hs]; decide)) ⟨hr, ?_⟩
  simp only [hs, if_true]
  exact h

theorem code_reversed_newR {r : Addr} {a b c : Int} {t u v : Tok} {Q₁ : Value → Shared → Prop} (hr : IsRange s.heap r a b c t u v) (hs : revSmall a b c = true)
    (h : Q₁ (.ref s.heap.objs.size) { s with heap := s.heap.push (rangeIt (a + (Builtin.Range.rangeSize a b c - 1) * c) (Builtin.Range.rangeSize a b c) (-c)) }) :
    codeAny (model prog w) A (.call (.builtin "reversed.__new__") ⟨[.type "reversed", .ref r], []⟩) (wants Q₁ E) s := by
  have hT : s.TypeIs (.ref r) "range" := ⟨_, hr, rfl⟩
  refine codeAny_of_tree ?_
  show wpAny _ A.in1 (do checkBuiltinCall "reversed.__new__" ⟨[.type "reversed", .ref r], []⟩; again (.builtin "reversed.__new__" ⟨[.type "reversed", .ref r], []⟩)) _ _ s
  refine wpAny_bind (wpAny_of_eq (F.newCall_reversed_1 _) (wpAny_pure ⟨plainId_quiet F.plain_reversed_new _, codeAny_builtin F.entry_reversed_new ?_⟩))
  rw [Around.under_plainId F.plain_reversed_new _]
  unfold Builtin.«reversed.__new__»
  refine wpAny_bind (wpAny_of_eq (newClass_reversed _) ?_)
  try dsimp only
  refine wpAny_bind (wpAny_of_eq (a := ()) (by first | rfl | kernel_rfl) ?_)
  refine wpAny_bind (wpAny_of_eq (a := ()) (by first | rfl | kernel_rfl) ?_)
  try dsimp only
  refine wpAny_bind (wpAny_specialOf hT F.slot_range_reversed.lookup ?_)
  try dsimp only
  refine wpAny_bind (wpAny_of_eq (F.slot_range_reversed.bind _) ?_)
  try dsimp only
  first
  | rw [if_neg (show ¬ ((Value.builtin "range.__reversed__" == Value.none) = true) from Bool.false_ne_true)]
  | (show wpAny _ _ (if (Value.builtin "range.__reversed__" == Value.none) = true then _ else _) _ _ _; rw [if_neg (show ¬ ((Value.builtin "range.__reversed__" == Value.none) = true) from Bool.false_ne_true)])
  refine wpAny_bind (wpAny_rule ?_)
  refine wpAny_bind (m := runValue (.call (.builtin "range.__reversed__") ⟨[.ref r], []⟩)) (show wpAny _ _ (call (.builtin "range.__reversed__") [.ref r]) _ _ _ from call_range_reversed hr hs ?_)
  first
  | exact wpAny_pure h
  | exact wpAny_bind (wpAny_pure (wpAny_pure h))

theorem call_reversed_range {r : Addr} {a b c : Int} {t u v : Tok} {Q : Value → Shared → Prop} (hr : IsRange s.heap r a b c t u v) (hs : revSmall a b c = true)
    (h : Q (.ref s.heap.objs.size) { s with heap := s.heap.push (rangeIt (a + (Builtin.Range.rangeSize a b c - 1) * c) (Builtin.Range.rangeSize a b c) (-c)) }) : wpAny (model prog w) A (call (.type "reversed") [.ref r]) Q E s := by
  refine callType_other (U := "range_iterator") (Q₁ := fun obj s₁ => obj = .ref s.heap.objs.size ∧ s₁ = { s with heap := s.heap.push (rangeIt (a + (Builtin.Range.rangeSize a b c - 1) * c) (Builtin.Range.rangeSize a b c) (-c)) }) (by decide +kernel) F.create_reversed ⟨_, _, F.mro_reversed⟩ F.made_reversed sub_ri_reversed (F.typeCall_reversed_1 _) (code_reversed_newR hr hs ⟨rfl, rfl⟩) ?_
  rintro obj s₁ ⟨rfl, rfl⟩
  exact ⟨⟨_, Heap.get?_push_size _ rfl, rfl⟩, h⟩

variable {env : Env} {h₀ : Heap} {x : Str} {body : List Stmt} {Q : Flow → Shared → Prop}
/-- over a range's iterator that the frame has made -/
theorem forI {σ : Type} {L I : Addr} {a₀ d₀ : Int} {n : Nat} {m₀ : Str → Option Value} {news : List (Addr × Obj)} (Led : σ → List (Addr × Obj)) (ps : σ → List (Str × Value)) (P : Nat → σ → Prop) (c₀ : σ) (hL : env.locals = L)
    (hh : A.handled = none) (F : Fr h₀ L s.heap m₀) (N : News h₀ L s.heap ((I, rangeIt a₀ n d₀) :: news)) (hN : ∀ p ∈ Led c₀, p ∈ news) (hcls : ∀ c, ∀ p ∈ Led c, p.2.cls ≠ .type "range_iterator")
    (hk : Ok (ps c₀) m₀) (hp : P 0 c₀)
    (turn : ∀ c i t m h tk it, i < n → P i c → Fr h₀ L h (fun y => if y = x then some (.int (a₀ + (i : Int) * d₀) t) else ov (ps c) m y) → News h₀ L h (it :: Led c) → (∀ p ∈ Led c, p.1 ≠ it.1) →
      wpAny (model prog w) A (execs body env) (TurnPost h₀ L Led ps (P (i + 1)) [it] s Q) E { s with heap := h, toks := tk })
    (done : ∀ c m h tk, P n c → Fr h₀ L h (ov (ps c) m) → News h₀ L h (Led c) → Q .next { s with heap := h, toks := tk }) :
    wpAny (model prog w) A (pyIter (.ref I)) (fun it s₂ => LoopAtV prog w A h₀ env x body Q E it s₂) E s := by
  subst hL
  have W := (Walks.range (prog := prog) (w := w) hh I a₀ d₀ n).bound
  have hI := N _ (List.mem_cons_self ..)
  have st0 : IsRangeIter s.heap I (a₀ + ((0 : Nat) : Int) * d₀) ((n : Int) - ((0 : Nat) : Int)) d₀ := by
    have := hI.1
    simpa [IsRangeIter] using this
  have hoff0 : ∀ p ∈ Led c₀, p.1 ≠ I := fun p hp e => by
    have h1 := (N p (List.mem_cons_of_mem _ (hN p hp))).1
    rw [e] at h1
    have h2 : some p.2 = some _ := h1.symm.trans hI.1
    exact hcls c₀ p hp (by rw [Option.some.inj h2])
  refine W.self 0 s _ _ st0 ?_
  let J : Nat → (Str → Option Value) → List (Addr × Obj) → Prop := fun i m₁ news₁ => ∃ c, news₁ = Led c ∧ Ok (ps c) m₁ ∧ P i c
  refine ⟨_, _, _, n, _, _, m₀, Led c₀, J, rfl, W, ?_, ?_, ?_, st0, F, (fun p hp => N p (List.mem_cons_of_mem _ (hN p hp))), ⟨c₀, rfl, hk, hp⟩, ?_, ?_⟩
  · intro hm
    exact hI.2.1 (List.mem_singleton.mp hm).symm
  · intro b hb
    rw [List.mem_singleton.mp hb]
    exact hI.2.2
  · intro p hp hm
    exact hoff0 p hp (List.mem_singleton.mp hm)
  · rintro i v m₁ news₁ s₁ own ⟨hh', tk', rfl⟩ hin hP ⟨c, rfl, hok, hp'⟩ hoff hown hownat hall hst F₁ N₁
    obtain ⟨_, t, rfl⟩ := hP
    have hmem : (I, rangeIt (a₀ + ((i + 1 : Nat) : Int) * d₀) ((n : Int) - ((i + 1 : Nat) : Int)) d₀) ∈ own := hall _ (List.mem_cons_self ..) hI.2.2 _ hst
    have hone : ∀ p ∈ own, p = (I, rangeIt (a₀ + ((i + 1 : Nat) : Int) * d₀) ((n : Int) - ((i + 1 : Nat) : Int)) d₀) := by
      intro p hp
      have e := List.mem_singleton.mp (hown p hp)
      have e2 := hownat p hp
      rw [e] at e2
      have e3 := e2.symm.trans hst
      exact Prod.ext e (Option.some.inj e3)
    have N₂ : News h₀ env.locals hh' ((I, rangeIt (a₀ + ((i + 1 : Nat) : Int) * d₀) ((n : Int) - ((i + 1 : Nat) : Int)) d₀) :: Led c) := by
      intro p hp
      rcases List.mem_cons.mp hp with rfl | hp
      · exact N₁ _ (List.mem_append_left _ hmem)
      · exact N₁ _ (List.mem_append_right _ hp)
    have F₂ : Fr h₀ env.locals hh' (fun y => if y = x then some (.int (a₀ + (i : Int) * d₀) t) else ov (ps c) m₁ y) := by rw [ov_eq hok]; exact F₁
    refine wpAny_mono (turn c i t m₁ hh' tk' _ hin hp' F₂ N₂ (fun p hp e => hoff p hp (by rw [e]; exact List.mem_cons_self ..))) (fun f s₂ p => ?_) fun _ _ e => e
    have fin : TurnEnd h₀ env.locals Led ps (P (i + 1)) [(I, rangeIt (a₀ + ((i + 1 : Nat) : Int) * d₀) ((n : Int) - ((i + 1 : Nat) : Int)) d₀)] s s₂ → LoopStepU h₀ env.locals [I] own (J (i + 1)) { s with heap := hh', toks := tk' } .next s₂ := by
      rintro ⟨c', h', tk, m', news', e, F', N', h1, h2, h3, h4⟩
      refine ⟨rfl, h', tk, m', Led c', e, F', fun p hp => ?_, fun p hp hq => ?_, c', rfl, h3, h4⟩
      · rcases List.mem_append.mp hp with q | q
        · rw [hone p q]; exact N' _ (h2 _ (List.mem_cons_self ..))
        · exact N' _ (h1 _ q)
      · have e1 := (N' p (h1 p hp)).1
        have e2 := (N' _ (h2 _ (List.mem_cons_self ..))).1
        rw [List.mem_singleton.mp hq] at e1
        have e3 : some p.2 = some _ := e1.symm.trans e2
        exact hcls c' p hp (by rw [Option.some.inj e3])
    cases f with
    | ret v => exact .ret p
    | brk => exact .brk p
    | next => exact .next (fin p)
    | cont => exact .cont (fin p)
  · rintro h' tk m' news' F' N' _ ⟨c, rfl, hok, hP⟩
    exact done c m' h' tk hP (by rw [ov_eq hok]; exact F') N'
end
end

section
/-- heapify, plain: the places k - 1 .. 0 -/
def hfGo : List Str → Nat → List Str
  | xs, 0 => xs
  | xs, k + 1 => hfGo (suP xs k) k

theorem len_sdGo (new : Str) (start : Nat) (xs : List Str) (pos : Nat) : (sdGo new start xs pos).length = xs.length := by
  fun_induction sdGo new start xs pos <;> simp_all
theorem len_suGo (n : Nat) (xs : List Str) (pos : Nat) : (suGo n xs pos).1.length = xs.length := by
  fun_induction suGo n xs pos <;> simp_all
theorem len_suP (xs : List Str) (pos : Nat) : (suP xs pos).length = xs.length := by
  unfold suP
  rw [len_sdGo, List.length_set, len_suGo]
theorem half_eq (k : Nat) : Int.fdiv (k : Int) 2 = ((k / 2 : Nat) : Int) := by rw [Int.fdiv_eq_ediv_of_nonneg _ (by decide)]; rfl
theorem size_nat (k : Nat) : Builtin.Range.rangeSize 0 ((k : Nat) : Int) 1 = ((k : Nat) : Int) := by
  unfold Builtin.Range.rangeSize
  simp
  omega
theorem revSmall_nat {k : Nat} (h : k < 1000) : revSmall 0 ((k : Nat) : Int) 1 = true := by
  unfold revSmall
  rw [size_nat]
  unfold Builtin.Range.rangeFitsLong
  simp
  omega

theorem heapify_ct {w mean mg mb outer A₀ base h₀ L m cs} {dp un : Nat} {gd cn a ccd cl} {s : Shared} {Q E}
    {d : Addr} {vs : List Value} {e : Nat} {xs : List Str}
    (C : Cal w mean mg mb outer A₀ base h₀ L s.heap m cs) (N : News h₀ L s.heap [(d, listOf vs.toArray e)]) (hd : dp + 30 < recursionLimit)
    (hv : StrsAre vs xs) (hlen : xs.length < 900)
    (ret : ∀ us e' h' tk', Keeps (hideAll s.heap [d]) h' → h'.get? d = some (listOf us.toArray e') → StrsAre us (hfGo xs (xs.length / 2)) → Q .none { s with heap := h', toks := tk' }) :
    wpAny (model PP w) (ktrTop dp un gd cn cs L a ccd cl outer) (call (.ref 79) [.ref d]) Q E s := by
  have F := C.F
  refine enterM C N _ [(Str.ofString "x", .ref d)] (by k_is) (by k_is) (by omega) rfl (locs rfl) rfl rfl rfl (by decide) ?_
  intro g L' h₁ hg B' F' X' T' N' hL'
  replace hg : g = hideAll s.heap [d] := hg
  subst hg
  clear C
  have hvl := strsAre_len hv
  walk_at "go"
  rename IsRange _ _ _ _ _ _ _ _ => R
  rename Fr _ _ _ _ => F2
  rename News _ _ _ _ => N2
  rw [half_eq] at R
  refine call_reversed_range R (revSmall_nat (by omega)) ?_
  rw [size_nat]
  have F3 := F2.push (rangeIt (0 + (((vs.length / 2 : Nat) : Int) - 1) * 1) ((vs.length / 2 : Nat) : Int) (-1))
  have N3 := News.push F2 N2 (rangeIt (0 + (((vs.length / 2 : Nat) : Int) - 1) * 1) ((vs.length / 2 : Nat) : Int) (-1))
  refine forI (σ := List Value × List Str × Nat) (L := L') (n := vs.length / 2) (fun c => [(d, listOf c.1.toArray c.2.2)]) (fun c => [(Str.ofString "x", .ref d)])
    (fun i c => StrsAre c.1 c.2.1 ∧ c.2.1.length = xs.length ∧ hfGo xs (xs.length / 2) = hfGo c.2.1 (xs.length / 2 - i)) (vs, xs, e) rfl rfl F3 N3 (fun p hp => hp) (by intro c p hp; rw [List.mem_singleton.mp hp]; simp) ⟨rfl, trivial⟩ ⟨hv, rfl, rfl⟩ ?_ ?_
  · rintro ⟨vs', xs', e'⟩ i t m' h tk it hi ⟨hv', hl', hr'⟩ F' N' hit
    dsimp only at hv' hl' hr' F' N' hit ⊢
    walk_at "go"
    have N4 : News (hideAll s.heap [d]) L' h ([(d, listOf vs'.toArray e')] ++ [it]) := fun p hp => N' p (by simp at hp ⊢; exact hp.symm)
    rw [show 0 + (((vs.length / 2 : Nat) : Int) - 1) * 1 + (i : Int) * -1 = ((xs.length / 2 - i - 1 : Nat) : Int) by omega]
    refine siftup_ct ⟨B', F', X', T', rfl⟩ (fun p hp => N' p (.tail _ hp)) (show dp + 1 + 20 < recursionLimit by omega) hv' (by omega) (by omega) ?_
    intro us e2 h3 tk3 k3 g3 r3
    obtain ⟨F5, N5⟩ := afterM (mu := [(d, _)]) (rest := [it]) (mu' := [(d, listOf us.toArray e2)]) F' N4 (by intro p hp q hq; rw [List.mem_singleton.mp hq]; exact hit p hp) k3 rfl (by intro p hp; rw [List.mem_singleton.mp hp]; exact g3)
    walk_at "go"
    refine TurnEnd.intro (us, suP xs' (xs.length / 2 - i - 1), e2) F5 N5 (by intro p hp; exact List.mem_append_left _ hp) (by intro p hp; exact List.mem_append_right _ hp) ⟨rfl, trivial⟩ ⟨r3, by rw [len_suP]; exact hl', ?_⟩
    rw [hr', show xs.length / 2 - i = (xs.length / 2 - (i + 1)) + 1 by omega, hfGo]
    rfl
  · rintro ⟨vs', xs', e'⟩ m' h tk ⟨hv', hl', hr'⟩ F' N'
    dsimp only at hv' hl' hr' F' N' ⊢
    walk_at "go"
    rw [hr', hvl, Nat.sub_self, hfGo] at ret
    exact ret _ _ _ _ F'.keep (N' _ (.head _)).1 hv'
end

section
/-- one more port in its place -/
def insP (code : Int) (one : List Int) : List (List Int) → List (List Int)
  | [] => [one]
  | q :: r => if aheadP one q code then one :: q :: r else q :: insP code one r
def walkP (code : Int) (ps : List (List Int)) : List (List Int) := ps.foldl (fun row one => insP code one row) []

theorem insP_go {code : Int} {p q : List Int} {qs : List (List Int)} {k : Nat} (hk : qs[k]? = some q) (ha : aheadP p q code = false) (h : insP code p qs = qs.take k ++ insP code p (qs.drop k)) : insP code p qs = qs.take (k + 1) ++ insP code p (qs.drop (k + 1)) := by
  obtain ⟨hlt, e⟩ := List.getElem?_eq_some_iff.mp hk
  rw [h, List.drop_eq_getElem_cons hlt, e, insP, ha, List.take_add_one, hk]
  simp
theorem insP_stop {code : Int} {p q : List Int} {qs : List (List Int)} {k : Nat} (hk : qs[k]? = some q) (ha : aheadP p q code = true) (h : insP code p qs = qs.take k ++ insP code p (qs.drop k)) : insP code p qs = qs.take k ++ p :: qs.drop k := by
  obtain ⟨hlt, e⟩ := List.getElem?_eq_some_iff.mp hk
  rw [h, List.drop_eq_getElem_cons hlt, e, insP, ha]
  simp
theorem insP_end {code : Int} {p : List Int} {qs : List (List Int)} {k : Nat} (hk : ¬ k < qs.length) (h : insP code p qs = qs.take k ++ insP code p (qs.drop k)) : insP code p qs = qs.take k ++ p :: qs.drop k := by
  rw [h, List.drop_of_length_le (by omega), insP]
theorem PortsAre.drop {h : Heap} : ∀ {vs : List Value} {ps : List (List Int)}, PortsAre h vs ps → ∀ n, PortsAre h (vs.drop n) (ps.drop n)
  | _, _, .nil, n => by simpa using PortsAre.nil
  | _, _, .cons l i p t, 0 => .cons l i p t
  | _, _, .cons l i p t, n + 1 => t.drop n

theorem walk_ct {w mean mg mb outer A₀ base h₀ L m cs} {dp un : Nat} {gd cn a ccd cl} {s : Shared} {Q E} {news}
    (C : Cal w mean mg mb outer A₀ base h₀ L s.heap m cs) (N : News h₀ L s.heap news) (hd : dp + 20 < recursionLimit)
    {a1 : Addr} {vs1 : List Value} {ps : List (List Int)} {code : Int} {tc : Tok} {hg : Heap} (kg : Keeps hg s.heap) (l1 : s.heap.IsList a1 vs1.toArray) (i1 : PortsAre hg vs1 ps) (hlen : ps.length < 900)
    (ret : ∀ r us e h' tk', Fr h₀ L h' m → News h₀ L h' ((r, listOf us.toArray e) :: news) → Keeps s.heap h' → s.heap.get? r = none → PortsAre hg us (walkP code ps) → Q (.ref r) { s with heap := h', toks := tk' }) :
    wpAny (model PP w) (ktrTop dp un gd cn cs L a ccd cl outer) (call (.ref 135) [.ref a1, .int code tc]) Q E s := by
  have F := C.F
  refine enter0 C _ [(Str.ofString "shelf", .ref a1), (Str.ofString "code", .int code tc)] (by k_is) (by k_is) (by omega) rfl (locs rfl) rfl rfl rfl (by decide) ?_
  intro L' h₁ B' F' X' T' N' hL'
  clear C
  walk_at "go"
  rename_i r0 _ _ _ _ _
  rename Fr s.heap _ _ _ => F2
  rename News s.heap _ _ _ => N2
  refine forB (σ := Addr × List Value × Nat) (L := L') (fun c => [(c.1, listOf c.2.1.toArray c.2.2)]) (fun c => [(Str.ofString "row", .ref c.1), (Str.ofString "code", .int code tc)])
    (fun i c => ∃ qs, PortsAre hg c.2.1 qs ∧ qs.length = i ∧ walkP code (ps.take i) = qs) (r0, [], 0) rfl rfl l1 F2 N2 (by intro p hp; exact hp) (by intro _ c _ p hp; rw [List.mem_singleton.mp hp]; simp) ?ok ⟨[], .nil, rfl, rfl⟩ ?_ ?_
  · exact ⟨rfl, rfl, trivial⟩
  · rintro ⟨r, us, e⟩ i v m' h tk it hv ⟨qs, hq, hql, hw⟩ F' N' hit
    obtain ⟨a2, us2, p, rfl, hpi, hl2, hi2, hp2⟩ := i1.get hv
    have hl2s : s.heap.IsList a2 us2.toArray := hl2.at fun o e => kg _ o e
    dsimp only at hq F' N' hit ⊢
    have hi : i < ps.length := (List.getElem?_eq_some_iff.mp hpi).1
    have hul := hq.length
    walk_at "go"
    have fin : ∀ (k : Nat) (tk' : Nat) (h' : Heap) (m2 : Str → Option Value) (t2 : Tok) , k ≤ us.length → insP code p qs = qs.take k ++ p :: qs.drop k → News s.heap L' h' [it, (r, listOf (us.take k ++ .ref a2 :: us.drop k).toArray (e + 1))] → Fr s.heap L' h' m2 → Ok [(Str.ofString "row", .ref r), (Str.ofString "code", .int code tc)] m2 →
        ∀ s' : Shared, TurnEnd s.heap L' (fun c : Addr × List Value × Nat => [(c.1, listOf c.2.1.toArray c.2.2)]) (fun c => [(Str.ofString "row", .ref c.1), (Str.ofString "code", .int code tc)]) (fun c => ∃ qs, PortsAre hg c.2.1 qs ∧ qs.length = i + 1 ∧ walkP code (ps.take (i + 1)) = qs) [it] s' { s' with heap := h', toks := tk' } := by
      intro k tk' h' m2 t2 hk hins N5 F5 ok5 s'
      refine TurnEnd.intro (r, us.take k ++ .ref a2 :: us.drop k, e + 1) F5 N5 (fun p hp => .tail _ hp) (fun p hp => by rw [List.mem_singleton.mp hp]; exact .head _) ok5 ⟨qs.take k ++ p :: qs.drop k, (hq.take k).append (.cons hl2 hi2 hp2 (hq.drop k)), ?_, ?_⟩
      · simp; omega
      · rw [List.take_add_one, hpi]
        simp only [Option.toList_some]
        rw [← hins, ← hw]
        unfold walkP
        rw [List.foldl_append]
        rfl
    refine whileS (σ := Nat × Tok) (L := L') (fun _ => [it, (r, listOf us.toArray e)]) (fun c => [(Str.ofString "one", .ref a2), (Str.ofString "row", .ref r), (Str.ofString "code", .int code tc), (Str.ofString "k", .int (c.1 : Int) c.2)])
      (fun c => c.1 ≤ us.length ∧ insP code p qs = qs.take c.1 ++ insP code p (qs.drop c.1)) (fun c => us.length - c.1) (0, _) rfl (by assumption) (by assumption) (fun p hp => hp) ⟨rfl, rfl, rfl, rfl, trivial⟩ ⟨Nat.zero_le _, rfl⟩ ?_
    rintro ⟨k, tk1⟩ m2 h2 tk2 ⟨hk, hins⟩ F3 N3
    dsimp only at hk hins F3 N3 ⊢
    by_cases hlt : k < us.length
    · cases hv3 : us[k]? with
      | none => exact absurd (List.getElem?_eq_none_iff.mp hv3) (by omega)
      | some v3 =>
        obtain ⟨a3, us3, q, rfl, hqi, hl3, hi3, hp3⟩ := hq.get hv3
        have hl3s : s.heap.IsList a3 us3.toArray := hl3.at fun o e => kg _ o e
        walk_at "go"
        refine ahead_ct ⟨B', F3, X', T', rfl⟩ N3 (show dp + 1 + 10 < recursionLimit by omega) (F3.lst hl2s) hi2 (F3.lst hl3s) hi3 (by have := hp2.1; omega) (by have := hp3.1; omega) ?_
        intro h4 tk4 F4 N4 k4
        cases hah : aheadP p q code with
        | true =>
          walk_at "go"
          refine insertN F4 N4 rfl hk (.tail (Ne.symm (hit _ (.head _))) (.head fun _ hq => nomatch hq)) (by omega) ?_
          intro h5 F5 N5
          walk_at "go"
          exact fin k _ h5 _ tk1 hk (insP_stop hqi hah hins) N5 F5 ⟨rfl, rfl, trivial⟩ _
        | false =>
          walk_at "go"
          refine TurnEnd.intro (k + 1, _) (by assumption) (by assumption) (fun p hp => hp) (fun p hp => nomatch hp) ⟨rfl, rfl, rfl, rfl, trivial⟩ ⟨⟨?_, insP_go hqi hah hins⟩, ?_⟩
          · show k + 1 ≤ _; omega
          · show us.length - (k + 1) < us.length - k; omega
    · walk_at "go"
      refine insertN F3 N3 rfl hk (.tail (Ne.symm (hit _ (.head _))) (.head fun _ hq => nomatch hq)) (by omega) ?_
      intro h5 F5 N5
      walk_at "go"
      exact fin k _ h5 _ tk1 hk (insP_end (by omega) hins) N5 F5 ⟨rfl, rfl, trivial⟩ _
  · rintro ⟨r, us, e⟩ m' h tk ⟨qs, hq, hql, hw⟩ F' N'
    dsimp only at hq F' N' ⊢
    walk_at "go"
    rw [i1.length, List.take_length] at hw
    rw [hw] at ret
    exact ret _ _ _ _ _ (frKeeps F F'.keep) (newsNew F (newsKeeps N F'.keep) (N' _ (.head _)).1 (N' _ (.head _)).2.2) F'.keep (N' _ (.head _)).2.2 hq
end

section
/-- ports by the ledger -/
inductive PortsIn (led : List (Addr × Obj)) : List Value → List (List Int) → Prop
  | nil : PortsIn led [] []
  | cons {a : Addr} {us vs : List Value} {e : Nat} {p : List Int} {ps : List (List Int)} : (a, listOf us.toArray e) ∈ led → IntsAre us p → Port p → PortsIn led vs ps → PortsIn led (.ref a :: vs) (p :: ps)
theorem PortsIn.mono {l l' : List (Addr × Obj)} (k : ∀ p ∈ l, p ∈ l') : ∀ {vs : List Value} {ps : List (List Int)}, PortsIn l vs ps → PortsIn l' vs ps
  | _, _, .nil => .nil
  | _, _, .cons m i p r => .cons (k _ m) i p (r.mono k)
theorem PortsIn.are {h₀ h : Heap} {L : Addr} {led : List (Addr × Obj)} (N : News h₀ L h led) : ∀ {vs : List Value} {ps : List (List Int)}, PortsIn led vs ps → PortsAre h vs ps
  | _, _, .nil => .nil
  | _, _, .cons m i p r => .cons (N.isList m) i p (r.are N)
theorem PortsIn.length {led : List (Addr × Obj)} : ∀ {vs : List Value} {ps : List (List Int)}, PortsIn led vs ps → vs.length = ps.length
  | _, _, .nil => rfl
  | _, _, .cons _ _ _ r => by simp [r.length]
theorem PortsIn.snoc {led : List (Addr × Obj)} {a : Addr} {us : List Value} {e : Nat} {p : List Int} (hm : (a, listOf us.toArray e) ∈ led) (hi : IntsAre us p) (hp : Port p) : ∀ {vs : List Value} {ps : List (List Int)}, PortsIn led vs ps → PortsIn led (vs ++ [.ref a]) (ps ++ [p])
  | _, _, .nil => .cons hm hi hp .nil
  | _, _, .cons m i q r => .cons m i q (r.snoc hm hi hp)

theorem figs_len : ∀ n, n < 1000 → (figs n).length ≤ 3 := by
  have d : ∀ n, n < 10 → (figs n).length = 1 := fun n h => by rw [figs, dif_pos h]; rfl
  have c : ∀ n, n < 100 → (figs n).length ≤ 2 := fun n h => by
    rw [figs]
    split
    · simp
    · rw [List.length_append, d (n / 10) (by omega)]; simp
  intro n h
  rw [figs]
  split
  · simp
  · have := c (n / 10) (by omega)
    rw [List.length_append]; simp; omega
theorem figs_ne (n : Nat) : figs n ≠ [] := by
  rw [figs]
  split <;> simp
theorem figs_dig (n : Nat) : ∀ d ∈ figs n, 0 ≤ d ∧ d < 10 := by
  fun_induction figs n with
  | case1 n h => intro d hd; simp at hd; omega
  | case2 n h ih =>
    intro d hd
    rcases List.mem_append.mp hd with hd | hd
    · exact ih d hd
    · simp at hd; omega
theorem figs_port {n : Nat} (h : n < 1000) : Port (figs n) := ⟨figs_len n h, figs_ne n, figs_dig n⟩

/-- one draw laid on the two shelves -/
def shStep (acc : List (List Int) × List (List Int)) (n : Nat) : List (List Int) × List (List Int) :=
  if n / 1000 % 4 = 0 then (acc.1 ++ [figs (n % 1000)], acc.2 ++ [figs (n % 1000 / 10)])
  else if n / 1000 % 4 = 1 then (acc.1 ++ [figs (n % 1000 / 10)], acc.2 ++ [figs (n % 1000)])
  else if n / 1000 % 4 = 2 then (acc.1 ++ [figs (n % 1000)], acc.2 ++ [figs (n % 1000)])
  else (acc.1 ++ [figs (n % 1000), figs (n % 1000)], acc.2 ++ [figs (n % 1000 / 100)])
def shelvesP (ns : List Nat) : List (List Int) × List (List Int) := ns.foldl shStep ([], [])
theorem fmod1000 (k : Nat) : Int.fmod (k : Int) 1000 = ((k % 1000 : Nat) : Int) := by rw [Int.fmod_eq_emod_of_nonneg _ (by decide)]; rfl
theorem fdiv1000 (k : Nat) : Int.fdiv (k : Int) 1000 = ((k / 1000 : Nat) : Int) := by rw [Int.fdiv_eq_ediv_of_nonneg _ (by decide)]; rfl
theorem fdiv100 (k : Nat) : Int.fdiv (k : Int) 100 = ((k / 100 : Nat) : Int) := by rw [Int.fdiv_eq_ediv_of_nonneg _ (by decide)]; rfl
theorem fmod4 (k : Nat) : Int.fmod (k : Int) 4 = ((k % 4 : Nat) : Int) := by rw [Int.fmod_eq_emod_of_nonneg _ (by decide)]; rfl

section
variable {α : Type} {a b c d e p : α} {l : List α}
theorem sw1 (h : p ∈ c :: b :: a :: d :: l) : p ∈ a :: b :: c :: d :: l := by simp only [List.mem_cons] at h ⊢; grind
theorem sw2 (h : p ∈ e :: c :: b :: a :: d :: l) : p ∈ a :: b :: c :: d :: e :: l := by simp only [List.mem_cons] at h ⊢; grind
theorem sw3 (h : p ∈ b :: c :: a :: l) : p ∈ a :: b :: c :: l := by simp only [List.mem_cons] at h ⊢; grind
theorem sw4 (h : p ∈ d :: c :: a :: b :: e :: l) : p ∈ a :: b :: c :: d :: e :: l := by simp only [List.mem_cons] at h ⊢; grind
theorem sw5 (h : p ∈ e :: b :: a :: c :: d :: l) : p ∈ a :: b :: c :: d :: e :: l := by simp only [List.mem_cons] at h ⊢; grind
theorem sw6 (h : p ∈ d :: b :: a :: c :: l) : p ∈ a :: b :: c :: d :: l := by simp only [List.mem_cons] at h ⊢; grind
theorem sw7 (h : p ∈ d :: a :: c :: b :: e :: l) : p ∈ a :: b :: c :: d :: e :: l := by simp only [List.mem_cons] at h ⊢; grind
theorem sw8 (h : p ∈ d :: c :: b :: a :: e :: l) : p ∈ a :: b :: c :: d :: e :: l := by simp only [List.mem_cons] at h ⊢; grind
theorem sw9 {g : α} (h : p ∈ g :: c :: b :: a :: d :: l) : p ∈ a :: b :: c :: d :: e :: g :: l := by simp only [List.mem_cons] at h ⊢; grind
end

theorem neNew {h₀ h : Heap} {L r : Addr} {l : List (Addr × Obj)} (N : News h₀ L h l) (hr : h.get? r = none) : ∀ p ∈ l, p.1 ≠ r := fun p hp e => by
  have := (N p hp).1
  rw [e, hr] at this; cases this
theorem newsNewL {h₀ h h' : Heap} {L L' : Addr} {m : Str → Option Value} {l news : List (Addr × Obj)} (F : Fr h₀ L h m) (N : News h₀ L h' news) (N' : News h L' h' l) : News h₀ L h' (l ++ news) := by
  intro p hp
  rcases List.mem_append.mp hp with hp | hp
  · exact newsNew F N (N' p hp).1 (N' p hp).2.2 p (.head _)
  · exact N p hp

theorem shelves_ct {w mean mg mb outer A₀ base h₀ L m cs} {dp un : Nat} {gd cn a ccd cl} {s : Shared} {Q E} {news}
    (C : Cal w mean mg mb outer A₀ base h₀ L s.heap m cs) (N : News h₀ L s.heap news) (hd : dp + 20 < recursionLimit)
    {a1 : Addr} {vs1 : List Value} {ns : List Nat} (l1 : s.heap.IsList a1 vs1.toArray) (i1 : IntsAre vs1 (ns.map Int.ofNat)) (hlen : ns.length < 100)
    (ret : ∀ r f g us vs e1 e2 led h' tk', Fr h₀ L h' m → News h₀ L h' ((r, { cls := .type "tuple", data := .seq #[.ref f, .ref g] }) :: (f, listOf us.toArray e1) :: (g, listOf vs.toArray e2) :: led ++ news) → Keeps s.heap h' →
      PortsIn led us (shelvesP ns).1 → PortsIn led vs (shelvesP ns).2 → Q (.ref r) { s with heap := h', toks := tk' }) :
    wpAny (model PP w) (ktrTop dp un gd cn cs L a ccd cl outer) (call (.ref 121) [.ref a1]) Q E s := by
  have F := C.F
  refine enter0 C _ [(Str.ofString "draws", .ref a1)] (by k_is) (by k_is) (by omega) rfl (locs rfl) rfl rfl rfl (by decide) ?_
  intro L' h₁ B' F' X' T' N' hL'
  clear C
  walk_at "go"
  rename_i f0 _ _ _ g0 _ _ _ _ _
  rename f0 < g0 => hfg
  rename Fr s.heap _ _ _ => F2
  rename News s.heap _ _ _ => N2
  refine forB (σ := List Value × List Value × Nat × Nat × List (Addr × Obj)) (L := L') (fun c => (f0, listOf c.1.toArray c.2.2.1) :: (g0, listOf c.2.1.toArray c.2.2.2.1) :: c.2.2.2.2) (fun c => [(Str.ofString "first", .ref f0), (Str.ofString "second", .ref g0)])
    (fun i c => PortsIn c.2.2.2.2 c.1 (shelvesP (ns.take i)).1 ∧ PortsIn c.2.2.2.2 c.2.1 (shelvesP (ns.take i)).2 ∧ c.1.length ≤ 2 * i ∧ c.2.1.length ≤ 2 * i ∧ (∀ p ∈ c.2.2.2.2, p.1 ≠ f0 ∧ p.1 ≠ g0 ∧ p.2.cls = .type "list")) ([], [], 0, 0, []) rfl rfl l1 F2 N2 (by intro p hp; simp at hp ⊢; exact hp.symm) ?_ ⟨rfl, rfl, trivial⟩ ⟨.nil, .nil, Nat.le_refl _, Nat.le_refl _, fun _ hp => nomatch hp⟩ ?_ ?_
  · rintro i ⟨us, vs, e1, e2, led⟩ ⟨_, _, _, _, h5⟩ p hp
    rcases List.mem_cons.mp hp with rfl | hp
    · simp
    · rcases List.mem_cons.mp hp with rfl | hp
      · simp
      · rw [(h5 p hp).2.2]; simp
  · rintro ⟨us, vs, e1, e2, led⟩ i v m' h tk it hv ⟨hF, hG, hul, hvl, hsep⟩ F' N' hit
    dsimp only at hF hG hul hvl hsep F' N' hit ⊢
    have hi : i < ns.length := by
      have h1 := i1.length
      have h2 := (List.getElem?_eq_some_iff.mp hv).1
      simp only [List.length_map] at h1; omega
    obtain ⟨t1, g1⟩ := i1.get i (Int.ofNat ns[i]) (by simp [hi])
    rw [hv] at g1
    cases g1
    have hst : shelvesP (ns.take (i + 1)) = shStep (shelvesP (ns.take i)) ns[i] := by
      unfold shelvesP
      rw [List.take_add_one, List.getElem?_eq_getElem hi, List.foldl_append]
      rfl
    generalize ns[i] = n at *
    have hx1 : Int.fmod (Int.ofNat n) 1000 = ((n % 1000 : Nat) : Int) := fmod1000 n
    have hx2 : Int.fdiv (Int.ofNat n) 1000 = ((n / 1000 : Nat) : Int) := fdiv1000 n
    walk_at "go"
    rw [hx1]
    refine figures_ct ⟨B', F', X', T', rfl⟩ N' (show dp + 1 + 10 < recursionLimit by omega) rfl (Nat.mod_lt _ (by decide)) ?_
    intro r ru re h2 tk2 F2 N2 k2 hr hI
    have hrn := neNew N' hr
    have ff : f0 ≠ g0 := neN (by omega)
    have hrf : r ≠ f0 := Ne.symm (hrn (f0, _) (.tail _ (.head _)))
    have hrg : r ≠ g0 := Ne.symm (hrn (g0, _) (.tail _ (.tail _ (.head _))))
    have itf : it.1 ≠ f0 := Ne.symm (hit (f0, _) (.head _))
    have itg : it.1 ≠ g0 := Ne.symm (hit (g0, _) (.tail _ (.head _)))
    have hp1 : Port (figs (n % 1000)) := figs_port (Nat.mod_lt _ (by decide))
    have fin : ∀ (us' vs' : List Value) (e1' e2' : Nat) (ex : List (Addr × Obj)) (h9 : Heap) (tk9 : Nat) (m9 : Str → Option Value), Fr s.heap L' h9 m9 → News s.heap L' h9 (it :: (f0, listOf us'.toArray e1') :: (g0, listOf vs'.toArray e2') :: (ex ++ led)) →
        Ok [(Str.ofString "first", .ref f0), (Str.ofString "second", .ref g0)] m9 → PortsIn (ex ++ led) us' (shStep (shelvesP (ns.take i)) n).1 → PortsIn (ex ++ led) vs' (shStep (shelvesP (ns.take i)) n).2 → us'.length ≤ 2 * (i + 1) → vs'.length ≤ 2 * (i + 1) → (∀ p ∈ ex, p.1 ≠ f0 ∧ p.1 ≠ g0 ∧ p.2.cls = .type "list") → ∀ s' : Shared,
        TurnEnd s.heap L' (fun c : List Value × List Value × Nat × Nat × List (Addr × Obj) => (f0, listOf c.1.toArray c.2.2.1) :: (g0, listOf c.2.1.toArray c.2.2.2.1) :: c.2.2.2.2) (fun c => [(Str.ofString "first", .ref f0), (Str.ofString "second", .ref g0)])
          (fun c => PortsIn c.2.2.2.2 c.1 (shelvesP (ns.take (i + 1))).1 ∧ PortsIn c.2.2.2.2 c.2.1 (shelvesP (ns.take (i + 1))).2 ∧ c.1.length ≤ 2 * (i + 1) ∧ c.2.1.length ≤ 2 * (i + 1) ∧ (∀ p ∈ c.2.2.2.2, p.1 ≠ f0 ∧ p.1 ≠ g0 ∧ p.2.cls = .type "list")) [it] s' { s' with heap := h9, toks := tk9 } := by
      intro us' vs' e1' e2' ex h9 tk9 m9 F9 N9 ok9 pF pG l1' l2' sp s'
      refine TurnEnd.intro (us', vs', e1', e2', ex ++ led) F9 N9 (fun p hp => .tail _ hp) (fun p hp => by rw [List.mem_singleton.mp hp]; exact .head _) ok9 ⟨by rw [hst]; exact pF, by rw [hst]; exact pG, l1', l2', fun p hp => ?_⟩
      rcases List.mem_append.mp hp with q | q
      · exact sp p q
      · exact hsep p q
    walk_at "go"
    · -- kind 0
      rename _ = (0 : Int) => hk
      have hk0 : n / 1000 % 4 = 0 := by rw [hx2, fmod4] at hk; omega
      rename Fr s.heap _ _ _ => F3
      rename News s.heap _ _ _ => N3
      have N4 : News s.heap L' _ ((f0, listOf us.toArray e1) :: it :: (r, listOf ru.toArray re) :: (g0, listOf vs.toArray e2) :: led) := fun p hp => N3 p (sw1 hp)
      refine appendN F3 N4 (.head ?_) (by omega) ?_
      · intro p hp
        simp only [List.mem_cons] at hp
        rcases hp with rfl | rfl | rfl | hp
        · exact itf
        · exact hrf
        · exact Ne.symm ff
        · exact (hsep p hp).1
      intro h5 F5 N5
      walk_at "go"
      rw [hx1, fdiv10]
      refine figures_ct ⟨B', F5, X', T', rfl⟩ N5 (show dp + 1 + 10 < recursionLimit by omega) rfl (show n % 1000 / 10 < 1000 by omega) ?_
      intro r2 ru2 re2 h6 tk6 F6 N6 k6 hr2 hI2
      have hrn2 := neNew N5 hr2
      have hrf2 : r2 ≠ f0 := Ne.symm (hrn2 (f0, _) (.head _))
      have hrg2 : r2 ≠ g0 := Ne.symm (hrn2 (g0, _) (.tail _ (.tail _ (.tail _ (.head _)))))
      walk_at "go"
      have N7 : News s.heap L' h6 ((g0, listOf vs.toArray e2) :: it :: (f0, listOf (us ++ [Value.ref r]).toArray (e1 + 1)) :: (r2, listOf ru2.toArray re2) :: (r, listOf ru.toArray re) :: led) := fun p hp => N6 p (sw2 hp)
      refine appendN F6 N7 (.head ?_) (by omega) ?_
      · intro p hp
        simp only [List.mem_cons] at hp
        rcases hp with rfl | rfl | rfl | rfl | hp
        · exact itg
        · exact ff
        · exact hrg2
        · exact hrg
        · exact (hsep p hp).2.1
      intro h8 F8 N8
      walk_at "go"
      refine fin (us ++ [Value.ref r]) (vs ++ [Value.ref r2]) _ _ [(r2, listOf ru2.toArray re2), (r, listOf ru.toArray re)] h8 _ _ F8 (fun p hp => N8 p (sw3 hp)) ⟨rfl, rfl, trivial⟩ ?_ ?_ (by simp; omega) (by simp; omega) ?_ _
      · unfold shStep; rw [if_pos hk0]
        exact (hF.mono fun p hp => .tail _ (.tail _ hp)).snoc (.tail _ (.head _)) hI hp1
      · unfold shStep; rw [if_pos hk0]
        exact (hG.mono fun p hp => .tail _ (.tail _ hp)).snoc (.head _) hI2 (figs_port (by omega))
      · intro p hp
        simp only [List.mem_cons, List.not_mem_nil, or_false] at hp
        rcases hp with rfl | rfl
        · exact ⟨hrf2, hrg2, rfl⟩
        · exact ⟨hrf, hrg, rfl⟩
    · -- kind 1
      rename _ = (1 : Int) => hk
      have hk0 : n / 1000 % 4 = 1 := by rw [hx2, fmod4] at hk; omega
      rename Fr s.heap _ _ _ => F3
      rename News s.heap _ _ _ => N3
      rw [hx1, fdiv10]
      refine figures_ct ⟨B', F3, X', T', rfl⟩ N3 (show dp + 1 + 10 < recursionLimit by omega) rfl (show n % 1000 / 10 < 1000 by omega) ?_
      intro r2 ru2 re2 h6 tk6 F6 N6 k6 hr2 hI2
      have hrn2 := neNew N3 hr2
      have hrf2 : r2 ≠ f0 := Ne.symm (hrn2 (f0, _) (.tail _ (.tail _ (.head _))))
      have hrg2 : r2 ≠ g0 := Ne.symm (hrn2 (g0, _) (.tail _ (.tail _ (.tail _ (.head _)))))
      walk_at "go"
      have N4 : News s.heap L' h6 ((f0, listOf us.toArray e1) :: it :: (r2, listOf ru2.toArray re2) :: (r, listOf ru.toArray re) :: (g0, listOf vs.toArray e2) :: led) := fun p hp => N6 p (sw4 hp)
      refine appendN F6 N4 (.head ?_) (by omega) ?_
      · intro p hp
        simp only [List.mem_cons] at hp
        rcases hp with rfl | rfl | rfl | rfl | hp
        · exact itf
        · exact hrf2
        · exact hrf
        · exact Ne.symm ff
        · exact (hsep p hp).1
      intro h7 F7 N7
      walk_at "go"
      have N8 : News s.heap L' h7 ((g0, listOf vs.toArray e2) :: it :: (f0, listOf (us ++ [Value.ref r2]).toArray (e1 + 1)) :: (r2, listOf ru2.toArray re2) :: (r, listOf ru.toArray re) :: led) := fun p hp => N7 p (sw5 hp)
      refine appendN F7 N8 (.head ?_) (by omega) ?_
      · intro p hp
        simp only [List.mem_cons] at hp
        rcases hp with rfl | rfl | rfl | rfl | hp
        · exact itg
        · exact ff
        · exact hrg2
        · exact hrg
        · exact (hsep p hp).2.1
      intro h9 F9 N9
      walk_at "go"
      refine fin (us ++ [Value.ref r2]) (vs ++ [Value.ref r]) _ _ [(r2, listOf ru2.toArray re2), (r, listOf ru.toArray re)] h9 _ _ F9 (fun p hp => N9 p (sw3 hp)) ⟨rfl, rfl, trivial⟩ ?_ ?_ (by simp; omega) (by simp; omega) ?_ _
      · unfold shStep; rw [if_neg (by omega), if_pos hk0]
        exact (hF.mono fun p hp => .tail _ (.tail _ hp)).snoc (.head _) hI2 (figs_port (by omega))
      · unfold shStep; rw [if_neg (by omega), if_pos hk0]
        exact (hG.mono fun p hp => .tail _ (.tail _ hp)).snoc (.tail _ (.head _)) hI hp1
      · intro p hp
        simp only [List.mem_cons, List.not_mem_nil, or_false] at hp
        rcases hp with rfl | rfl
        · exact ⟨hrf2, hrg2, rfl⟩
        · exact ⟨hrf, hrg, rfl⟩
    · -- kind 2
      rename _ = (2 : Int) => hk
      have hk0 : n / 1000 % 4 = 2 := by rw [hx2, fmod4] at hk; omega
      rename Fr s.heap _ _ _ => F3
      rename News s.heap _ _ _ => N3
      have N4 : News s.heap L' _ ((f0, listOf us.toArray e1) :: it :: (r, listOf ru.toArray re) :: (g0, listOf vs.toArray e2) :: led) := fun p hp => N3 p (sw1 hp)
      refine appendN F3 N4 (.head ?_) (by omega) ?_
      · intro p hp
        simp only [List.mem_cons] at hp
        rcases hp with rfl | rfl | rfl | hp
        · exact itf
        · exact hrf
        · exact Ne.symm ff
        · exact (hsep p hp).1
      intro h7 F7 N7
      walk_at "go"
      have N8 : News s.heap L' h7 ((g0, listOf vs.toArray e2) :: it :: (f0, listOf (us ++ [Value.ref r]).toArray (e1 + 1)) :: (r, listOf ru.toArray re) :: led) := fun p hp => N7 p (sw6 hp)
      refine appendN F7 N8 (.head ?_) (by omega) ?_
      · intro p hp
        simp only [List.mem_cons] at hp
        rcases hp with rfl | rfl | rfl | hp
        · exact itg
        · exact ff
        · exact hrg
        · exact (hsep p hp).2.1
      intro h9 F9 N9
      walk_at "go"
      refine fin (us ++ [Value.ref r]) (vs ++ [Value.ref r]) _ _ [(r, listOf ru.toArray re)] h9 _ _ F9 (fun p hp => N9 p (sw3 hp)) ⟨rfl, rfl, trivial⟩ ?_ ?_ (by simp; omega) (by simp; omega) ?_ _
      · unfold shStep; rw [if_neg (by omega), if_neg (by omega), if_pos hk0]
        exact (hF.mono fun p hp => .tail _ hp).snoc (.head _) hI hp1
      · unfold shStep; rw [if_neg (by omega), if_neg (by omega), if_pos hk0]
        exact (hG.mono fun p hp => .tail _ hp).snoc (.head _) hI hp1
      · intro p hp
        rw [List.mem_singleton.mp hp]
        exact ⟨hrf, hrg, rfl⟩
    · -- kind 3
      have hk0 : ¬ n / 1000 % 4 = 0 ∧ ¬ n / 1000 % 4 = 1 ∧ ¬ n / 1000 % 4 = 2 := by
        rename ¬ _ = (0 : Int) => q0
        rename ¬ _ = (1 : Int) => q1
        rename ¬ _ = (2 : Int) => q2
        rw [hx2, fmod4] at q0 q1 q2
        omega
      rename Fr s.heap _ _ _ => F3
      rename News s.heap _ _ _ => N3
      rename (_ < _ ∧ _ < _ ∧ _ < _ ∧ _) => hlt
      have N4 := fun p hp => N3 p (sw8 hp)
      refine extendN (ws := [Value.ref r, Value.ref r]) F3 N4 (.tail _ (.tail _ (.tail _ (.head _)))) (by simp) (.head ?_) (by simp; omega) ?_
      · intro p hp
        simp only [List.mem_cons] at hp
        rcases hp with rfl | rfl | rfl | rfl | hp
        · exact itf
        · exact hrf
        · exact neN (by have := hlt.2.2.1; omega)
        · exact Ne.symm ff
        · exact (hsep p hp).1
      intro h5 F5 N5
      walk_at "go"
      rw [hx1, fdiv100]
      refine figures_ct ⟨B', F5, X', T', rfl⟩ N5 (show dp + 1 + 10 < recursionLimit by omega) rfl (show n % 1000 / 100 < 1000 by omega) ?_
      intro r2 ru2 re2 h6 tk6 F6 N6 k6 hr2 hI2
      have hrn2 := neNew N5 hr2
      have hrf2 : r2 ≠ f0 := Ne.symm (hrn2 (f0, _) (.head _))
      have hrg2 : r2 ≠ g0 := Ne.symm (hrn2 (g0, _) (.tail _ (.tail _ (.tail _ (.tail _ (.head _))))))
      walk_at "go"
      have N7 : News s.heap L' h6 ((g0, listOf vs.toArray e2) :: it :: (f0, listOf (us ++ [Value.ref r, Value.ref r]).toArray (e1 + 1)) :: (r2, listOf ru2.toArray re2) :: (r, listOf ru.toArray re) :: led) := fun p hp => N6 p (sw9 hp)
      refine appendN F6 N7 (.head ?_) (by omega) ?_
      · intro p hp
        simp only [List.mem_cons] at hp
        rcases hp with rfl | rfl | rfl | rfl | hp
        · exact itg
        · exact ff
        · exact hrg2
        · exact hrg
        · exact (hsep p hp).2.1
      intro h8 F8 N8
      walk_at "go"
      refine fin (us ++ [Value.ref r, Value.ref r]) (vs ++ [Value.ref r2]) _ _ [(r2, listOf ru2.toArray re2), (r, listOf ru.toArray re)] h8 _ _ F8 (fun p hp => N8 p (sw3 hp)) ⟨rfl, rfl, trivial⟩ ?_ ?_ (by simp; omega) (by simp; omega) ?_ _
      · unfold shStep; rw [if_neg hk0.1, if_neg hk0.2.1, if_neg hk0.2.2]
        have := ((hF.mono fun p hp => .tail _ (.tail _ hp)).snoc (.tail _ (.head _)) hI hp1 : PortsIn ((r2, listOf ru2.toArray re2) :: (r, listOf ru.toArray re) :: led) _ _)
        have := this.snoc (.tail _ (.head _)) hI hp1
        simpa using this
      · unfold shStep; rw [if_neg hk0.1, if_neg hk0.2.1, if_neg hk0.2.2]
        exact (hG.mono fun p hp => .tail _ (.tail _ hp)).snoc (.head _) hI2 (figs_port (by omega))
      · intro p hp
        simp only [List.mem_cons, List.not_mem_nil, or_false] at hp
        rcases hp with rfl | rfl
        · exact ⟨hrf2, hrg2, rfl⟩
        · exact ⟨hrf, hrg, rfl⟩
  · rintro ⟨us, vs, e1, e2, led⟩ m' h tk ⟨hF, hG, hul, hvl, hsep⟩ F' N'
    dsimp only at hF hG hul hvl hsep F' N' ⊢
    walk_at "go"
    rw [i1.length, List.length_map, List.take_length] at hF hG
    rename Fr s.heap _ _ _ => F3
    rename News s.heap _ _ _ => N3
    exact ret _ _ _ _ _ _ _ _ _ _ (frKeeps F F3.keep) (newsNewL F (newsKeeps N F3.keep) N3) F3.keep hF hG
end

section
abbrev tupOf (its : Array Value) (n : Nat) : Obj := { cls := .type "tuple", data := .seq its n }
/-- the number that a port's figures tell -/
def numP (ds : List Int) : Int := ds.foldl (fun a d => 10 * a + d) 0
theorem any_dig (ds : List Int) (c : Nat) : ((ds.map digS).any fun x => x == S [c]) = true ↔ c ∈ ds.map dcode := by
  rw [List.any_eq_true]
  constructor
  · rintro ⟨x, hx, e⟩
    obtain ⟨d, hd, rfl⟩ := List.mem_map.mp hx
    have := S_inj (eq_of_beq e)
    simp at this
    exact List.mem_map.mpr ⟨d, hd, this⟩
  · intro h
    obtain ⟨d, hd, rfl⟩ := List.mem_map.mp h
    exact ⟨digS d, List.mem_map_of_mem hd, by simp [digS]⟩
theorem due_ct {w mean mg mb outer A₀ base h₀ L m cs} {dp un : Nat} {gd cn a ccd cl} {s : Shared} {Q E} {news}
    (C : Cal w mean mg mb outer A₀ base h₀ L s.heap m cs) (N : News h₀ L s.heap news) (hd : dp + 10 < recursionLimit)
    {a1 : Addr} {vs1 : List Value} {ds : List Int} {c : Nat} {tm th : Tok} {host : Str} (l1 : s.heap.IsList a1 vs1.toArray) (i1 : IntsAre vs1 ds) (hp : Port ds)
    (retP : (c = 41 ∨ c ∈ ds.map dcode) → ∀ t h' tk', Fr h₀ L h' m → News h₀ L h' news → Keeps s.heap h' → Q (.str (Str.ofString "proto") t) { s with heap := h', toks := tk' })
    (retN : ¬ (c = 41 ∨ c ∈ ds.map dcode) → ∀ r e t h' tk', Fr h₀ L h' m → News h₀ L h' ((r, tupOf #[.str host th, .int (numP ds) t] e) :: news) → Keeps s.heap h' → Q (.ref r) { s with heap := h', toks := tk' }) :
    wpAny (model PP w) (ktrTop dp un gd cn cs L a ccd cl outer) (call (.ref 162) [.ref a1, .str (S [c]) tm, .str host th]) Q E s := by
  have F := C.F
  obtain ⟨z1, z0, zd⟩ := hp
  refine enter0 C _ [(Str.ofString "port", .ref a1), (Str.ofString "mark", .str (S [c]) tm), (Str.ofString "host", .str host th)] (by k_is) (by k_is) (by omega) rfl (locs rfl) rfl rfl rfl (by decide) ?_
  intro L' h₁ B' F' X' T' N' hL'
  clear C
  walk_at "go"
  · rename _ = true => hc
    rw [lit_close] at hc
    have hc1 : c = 41 := by have := S_inj (eq_of_beq hc); simpa using this
    exact retP (.inl hc1) _ _ _ (frKeeps F F'.keep) (newsKeeps N F'.keep) F'.keep
  · rename _ = false => hc
    rw [lit_close] at hc
    have hc1 : c ≠ 41 := by rintro rfl; simp at hc
    have hne : a1 ≠ L' := by
      rintro rfl
      obtain ⟨o, ho, _⟩ := l1
      rw [hL'] at ho; cases ho
    refine compT (σ := Unit) (L := L') (fun _ => []) (fun i _ ys => StrsAre ys ((ds.take i).map digS)) () rfl rfl (F'.lst l1) hne F' N' (fun p hp => nomatch hp) (fun _ => rfl) (fun p hp => nomatch hp) (by decide) rfl rfl (by have := i1.length; omega) .nil ?_ ?_
    · intro c' i v ys h tk keep C mC hv hP F₁ N₁ hns hx hC hsep
      have hi : i < ds.length := by
        have := i1.length
        have := (List.getElem?_eq_some_iff.mp hv).1
        omega
      obtain ⟨t1, g1⟩ := i1.get i ds[i] (by simp [hi])
      rw [hv] at g1
      cases g1
      obtain ⟨d0, d1⟩ := zd ds[i] (List.getElem_mem hi)
      try dsimp only
      refine wpAny_tests_nil ?_
      walk_at "go"
      · have := strsAre_len hP; simp at this; omega
      · refine EltPost.intro () F₁ N₁ (fun p hp => List.mem_append_left _ hp) (fun p hp => nomatch hp) ?_
        rw [List.take_add_one, List.getElem?_eq_getElem hi]
        simp only [List.map_append, Option.toList_some, List.map_cons, List.map_nil]
        exact strsAre_snoc hP
    · intro c' ys D e h tk hP F₁ N₁ hD
      rw [i1.length, List.take_length] at hP
      try dsimp only
      have hP2 := hP
      walk_at "go"
      · rename _ = true => ha
        exact retP (.inr ((any_dig ds c).mp ha)) _ _ _ (frKeeps F F₁.keep) (newsKeeps N F₁.keep) F₁.keep
      · rename List.any _ _ = false => ha
        have hno : ¬ (c = 41 ∨ c ∈ ds.map dcode) := by
          rintro (q | q)
          · exact hc1 q
          · rw [(any_dig ds c).mpr q] at ha; cases ha
        rename Fr s.heap _ _ _ => F2
        rename News s.heap _ _ _ => N2
        refine forB (σ := Int × Tok) (L := L') (fun c => []) (fun c => [(Str.ofString "host", .str host th), (Str.ofString "number", .int c.1 c.2)]) (fun i c => c.1 = numP (ds.take i)) (0, _) rfl rfl l1 F2 N2 (fun p hp => nomatch hp) (fun _ _ _ p hp => nomatch hp) ⟨rfl, rfl, trivial⟩ rfl ?_ ?_
        · rintro ⟨k, tk1⟩ i v m2 h2 tk2 it hv hk F3 N3 hit
          dsimp only at hk F3 N3 hit ⊢
          have hi : i < ds.length := by
            have := i1.length
            have := (List.getElem?_eq_some_iff.mp hv).1
            omega
          obtain ⟨t1, g1⟩ := i1.get i ds[i] (by simp [hi])
          rw [hv] at g1
          cases g1
          walk_at "go"
          refine TurnEnd.intro (10 * k + ds[i], _) (by assumption) (by assumption) (fun p hp => nomatch hp) (fun p hp => hp) ⟨rfl, rfl, trivial⟩ ?_
          show 10 * k + ds[i] = numP (ds.take (i + 1))
          rw [hk, numP, numP, List.take_add_one, List.getElem?_eq_getElem hi, List.foldl_append]
          rfl
        · rintro ⟨k, tk1⟩ m2 h2 tk2 hk F3 N3
          dsimp only at hk F3 N3 ⊢
          rw [i1.length, List.take_length] at hk
          subst hk
          walk_at "go"
          rename Fr s.heap _ _ _ => F4
          rename News s.heap _ _ _ => N4
          exact retN hno _ _ _ _ _ (frKeeps F F4.keep) (newsNew F (newsKeeps N F4.keep) (N4 _ (.head _)).1 (N4 _ (.head _)).2.2) F4.keep
end

section
/-- a list or a tuple stays; a frame may have other slots -/
def KeepsS (h h' : Heap) : Prop := ∀ b o vs n, h.get? b = some o → o.data = .seq vs n → h'.get? b = some o
theorem KeepsS.refl (h : Heap) : KeepsS h h := fun _ _ _ _ e _ => e
theorem KeepsS.trans {a b c : Heap} (x : KeepsS a b) (y : KeepsS b c) : KeepsS a c := fun p o vs n e q => y p o vs n (x p o vs n e q) q
theorem Keeps.toS {h h' : Heap} (k : Keeps h h') : KeepsS h h' := fun b o _ _ e _ => k b o e
theorem turnS {fs : List Addr} {g g' : Heap} (D : KtsDicts fs g) (T : KtsTurn fs g g') : KeepsS g g' := fun b o vs n e q =>
  T.other b o e fun m => by
    obtain ⟨o', es, n, e', d⟩ := D b m
    rw [e] at e'; cases e'
    rw [q] at d; cases d
theorem dictsPush {outer : List Env} {h₀ h : Heap} {L : Addr} {m : Str → Option Value} {cn : Str} {cs : Scope} {a : Addr} {ccd : Value} {cl : List (Str × Addr)} (D : KtsDicts (outer.filterMap (·.frame)) h₀) (F : Fr h₀ L h m) :
    KtsDicts ((envX cn cs L a ccd cl :: outer).filterMap (·.frame)) h := by
  intro b hb
  obtain ⟨env, he, hf⟩ := List.mem_filterMap.mp hb
  rcases List.mem_cons.mp he with rfl | he
  · obtain rfl := Option.some.inj hf
    obtain ⟨oL, es, n, hL, hd, _⟩ := F.ns
    exact ⟨oL, es, n, hL, hd⟩
  · obtain ⟨o, es, n, e, d⟩ := D b (List.mem_filterMap.mpr ⟨env, he, hf⟩)
    exact ⟨o, es, n, F.keep _ _ e, d⟩
/-- behind a call in which an exception was caught: what the caller has, over a ground whose frames have other slots -/
theorem turnFr {outer : List Env} {A₀ : Around} {base h₀ h g h' : Heap} {L : Addr} {m : Str → Option Value} {cn : Str} {cs : Scope} {a : Addr} {ccd : Value} {cl : List (Str × Addr)}
    (B : Below A₀ base outer h₀) (F : Fr h₀ L h m) (T : KtsTurn ((envX cn cs L a ccd cl :: outer).filterMap (·.frame)) h g) (k : Keeps g h') :
    ∃ g₀, KtsTurn (outer.filterMap (·.frame)) h₀ g₀ ∧ Fr g₀ L h' m ∧ Below A₀ base outer g₀ ∧ (∀ news, News h₀ L h news → News g₀ L h' news) ∧ (outer = [] → Fr h₀ L h' m ∧ ∀ news, News h₀ L h news → News h₀ L h' news) := by
  have hL : h₀.get? L = none := kts_self F
  have hm : ∀ b, b ∈ (envX cn cs L a ccd cl :: outer).filterMap (·.frame) → b = L ∨ b ∈ outer.filterMap (·.frame) := fun b hb => by
    obtain ⟨env, he, hf⟩ := List.mem_filterMap.mp hb
    rcases List.mem_cons.mp he with rfl | he
    · exact .inl (Option.some.inj hf).symm
    · exact .inr (List.mem_filterMap.mpr ⟨env, he, hf⟩)
  have hns : h'.Ns L m := by
    obtain ⟨oL, es, n, e, d⟩ := F.ns
    obtain ⟨sl, e'⟩ := T.up e
    exact ⟨_, es, n, k _ _ e', d⟩
  have oth : ∀ b o, h₀.get? b = some o → b ∉ outer.filterMap (·.frame) → h'.get? b = some o := fun b o e n => k _ _ (T.other b o (F.keep _ _ e) fun q => by
    rcases hm b q with rfl | q
    · rw [hL] at e; cases e
    · exact n q)
  have fr : ∀ b o, h₀.get? b = some o → b ∈ outer.filterMap (·.frame) → ∃ sl, h'.get? b = some { o with slots := sl } := fun b o e _ => by
    obtain ⟨sl, e'⟩ := T.up (F.keep _ _ e)
    exact ⟨sl, k _ _ e'⟩
  obtain ⟨T₀, S₀⟩ := kts_turn_at (h := h') (fs := outer.filterMap (·.frame)) (g := h₀) (fun b hb => by
    obtain ⟨_, o, ho, _⟩ := B.frames.mem hb
    exact ⟨o, ho⟩) oth fr
  have nw : ∀ news, News h₀ L h news → ∀ p ∈ news, h'.get? p.1 = some p.2 := fun news N p hp => k _ _ (T.other _ _ (N p hp).1 fun q => by
    rcases hm _ q with e | q
    · exact (N p hp).2.1 e
    · obtain ⟨_, o, ho, _⟩ := B.frames.mem q
      rw [(N p hp).2.2] at ho; cases ho)
  refine ⟨_, T₀, ⟨hns, S₀, by rw [T₀.size]; exact F.above⟩, ⟨B.stack, fun b o e => T₀.other b o (B.stays b o e) (fun q => by rw [(B.frames.mem q).1] at e; cases e), B.frames.of_keeps fun b o e _ => ?_⟩, fun news N p hp => ⟨nw news N p hp, (N p hp).2.1, T₀.none_ _ (N p hp).2.2⟩, fun e0 => ?_⟩
  · obtain ⟨sl, hs⟩ := T₀.up e
    exact ⟨_, hs, rfl⟩
  · subst e0
    exact ⟨⟨hns, fun b o e => oth b o e (by simp), F.above⟩, fun news N p hp => ⟨nw news N p hp, (N p hp).2⟩⟩
theorem turnEnd {outer : List Env} {A₀ : Around} {base h₀ h g h' : Heap} {L L' : Addr} {m m' : Str → Option Value} {cn : Str} {cs : Scope} {a : Addr} {ccd : Value} {cl : List (Str × Addr)} {news : List (Addr × Obj)} {P : Prop}
    (B : Below A₀ base outer h₀) (F : Fr h₀ L h m) (N : News h₀ L h news) (T : KtsTurn ((envX cn cs L a ccd cl :: outer).filterMap (·.frame)) h g) (F' : Fr g L' h' m')
    (k : ∀ g₀, KtsTurn (outer.filterMap (·.frame)) h₀ g₀ → Fr g₀ L h' m → News g₀ L h' news → Below A₀ base outer g₀ → P) : P := by
  obtain ⟨g₀, a1, a2, a3, a4, _⟩ := turnFr B F T F'.keep
  exact k g₀ a1 a2 (a4 _ N) a3
theorem turnEndL {outer : List Env} {A₀ : Around} {base h₀ h g h' : Heap} {L L' : Addr} {m m' : Str → Option Value} {cn : Str} {cs : Scope} {a : Addr} {ccd : Value} {cl : List (Str × Addr)} {news l : List (Addr × Obj)} {P : Prop}
    (B : Below A₀ base outer h₀) (F : Fr h₀ L h m) (N : News h₀ L h news) (T : KtsTurn ((envX cn cs L a ccd cl :: outer).filterMap (·.frame)) h g) (F' : Fr g L' h' m') (N' : News g L' h' l)
    (k : ∀ g₀, KtsTurn (outer.filterMap (·.frame)) h₀ g₀ → Fr g₀ L h' m → News g₀ L h' (l ++ news) → Below A₀ base outer g₀ → P) : P := by
  obtain ⟨g₀, a1, a2, a3, a4, _⟩ := turnFr B F T F'.keep
  refine k g₀ a1 a2 (fun p hp => ?_) a3
  rcases List.mem_append.mp hp with hp | hp
  · obtain ⟨n1, n2, n3⟩ := N' p hp
    have no : ∀ o, h.get? p.1 = some o → False := fun o q => by
      obtain ⟨sl, z⟩ := T.up q
      rw [n3] at z; cases z
    refine ⟨n1, fun e => ?_, a1.none_ _ ?_⟩
    · obtain ⟨oL, _, _, hL, _⟩ := F.ns
      exact no oL (e ▸ hL)
    · cases q : h₀.get? p.1 with
      | none => rfl
      | some o => exact (no o (F.keep _ _ q)).elim
  · exact a4 _ N p hp
end

section
/-- an IndexError just made, with a context -/
def ExcNew (h h' : Heap) (e : Addr) (ctx : Value) : Prop := Keeps h h' ∧ h.get? e = none ∧ ∃ ob t, h'.get? e = some ob ∧ ob.cls = .type "IndexError" ∧ ob.data = .fields #[t, .none, ctx, .none, .bool false, .none]
theorem excNew_of {h h' : Heap} {e : Addr} (x : Heap.NewExc h h' e "IndexError") : ExcNew h h' e .none := ⟨x.keeps, x.new, x.there⟩

theorem entry_unchain : entryFor table "proto.unchain" = some Builtin.«proto.unchain» := entryFor_of_tree (by kernel_rfl)

section
variable {α : Type} {prog : Program} {w : World} {A : Around} {E : Value → Shared → Prop} {s : Shared}
/-- an error is raised while another is handled, that has no context -/
theorem raiseHeld {msg : String} {Q : α → Shared → Prop} {x : Addr} {ox : Obj} {xs : Array Value} (hh : A.handled = some (.ref x)) (hx : s.heap.get? x = some ox) (hd : ox.data = .fields xs) (h2 : xs[2]? = some .none)
    (h : ∀ h' tk e, ExcNew s.heap h' e (.ref x) → E (.ref e) { s with heap := h', toks := tk }) :
    wpAny (model prog w) A (raiseErrorWords "IndexError" msg : Sem α) Q E s := by
  unfold raiseErrorWords
  refine wpAny_bind (wpAny_mkText (wpAny_bind ?_))
  unfold newExc newTuple
  refine wpAny_bind (wpAny_newObj_type ?_)
  refine wpAny_bind (m := firstArgMember _ _) (wpAny_of_eq (a := Value.none) (by simp only [firstArgMember, plainExc_IndexError.first]; rfl) ?_)
  rw [plainExc_IndexError.own]
  refine wpAny_newObj_type ?_
  unfold raiseNew
  refine wpAny_bind (wpAny_handled ?_)
  rw [hh]
  have hlt := Heap.lt_size hx
  dsimp only
  generalize ht : (s.heap.push { cls := .type "tuple", data := .seq #[Value.str (Str.ofString msg) s.toks] }) = h1
  have k1 : Keeps s.heap h1 := by rw [← ht]; exact fun b o e => Heap.get?_push_of_some _ e
  have hx1 := k1 _ _ hx
  have hne : x ≠ h1.objs.size := Nat.ne_of_lt (Heap.lt_size hx1)
  have hnew : s.heap.get? h1.objs.size = none := by
    cases q : s.heap.get? h1.objs.size with
    | none => rfl
    | some o => exact absurd (Heap.lt_size (k1 _ _ q)) (Nat.lt_irrefl _)
  rw [if_pos (by simp [hne])]
  refine wpAny_bind (wpAny_holding (wpAny_runValue (codeAny_builtin entry_unchain ?_)))
  unfold Builtin.«proto.unchain»
  dsimp only
  refine wpAny_bind (wpAny_field (Heap.get?_push_of_some _ hx1) hd h2 ?_)
  rw [if_pos (by decide)]
  refine wpAny_bind (wpAny_pure ?_)
  refine wpAny_pure ?_
  dsimp only
  refine wpAny_bind ?_
  show wpAny _ _ (setField (.ref h1.objs.size) 2 (.ref x)) _ _ _
  refine wpAny_setField (Heap.get?_push_size h1 rfl) rfl (by simp) ?_
  refine wpAny_throw ?_
  have hd3 := Obj.data_mapFields (o := { cls := .type "IndexError", data := .fields #[Value.ref s.heap.objs.size, .none, .none, .none, .bool false, .none] }) rfl (·.setIfInBounds 2 (Value.ref x))
  refine h _ _ _ ⟨fun b o e => ?_, hnew, _, .ref s.heap.objs.size, Heap.get?_update_self _ (Heap.get?_push_size h1 rfl) (Obj.isFreed_of_fields hd3), rfl, hd3⟩
  rw [Heap.get?_update_other _ _ (fun q => by rw [← q, hnew] at e; cases e)]
  exact Heap.get?_push_of_some _ (k1 _ _ e)
theorem itemOut {value slice : PySem.Expr} {l : Addr} {items : Array Value} {k : Int} {i : Nat} {t : Tok} {Q : Value → Shared → Prop} (hA : A.handled = none) (hl : s.heap.IsList l items) (hk : k = (i : Int)) (hi : items.size ≤ i) (hz : i < 10000)
    (hE : ∀ h' tk e, ExcNew s.heap h' e .none → E (.ref e) { s with heap := h', toks := tk })
    (hs : subscripted slice false (.ref l) (.int k t) = operate [.ref l, .int k t] (getItem (.ref l) (.int k t)) := by with_unfolding_all rfl) (hg : ∀ r, letTemporaryGo value (.ref l) r = pure () := by intro _; with_unfolding_all rfl) :
    wpAny (model prog w) A (subscriptTail value slice (.ref l) (.int k t)) Q E s := by
  subst hk
  exact subscriptTail_builtin hl.typeIs slot_list_getitem.lookup (wpAny_getItem_list_out hA hl (.inr (by omega)) (by omega) (by omega) fun h' tk e x => hE h' tk e (excNew_of x)) hs hg
theorem itemOutH {value slice : PySem.Expr} {l : Addr} {items : Array Value} {k : Int} {i : Nat} {t : Tok} {Q : Value → Shared → Prop} {x : Addr} {ox : Obj} {xs : Array Value} (hh : A.handled = some (.ref x)) (hx : s.heap.get? x = some ox) (hdx : ox.data = .fields xs) (h2 : xs[2]? = some .none)
    (hl : s.heap.IsList l items) (hk : k = (i : Int)) (hi : items.size ≤ i) (hz : i < 10000)
    (hE : ∀ h' tk e, ExcNew s.heap h' e (.ref x) → E (.ref e) { s with heap := h', toks := tk })
    (hs : subscripted slice false (.ref l) (.int k t) = operate [.ref l, .int k t] (getItem (.ref l) (.int k t)) := by with_unfolding_all rfl) (hg : ∀ r, letTemporaryGo value (.ref l) r = pure () := by intro _; with_unfolding_all rfl) :
    wpAny (model prog w) A (subscriptTail value slice (.ref l) (.int k t)) Q E s := by
  refine subscriptTail_builtin hl.typeIs slot_list_getitem.lookup ?_ hs hg
  obtain ⟨o, ho, hc, ne, hd⟩ := id hl
  unfold getItem
  try with_reducible refine wpAny_holding ?_
  first | refine wpAny_bind (wpAny_pure ?_) | skip
  refine wpAny_bind (wpAny_sequenceKey hl.typeIs (by decide) ?_)
  refine wpAny_bind (wpAny_callSpecial?_slot (name := Str.ofString "__getitem__") hl.typeIs slot_list_getitem
    (wpAny_call_entry slot_list_getitem hl.typeIs entry_list_getitem ?_ (args_list_getitem _ _)))
  show wpAny _ _ (Builtin.List.listSubscript? (.int k t) >>= _) _ _ s
  refine wpAny_bind (wpAny_listSubscript_int (fitsIndex_both (by omega) (by omega)) ?_)
  subst hk
  show wpAny _ _ ((seqItemAt l i >>= fun r => pure (r.map (i, ·))) >>= _) _ _ s
  refine wpAny_bind (wpAny_bind (wpAny_seqItemAt ho hd (wpAny_pure ?_)))
  rw [Array.getElem?_eq_none hi]
  first
    | exact wpAny_bind (wpAny_rule (raiseHeld hh hx hdx h2 hE))
    | exact wpAny_bind (wpAny_rule (wpAny_bind (raiseHeld hh hx hdx h2 hE)))
    | exact wpAny_bind (wpAny_bind (wpAny_rule (raiseHeld hh hx hdx h2 hE)))
    | exact wpAny_rule (raiseHeld hh hx hdx h2 hE)
end
section
variable {M : Model} {A₀ : Around} {E : Value → Shared → Prop} {s' : Shared} {base g h : Heap} {outer : List Env} {L a e : Addr} {m : Str → Option Value} {name : Str} {scope : Scope} {cd : Value} {Q : Unit → Shared → Prop} {news : List (Addr × Obj)}

/-- an exception made in this frame is noted in it: the frames' slots turn -/
theorem noteOwn (K : Below A₀ base outer g) (F : Fr g L h m) (N : News g L h news) {ctx : Value} (hx : ExcNew h s'.heap e ctx) (hk : scope.kind = .function)
    (k : ∀ h' g' oe T oT t ts, KtsTurn (outer.filterMap (·.frame)) g g' → Fr g' L h' m → Below A₀ base outer g' → oe.cls = .type "IndexError" → oe.data = .fields #[t, .ref T, ctx, .none, .bool false, .none] →
      oT.data = .fields ts → ts[3]? = some (rawInt L) → News g' L h' ((e, oe) :: (T, oT) :: news) → e ≠ T → (∀ p ∈ news, p.1 ≠ e ∧ p.1 ≠ T) → Q () { s' with heap := h' }) :
    wpAny M (A₀.deeper (envOf name scope L a cd)) (noteFrame (.ref e) (envOf name scope L a cd)) Q E s' := by
  obtain ⟨kp, hn, ob, t, he, hc, hd⟩ := hx
  have K' := K.push (name := name) (a := a) (cd := cd) F hk
  have hl : s'.heap.FunFrames base (envOf name scope L a cd :: outer) := K'.frames.of_keeps fun b o q _ => ⟨o, kp b o q, rfl⟩
  have gL := kts_self F
  have hen : e ∉ (envOf name scope L a cd :: outer).filterMap (·.frame) := fun hm => by
    obtain ⟨_, o, ho, _⟩ := K'.frames.mem hm
    rw [hn] at ho; cases ho
  unfold noteFrame
  simp only [show (envOf name scope L a cd).frame = some L from rfl]
  refine wpAny_bind (wpAny_field he hd (x := .none) rfl ?_)
  rw [if_neg (by decide)]
  refine wpAny_bind (wpAny_frameOf_fun K'.stack hl rfl fun h₁ hs₁ => ?_)
  refine wpAny_bind (wpAny_entryPlaceOf fun pl hpl => ?_)
  unfold EntryCells.newEntry newFields
  refine wpAny_bind (wpAny_newObj_type ?_ (hpl.sizeOk5 _ _ _ _ _))
  have he₁ : h₁.get? e = some ob := (hs₁.2.1 e hen).trans he
  generalize hoT : ({ cls := .type "traceback", dict := none, data := .fields ([Value.none, .ref L, .none, rawInt L, .none] ++ (if pl.isEmpty then List.replicate 6 Value.none else pl)).toArray } : Obj) = oT
  have hdT : ∃ ts, oT.data = .fields ts ∧ ts[3]? = some (rawInt L) ∧ oT.isFreed = false := by
    subst hoT
    exact ⟨_, rfl, by rcases hpl with rfl | ⟨_, _, _, _, _, _, _, rfl⟩ <;> simp, rfl⟩
  obtain ⟨ts, hdT, h3, hfT⟩ := hdT
  have he₂ := Heap.get?_push_of_some (h := h₁) oT he₁
  have hTe : h₁.objs.size ≠ e := Nat.ne_of_gt (Heap.lt_size he₁)
  have hd₃ := Obj.data_mapFields hd (·.setIfInBounds 1 (Value.ref h₁.objs.size))
  refine wpAny_setField he₂ hd (by simp) ?_
  generalize hh' : (h₁.push oT).update e (Obj.mapFields (·.setIfInBounds 1 (Value.ref h₁.objs.size))) = h'
  have he₃ : h'.get? e = some (ob.mapFields (·.setIfInBounds 1 (Value.ref h₁.objs.size))) := by rw [← hh']; exact Heap.get?_update_self _ he₂ (Obj.isFreed_of_fields hd₃)
  have hT₃ : h'.get? h₁.objs.size = some oT := by rw [← hh', Heap.get?_update_other _ _ (Ne.symm hTe)]; exact Heap.get?_push_size h₁ hfT
  have up : ∀ b o, h₁.get? b = some o → b ≠ e → h'.get? b = some o := fun b o q n => by
    rw [← hh', Heap.get?_update_other _ _ (Ne.symm n)]; exact Heap.get?_push_of_some _ q
  have ne : ∀ b o, h.get? b = some o → b ≠ e := fun b o q z => by rw [z, hn] at q; cases q
  have oth : ∀ b o, h.get? b = some o → b ∉ (envOf name scope L a cd :: outer).filterMap (·.frame) → h'.get? b = some o := fun b o q nm => up b o ((hs₁.2.1 b nm).trans (kp b o q)) (ne b o q)
  have any : ∀ b o, h.get? b = some o → ∃ sl, h'.get? b = some { o with slots := sl } := fun b o q => by
    obtain ⟨sl, z⟩ := hs₁.2.2 b o (kp b o q)
    exact ⟨sl, up b _ z (ne b o q)⟩
  obtain ⟨T₀, S₀⟩ := kts_turn_at (h := h') (fs := outer.filterMap (·.frame)) (g := g) (fun b hb => by
    obtain ⟨_, o, ho, _⟩ := K.frames.mem hb
    exact ⟨o, ho⟩) (fun b o q nm => oth b o (F.keep _ _ q) fun hm => by
      rcases kts_mem hm with z | z
      · rw [z, gL] at q; cases q
      · exact nm z) (fun b o q _ => any b o (F.keep _ _ q))
  have hT0 : (ktsHeap h' (outer.filterMap (·.frame)) g).get? h₁.objs.size = none := by
    refine Heap.get?_none_of_le ?_
    rw [T₀.size, hs₁.1]
    obtain ⟨oL, _, _, hL, _⟩ := F.ns
    exact Nat.le_trans F.above (Nat.le_of_lt (Heap.lt_size (kp _ _ hL)))
  obtain ⟨oL, es, ep, hL, hLd, hLr⟩ := F.ns
  obtain ⟨sl, hL'⟩ := any _ _ hL
  have hTL : h₁.objs.size ≠ L := by rw [hs₁.1]; exact Nat.ne_of_gt (Heap.lt_size (kp _ _ hL))
  refine k h' _ _ h₁.objs.size oT t ts T₀ ⟨⟨_, es, ep, hL', hLd, hLr⟩, S₀, by rw [T₀.size]; exact F.above⟩ ⟨K.stack, fun b o q => T₀.other b o (K.stays b o q) (fun z => by rw [(K.frames.mem z).1] at q; cases q), K.frames.of_keeps fun b o q _ => ?_⟩ ?_ hd₃ hdT h3 ?_ (Ne.symm hTe) ?_
  · obtain ⟨sl, z⟩ := T₀.up q
    exact ⟨_, z, rfl⟩
  · exact (Obj.cls_mapFields _ _).trans hc
  · intro p hp
    rcases List.mem_cons.mp hp with rfl | hp
    · exact ⟨he₃, fun z => (ne _ _ hL) z.symm, T₀.none_ _ (kts_none F.keep hn)⟩
    · rcases List.mem_cons.mp hp with rfl | hp
      · exact ⟨hT₃, hTL, hT0⟩
      · obtain ⟨n1, n2, n3⟩ := N p hp
        refine ⟨oth _ _ n1 fun hm => ?_, n2, T₀.none_ _ n3⟩
        rcases kts_mem hm with z | z
        · exact n2 z
        · obtain ⟨_, o, ho, _⟩ := K.frames.mem z
          rw [n3] at ho; cases ho
  · intro p hp
    refine ⟨ne _ _ (N p hp).1, ?_⟩
    rw [hs₁.1]
    exact Nat.ne_of_lt (Heap.lt_size (kp _ _ (N p hp).1))
end
end

section
/-- an exception that this frame holds -/
structure Hot (g : Heap) (L : Addr) (h : Heap) (m : Str → Option Value) (e : Addr) (oe : Obj) (T : Addr) (oT : Obj) (ctx fl : Value) (news : List (Addr × Obj)) : Prop where
  F : Fr g L h m
  N : News g L h ((e, oe) :: (T, oT) :: news)
  cls : oe.cls = .type "IndexError"
  data : ∃ t, oe.data = .fields #[t, .ref T, ctx, .none, .bool false, .none]
  tb : ∃ ts, oT.data = .fields ts ∧ ts[3]? = some fl
  ne : e ≠ T
  sep : ∀ p ∈ news, p.1 ≠ e ∧ p.1 ≠ T

section
variable {M : Model} {A : Around} {E : Value → Shared → Prop} {s : Shared} {g : Heap} {L e T : Addr} {oe oT : Obj} {m : Str → Option Value} {ctx fl : Value} {news : List (Addr × Obj)} {env : Env}
theorem Hot.flight {Q : Unit → Shared → Prop} (H : Hot g L s.heap m e oe T oT ctx fl news) (f : Option Addr)
    (k : ∀ h' oT', Hot g L h' m e oe T oT' ctx (f.elim .none fun x => rawInt x) news → Q () { s with heap := h' }) : wpAny M A (setFlight (.ref e) f) Q E s := by
  obtain ⟨t, hd⟩ := H.data
  obtain ⟨ts, hT, h3⟩ := H.tb
  have he := (H.N _ (.head _)).1
  have hTt := (H.N _ (.tail _ (.head _))).1
  have hsz : 3 < ts.size := (Array.getElem?_eq_some_iff.mp h3).1
  unfold setFlight
  refine wpAny_bind (wpAny_field he hd (x := .ref T) rfl ?_)
  rw [if_pos (show (Value.ref T != Value.none) = true from by simp)]
  refine wpAny_setField hTt hT hsz ?_
  have hd' := Obj.data_mapFields hT (·.setIfInBounds 3 (f.elim Value.none fun x => rawInt x))
  refine k _ (oT.mapFields (·.setIfInBounds 3 (f.elim Value.none fun x => rawInt x))) ⟨⟨?_, fun b o q => ?_, H.F.above⟩, fun p hp => ?_, H.cls, H.data, ⟨_, hd', by simp [hsz]⟩, H.ne, H.sep⟩
  · obtain ⟨oL, es, ep, hL, r⟩ := H.F.ns
    exact ⟨oL, es, ep, (Heap.get?_update_other _ _ (H.N _ (.tail _ (.head _))).2.1).trans hL, r⟩
  · rw [Heap.get?_update_other _ _ fun z => by
      have := (H.N _ (.tail _ (.head _))).2.2
      rw [z, q] at this; cases this]
    exact H.F.keep _ _ q
  · rcases List.mem_cons.mp hp with rfl | hp
    · exact ⟨(Heap.get?_update_other _ _ (Ne.symm H.ne)).trans he, (H.N _ (.head _)).2⟩
    · rcases List.mem_cons.mp hp with rfl | hp
      · exact ⟨Heap.get?_update_self _ hTt (Obj.isFreed_of_fields hd'), (H.N _ (.tail _ (.head _))).2⟩
      · have n := H.N p (.tail _ (.tail _ hp))
        exact ⟨(Heap.get?_update_other _ _ (Ne.symm (H.sep p hp).2)).trans n.1, n.2⟩
theorem Hot.again {Q : Unit → Shared → Prop} (H : Hot g L s.heap m e oe T oT ctx (rawInt L) news) (hf : env.frame = some L) (k : Q () s) : wpAny M A (noteFrame (.ref e) env) Q E s := by
  obtain ⟨t, hd⟩ := H.data
  obtain ⟨ts, hT, h3⟩ := H.tb
  exact wpAny_noteFrame_inFlight hf (H.N _ (.head _)).1 hd (vs := #[t, .ref T, ctx, .none, .bool false, .none]) rfl (H.N _ (.tail _ (.head _))).1 hT h3 k
theorem Hot.pass {α : Type} {Q : α → Shared → Prop} {what : String} (H : Hot g L s.heap m e oe T oT ctx fl news) (hf : env.frame = some L)
    (k : ∀ h' oT', Hot g L h' m e oe T oT' ctx (rawInt L) news → E (.ref e) { s with heap := h' }) : wpAny M A (PySem.passOn what (.ref e) env : Sem α) Q E s := by
  obtain ⟨t, hd⟩ := H.data
  unfold PySem.passOn
  refine wpAny_bind (wpAny_field (H.N _ (.head _)).1 hd (x := .ref T) rfl ?_)
  rw [if_neg (show ¬ ((Value.ref T == Value.none) = true) from by simp), hf]
  first
    | exact wpAny_bind (wpAny_pure (wpAny_bind (H.flight (some L) fun h' oT' H' => wpAny_throw (k h' oT' H'))))
    | exact wpAny_bind (H.flight (some L) fun h' oT' H' => wpAny_throw (k h' oT' H'))
theorem Hot.led {h : Heap} (H : Hot g L h m e oe T oT ctx fl news) : News g L h news := fun p hp => H.N p (.tail _ (.tail _ hp))
end

section
variable {w : World} {A₀ : Around} {E : Value → Shared → Prop} {s' : Shared} {base g h : Heap} {outer : List Env} {L a e T : Addr} {oe oT : Obj} {m : Str → Option Value} {name : Str} {scope : Scope} {cd : Value} {news : List (Addr × Obj)} {ctx fl : Value}
  {mean : ExcName → Option Value} {mg mb : Str → Option Value} {Q : Flow → Shared → Prop} {b₀ : Stmt} {suite : List Stmt} {np pos : Pos} {rest : List ExceptHandler}
theorem noteHot {M : Model} {Q : Unit → Shared → Prop} (K : Below A₀ base outer g) (F : Fr g L h m) (N : News g L h news) (hx : ExcNew h s'.heap e ctx) (hk : scope.kind = .function)
    (k : ∀ h' g' oe T oT, KtsTurn (outer.filterMap (·.frame)) g g' → Below A₀ base outer g' → Hot g' L h' m e oe T oT ctx (rawInt L) news → Q () { s' with heap := h' }) :
    wpAny M (A₀.deeper (envOf name scope L a cd)) (noteFrame (.ref e) (envOf name scope L a cd)) Q E s' :=
  noteOwn K F N hx hk fun h' g' oe T oT t ts x1 x2 x3 x4 x5 x6 x7 x8 x9 x10 => k h' g' oe T oT x1 x3 ⟨x2, x8, x4, ⟨t, x5⟩, ⟨ts, x6, x7⟩, x9, x10⟩
theorem Hot.handle (H : Hot g L s'.heap m e oe T oT ctx fl news) (X : (KH w.params).In g) (P : Top VV (looseW VV []) mean mg mb g)
    (ex : nsIn (KH w.params) mainGlobals "IndexError" = some none) (hk : scope.kind = .function) (hx : (envOf name scope L a cd).kindOf "IndexError" = some .globalImplicit)
    (k : ∀ h', Fr g L h' m → News g L h' news → wpAny (model PP w) ((A₀.deeper (envOf name scope L a cd)).mark (some (.ref e))) (execs (b₀ :: suite) (envOf name scope L a cd)) Q E { s' with heap := h' })
    (hE : PassesOwnAt (model PP w) ((A₀.deeper (envOf name scope L a cd)).mark (some (.ref e))) (A₀.deeper (envOf name scope L a cd)) (envOf name scope L a cd) E) :
    wpAny (model PP w) (A₀.deeper (envOf name scope L a cd)) (handleBy (.ref e) (envOf name scope L a cd) (.ExceptHandler (some (.Name "IndexError" np)) none (b₀ :: suite) pos :: rest)) Q E s' := by
  refine wpAny_handleBy_builtin (X := "IndexError") (T := "IndexError") (b := true) PySem.F.isExc_IndexError PySem.F.notTuple_IndexError PySem.F.self_IndexError (name_B H.F X (topRead_of P) ex PyProof.Rows.Boot.«IndexError» (by decide) ⟨rfl, ⟨oe, (H.N _ (.head _)).1, H.cls⟩, ?_⟩ hk hx (by decide))
  rw [if_pos rfl]
  exact H.flight none fun h' oT' H' => wpAny_passesOwnAt hE (k h' H'.F H'.led)
/-- what a try of this frame makes of an IndexError just made in it -/
theorem caughtNew (K : Below A₀ base outer g) (XB : (KH w.params).In base) (TB : Top VV (looseW VV []) mean mg mb base) (F : Fr g L h m) (N : News g L h news) (hx : ExcNew h s'.heap e ctx)
    (ex : nsIn (KH w.params) mainGlobals "IndexError" = some none) (hk : scope.kind = .function) (hxk : (envOf name scope L a cd).kindOf "IndexError" = some .globalImplicit)
    (k : ∀ h' g', KtsTurn (outer.filterMap (·.frame)) g g' → Below A₀ base outer g' → Fr g' L h' m → News g' L h' news → wpAny (model PP w) ((A₀.deeper (envOf name scope L a cd)).mark (some (.ref e))) (execs (b₀ :: suite) (envOf name scope L a cd)) Q E { s' with heap := h' })
    (hE : PassesOwnAt (model PP w) ((A₀.deeper (envOf name scope L a cd)).mark (some (.ref e))) (A₀.deeper (envOf name scope L a cd)) (envOf name scope L a cd) E) :
    wpAny (model PP w) (A₀.deeper (envOf name scope L a cd)) (noteFrame (.ref e) (envOf name scope L a cd))
      (fun _ s₂ => wpAny (model PP w) (A₀.deeper (envOf name scope L a cd)) (setFlight (.ref e) none) (fun _ s₃ =>
        wpAny (model PP w) (A₀.deeper (envOf name scope L a cd)) (handleBy (.ref e) (envOf name scope L a cd) (.ExceptHandler (some (.Name "IndexError" np)) none (b₀ :: suite) pos :: rest)) Q E s₃) E s₂) E s' :=
  noteHot K F N hx hk fun h' g' oe T oT t b H => H.flight none fun h₂ oT' H' => H'.handle (XB.keeps b.stays) (TB.keeps b.stays) ex hk hxk (fun h₃ f n => k h₃ g' t b f n) hE
theorem caughtHeld (K : Below A₀ base outer g) (XB : (KH w.params).In base) (TB : Top VV (looseW VV []) mean mg mb base) (H : Hot g L s'.heap m e oe T oT ctx (rawInt L) news)
    (ex : nsIn (KH w.params) mainGlobals "IndexError" = some none) (hk : scope.kind = .function) (hxk : (envOf name scope L a cd).kindOf "IndexError" = some .globalImplicit)
    (k : ∀ h', Fr g L h' m → News g L h' news → wpAny (model PP w) ((A₀.deeper (envOf name scope L a cd)).mark (some (.ref e))) (execs (b₀ :: suite) (envOf name scope L a cd)) Q E { s' with heap := h' })
    (hE : PassesOwnAt (model PP w) ((A₀.deeper (envOf name scope L a cd)).mark (some (.ref e))) (A₀.deeper (envOf name scope L a cd)) (envOf name scope L a cd) E) :
    wpAny (model PP w) (A₀.deeper (envOf name scope L a cd)) (noteFrame (.ref e) (envOf name scope L a cd))
      (fun _ s₂ => wpAny (model PP w) (A₀.deeper (envOf name scope L a cd)) (setFlight (.ref e) none) (fun _ s₃ =>
        wpAny (model PP w) (A₀.deeper (envOf name scope L a cd)) (handleBy (.ref e) (envOf name scope L a cd) (.ExceptHandler (some (.Name "IndexError" np)) none (b₀ :: suite) pos :: rest)) Q E s₃) E s₂) E s' :=
  H.again rfl (H.flight none fun h₂ oT' H' => H'.handle (XB.keeps K.stays) (TB.keeps K.stays) ex hk hxk k hE)
/-- what a finally of this frame makes of an IndexError just made in it -/
theorem finalNew {M : Model} {Q' : Shared → Prop} {E₂ E₃ : Value → Shared → Prop} (K : Below A₀ base outer g) (F : Fr g L h m) (N : News g L h news) (hx : ExcNew h s'.heap e ctx) (hk : scope.kind = .function)
    (k : ∀ h' g' oe T oT, KtsTurn (outer.filterMap (·.frame)) g g' → Below A₀ base outer g' → Hot g' L h' m e oe T oT ctx .none news → Q' { s' with heap := h' }) :
    wpAny M (A₀.deeper (envOf name scope L a cd)) (noteFrame (.ref e) (envOf name scope L a cd))
      (fun _ s₂ => Value.ref e ≠ byPass ∧ wpAny M (A₀.deeper (envOf name scope L a cd)) (noteFrame (.ref e) (envOf name scope L a cd)) (fun _ s₀ => wpAny M (A₀.deeper (envOf name scope L a cd)) (setFlight (.ref e) none) (fun _ s₁ => Q' s₁) E₃ s₀) E s₂) E₂ s' :=
  noteHot K F N hx hk fun h' g' oe T oT t b H => ⟨ref_ne_byPass e, H.again rfl (H.flight none fun h₂ oT' H' => k h₂ g' oe T oT' t b H')⟩
end
end

section
/-- what takes an IndexError raised in this frame at a place where P holds -/
structure Takes {σ : Type} (w : World) (A₀ : Around) (base : Heap) (outer : List Env) (g : Heap) (L : Addr) (env : Env) (Led : σ → List (Addr × Obj)) (ps : σ → List (Str × Value)) (P : σ → Prop) (s : Shared) (TE : Value → Shared → Prop) : Prop where
  new : ∀ c g' h m news e ctx h' tk', KtsTurn (outer.filterMap (·.frame)) g g' → Below A₀ base outer g' → Fr g' L h m → News g' L h news → (∀ p ∈ Led c, p ∈ news) → Ok (ps c) m → P c → ExcNew h h' e ctx → TE (.ref e) { s with heap := h', toks := tk' }
  held : ∀ c g' h m news e oe T oT ctx tk', KtsTurn (outer.filterMap (·.frame)) g g' → Below A₀ base outer g' → Hot g' L h m e oe T oT ctx (rawInt L) news → (∀ p ∈ Led c, p ∈ news) → Ok (ps c) m → P c → TE (.ref e) { s with heap := h, toks := tk' }
  own : PassesOwn (model PP w) (A₀.deeper env) env TE
  ownM : ∀ x, PassesOwn (model PP w) ((A₀.deeper env).mark x) env TE
  at_ : ∀ x, PassesOwnAt (model PP w) ((A₀.deeper env).mark x) (A₀.deeper env) env TE

theorem tryIdx {σ : Type} {w : World} {A₀ : Around} {s : Shared} {base g : Heap} {outer : List Env} {L a : Addr} {name : Str} {scope : Scope} {cd : Value}
    {mean : ExcName → Option Value} {mg mb : Str → Option Value} {Q : Flow → Shared → Prop} {b₀ : Stmt} {body suite : List Stmt} {np hp pos : Pos} (Led : σ → List (Addr × Obj)) (ps : σ → List (Str × Value)) (P : σ → Prop)
    (K : Below A₀ base outer g) (XB : (KH w.params).In base) (TB : Top VV (looseW VV []) mean mg mb base)
    (ex : nsIn (KH w.params) mainGlobals "IndexError" = some none) (hk : scope.kind = .function) (hxk : (envOf name scope L a cd).kindOf "IndexError" = some .globalImplicit)
    (hand : ∀ e c g' h' tk m, KtsTurn (outer.filterMap (·.frame)) g g' → Below A₀ base outer g' → Fr g' L h' (ov (ps c) m) → News g' L h' (Led c) → P c →
      wpAny (model PP w) ((A₀.deeper (envOf name scope L a cd)).mark (some (.ref e))) (execs (b₀ :: suite) (envOf name scope L a cd)) Q (fun _ _ => False) { s with heap := h', toks := tk })
    (hbody : ∀ TE, Takes w A₀ base outer g L (envOf name scope L a cd) Led ps P s TE → wpAny (model PP w) (A₀.deeper (envOf name scope L a cd)) (execs body (envOf name scope L a cd)) Q TE s) :
    wpAny (model PP w) (A₀.deeper (envOf name scope L a cd)) (exec (.Try body [.ExceptHandler (some (.Name "IndexError" np)) none (b₀ :: suite) hp] [] [] pos) (envOf name scope L a cd)) Q (fun _ _ => False) s := by
  refine wpAny_Try_except (wpAny_mono (hbody (fun e s₁ => wpAny (model PP w) (A₀.deeper (envOf name scope L a cd)) (noteFrame e (envOf name scope L a cd)) (fun _ s₂ => wpAny (model PP w) (A₀.deeper (envOf name scope L a cd)) (setFlight e none) (fun _ s₃ => wpAny (model PP w) (A₀.deeper (envOf name scope L a cd)) (handleBy e (envOf name scope L a cd) [.ExceptHandler (some (.Name "IndexError" np)) none (b₀ :: suite) hp]) Q (fun _ _ => False) s₃) (fun _ _ => False) s₂) (fun _ _ => False) s₁) ⟨?_, ?_, ?_, ?_, ?_⟩) (fun f s₁ h => ?_) fun e s₁ h => h)
  · intro c g' h m news e ctx h' tk' T B F N hl ho hP hx
    refine caughtNew (s' := { s with heap := h', toks := tk' }) B XB TB F (fun p hp => N p (hl p hp)) hx ex hk hxk (fun h₂ g₂ T₂ B₂ F₂ N₂ => ?_) (fun _ _ x => x.elim)
    exact hand e c g₂ h₂ tk' m (T.trans T₂) B₂ (by rw [ov_eq ho]; exact F₂) N₂ hP
  · intro c g' h m news e oe T oT ctx tk' Tn B H hl ho hP
    refine caughtHeld (s' := { s with heap := h, toks := tk' }) B XB TB H ex hk hxk (fun h₂ F₂ N₂ => ?_) (fun _ _ x => x.elim)
    exact hand e c g' h₂ tk' m Tn B (by rw [ov_eq ho]; exact F₂) (fun p hp => N₂ p (hl p hp)) hP
  · passes_own
  · intro x e s' h
    exact wpAny_look_again (SameStack.mark _ _) h
  · intro x
    passes_own
  · cases f <;> first | exact wpAny_execs_nil h | exact h
end

section
section
variable {prog : Program} {w : World} {A : Around} {E : Value → Shared → Prop} {s : Shared} {h₀ : Heap} {L D : Addr} {m : Str → Option Value} {news : List (Addr × Obj)} {vs : List Value} {e : Nat} {Q : Value → Shared → Prop} {value slice : PySem.Expr} {l : Addr}

theorem lfrom {j : Int} {k : Nat} {uj : Tok} (F : Fr h₀ L s.heap m) (N : News h₀ L s.heap news) (hl : s.heap.IsList l vs.toArray) (hj : j = (k : Int)) (hz : vs.length < 2 ^ 20)
    (h : ∀ D h', Fr h₀ L h' m → News h₀ L h' ((D, listOf (vs.drop k).toArray 0) :: news) → (∀ p ∈ news, p.1 < D) → Q (.ref D) { s with heap := h' })
    (hs : subscripted slice false (.ref l) (.ref s.heap.objs.size) = operate [.ref s.heap.objs.size, .ref l] (getItem (.ref l) (.ref s.heap.objs.size)) := by with_unfolding_all rfl) (ht : ∀ r, letTemporaryGo value (.ref l) r = pure () := by intro _; with_unfolding_all rfl) :
    wpAny (model prog w) A (subscriptTail value slice (.ref l) (.ref s.heap.objs.size)) Q E { s with heap := s.heap.push { cls := .type "slice", data := .fields #[.int j uj, .none, .none] } } := by
  have e1 : sizeLine = 16777216 := rfl
  subst hj
  refine kms_slice_lit F N hl (.int _ _) .none ?_ h hs ht (by rw [List.size_toArray]; omega)
  simp only [kms_pick, kms_lo, kms_hi, show ¬ ((k : Int) < 0) by omega, if_false, Int.toNat_natCast]
  by_cases q : k ≤ vs.length
  · rw [Nat.min_eq_left q, List.take_of_length_le (by simp)]
  · rw [Nat.min_eq_right (by omega), List.drop_eq_nil_of_le (by omega : vs.length ≤ k)]; simp
theorem lto {j : Int} {k : Nat} {uj : Tok} (F : Fr h₀ L s.heap m) (N : News h₀ L s.heap news) (hl : s.heap.IsList l vs.toArray) (hj : j = (k : Int)) (hz : vs.length < 2 ^ 20)
    (h : ∀ D h', Fr h₀ L h' m → News h₀ L h' ((D, listOf (vs.take k).toArray 0) :: news) → (∀ p ∈ news, p.1 < D) → Q (.ref D) { s with heap := h' })
    (hs : subscripted slice false (.ref l) (.ref s.heap.objs.size) = operate [.ref s.heap.objs.size, .ref l] (getItem (.ref l) (.ref s.heap.objs.size)) := by with_unfolding_all rfl) (ht : ∀ r, letTemporaryGo value (.ref l) r = pure () := by intro _; with_unfolding_all rfl) :
    wpAny (model prog w) A (subscriptTail value slice (.ref l) (.ref s.heap.objs.size)) Q E { s with heap := s.heap.push { cls := .type "slice", data := .fields #[.none, .int j uj, .none] } } := by
  have e1 : sizeLine = 16777216 := rfl
  subst hj
  refine kms_slice_lit F N hl .none (.int _ _) ?_ h hs ht (by rw [List.size_toArray]; omega)
  simp only [kms_pick, kms_lo, kms_hi, show ¬ ((k : Int) < 0) by omega, if_false, Int.toNat_natCast, List.drop_zero, Nat.sub_zero]
  by_cases q : k ≤ vs.length
  · rw [Nat.min_eq_left q]
  · rw [Nat.min_eq_right (by omega), List.take_of_length_le (by omega), List.take_of_length_le (by omega)]
theorem extendAny {b : Addr} {ws : List Value} {e2 : Nat} {news' : Nat → List (Addr × Obj)} (F : Fr h₀ L s.heap m) (N : News h₀ L s.heap news) (hb : (b, listOf ws.toArray e2) ∈ news) (U : ∀ e', Upd D (listOf vs.toArray e) (listOf (vs ++ ws).toArray e') news (news' e')) (hz : vs.length + ws.length < 2 ^ 20)
    (h : ∀ e' h', Fr h₀ L h' m → News h₀ L h' (news' e') → Q .none { s with heap := h' }) : wpAny (model prog w) A (call (.builtin "list.extend") [.ref D, .ref b]) Q E s := by
  have e1 : sizeLine = 16777216 := rfl
  by_cases hw : ws = []
  · subst hw
    have U' := U e
    rw [List.append_nil] at U'
    refine kxn_extend F N hb rfl U' ?_ ?_ ?_ (h e)
    · simp [Builtin.List.listTooLong]
      intro _
      simp at hz; omega
    · simp only [List.toList_toArray]; omega
    · simp only [List.size_toArray]; omega
  · exact extendN F N hb hw (U _) hz (h _)
end
theorem strsAre_drop : ∀ {vs : List Value} {ys : List Str}, StrsAre vs ys → ∀ k, StrsAre (vs.drop k) (ys.drop k)
  | _, _, h, 0 => h
  | _, _, .nil, _ + 1 => .nil
  | _, _, .cons _ _ h, k + 1 => strsAre_drop h k
theorem strsAre_append : ∀ {vs us : List Value} {ys zs : List Str}, StrsAre vs ys → StrsAre us zs → StrsAre (vs ++ us) (ys ++ zs)
  | _, _, _, _, .nil, g => g
  | _, _, _, _, .cons _ _ h, g => .cons _ _ (strsAre_append h g)
section
variable {prog : Program} {w : World} {A : Around} {E : Value → Shared → Prop} {s : Shared} {Q : Value → Shared → Prop} {value slice : PySem.Expr} {l : Addr} {vs : List Value}
theorem itemLast {x : Value} {k : Int} {t : Tok} (hl : s.heap.IsList l (vs ++ [x]).toArray) (hk : k = -1) (hz : vs.length < 2 ^ 20) (h : Q x s)
    (hs : subscripted slice false (.ref l) (.int k t) = operate [.ref l, .int k t] (getItem (.ref l) (.int k t)) := by with_unfolding_all rfl) (hg : ∀ r, letTemporaryGo value (.ref l) r = pure () := by intro _; with_unfolding_all rfl) :
    wpAny (model prog w) A (subscriptTail value slice (.ref l) (.int k t)) Q E s := by
  refine subscriptTail_builtin hl.typeIs slot_list_getitem.lookup (wpAny_getItem_list_neg hl (by omega) ?_ (by omega) ?_ h) hs hg
  · simp only [List.size_toArray, List.length_append, List.length_cons, List.length_nil]; omega
  · subst hk
    have : ((-1 : Int) + ((vs ++ [x]).toArray.size : Int)).toNat = vs.length := by simp only [List.size_toArray, List.length_append, List.length_cons, List.length_nil]; omega
    rw [this]
    simp
end
end

section
/-- what parse229 makes of a text: none: another code; some none: not in order; some (some n): the port n -/
inductive Rd (l : List Nat) : Option (Option Int) → Prop
  | reply : l.take 3 ≠ [50, 50, 57] → Rd l none
  | noleft : l.take 3 = [50, 50, 57] → posS l 40 0 = [] → Rd l (some none)
  | noright {a : Nat} {r : List Nat} : l.take 3 = [50, 50, 57] → posS l 40 0 = a :: r → posS l 41 (a + 1) = [] → Rd l (some none)
  | differ {a b x y : Nat} {r q : List Nat} : l.take 3 = [50, 50, 57] → posS l 40 0 = a :: r → posS l 41 (a + 1) = b :: q → 0 < b → l[a + 1]? = some x → l[b - 1]? = some y → x ≠ y → Rd l (some none)
  | parts {a b x : Nat} {r q : List Nat} : l.take 3 = [50, 50, 57] → posS l 40 0 = a :: r → posS l 41 (a + 1) = b :: q → 0 < b → a + 1 ≤ b → b ≤ l.length → l[a + 1]? = some x → l[b - 1]? = some x → x < 256 → (Txt.split (S ((l.drop (a + 1)).take (b - (a + 1)))) (S [x])).length ≠ 5 → Rd l (some none)
  | ok {a b x : Nat} {r q : List Nat} {p0 p1 p2 p3 p4 : Str} {n : Int} : l.take 3 = [50, 50, 57] → posS l 40 0 = a :: r → posS l 41 (a + 1) = b :: q → 0 < b → a + 1 ≤ b → b ≤ l.length → l[a + 1]? = some x → l[b - 1]? = some x → x < 256 → Txt.split (S ((l.drop (a + 1)).take (b - (a + 1)))) (S [x]) = [p0, p1, p2, p3, p4] → PySem.intText? p3 = some n → p3.length ≤ 640 → Rd l (some (some n))

local macro_rules | `(tactic| walk_at "lits") => `(tactic| first | with_reducible exact lit_open | with_reducible exact lit_229s | with_reducible exact lit_close | exact rfl)
local macro_rules | `(tactic| walk_at "mine") => `(tactic| ((with_reducible show wpAny _ _ (call (Value.builtin "str.find") [Value.str _ _, Value.str _ _]) _ _ _); first | refine findR (by walk_at "lits") (by with_reducible assumption) ?_ | refine findR0 (by walk_at "lits") (by with_reducible assumption) ?_))
local macro_rules | `(tactic| walk_at "mine") => `(tactic| ((with_reducible show wpAny _ _ (call (Value.builtin "str.find") [Value.str _ _, Value.str _ _, Value.int _ _]) _ _ _); first | refine find3R (by walk_at "lits") rfl (by assumption) ?_ | refine find3R0 (by walk_at "lits") rfl (by assumption) ?_))
local macro_rules | `(tactic| walk_at "mine") => `(tactic| ((with_reducible show wpAny _ _ (subscriptTail _ (Expr.Slice none (some _) none _) (Value.str _ _) (Value.ref _)) _ _ _); refine' sliceTo (s := ⟨_, _, _, _, _⟩) (by assumption) (by assumption) rfl ?k ?z ?_; (case k => omega); (case z => omega); intro h' t' tk' F' N'; (try k_sweep)))
local macro_rules | `(tactic| walk_at "mine") => `(tactic| ((with_reducible show wpAny _ _ (compareOp CmpOp.NotEq (Value.str _ _) (Value.str _ _)) _ _ _); first | refine neR_f (by walk_at "lits") (by walk_at "lits") (by first | assumption | rfl) ?_ | refine neR_t (by walk_at "lits") (by walk_at "lits") (by first | assumption | (simp; assumption)) ?_))

local macro_rules | `(tactic| walk_at "mine") => `(tactic| ((with_reducible show wpAny _ _ (leaving _ _) _ _ _); refine leave_raiseS (by assumption) (by assumption) (by assumption) (by assumption) ?_ rfl; intro h₄ t₄ R₄ _ U₄))
local macro_rules | `(tactic| walk_at "mine") => `(tactic| ((with_reducible show wpAny _ _ (noteFrame _ _) _ _ _); refine kts_lookS (by assumption) (by assumption) (by assumption) (by assumption) (by assumption) ?_; intro h₄ R₄ U₄))
local macro_rules | `(tactic| walk_at "mine") => `(tactic| ((with_reducible show wpAny _ _ (handleBy _ _ _) _ _ _); first
  | (refine pass_S (KF := KH _) (by assumption) (by assumption) (by assumption) (by assumption) (by assumption) (by assumption) (by assumption) (by kts_test) ?_; intro h₄ R₄ U₄)
  | (refine hit_S0 (KF := KH _) (g₀ := ‹Shared›.heap) (by assumption) (by assumption) (by assumption) (by assumption) (by assumption) (by assumption) (by assumption) KtsTurn.refl (by kts_test) ?_; intro h₄ g₄ news₄ Tn₄ F₄ _ _ N₄ B₄ X₄ T₄ D₄)))

theorem fiveOf {l' : List (Str × Tok)} {p0 p1 p2 p3 p4 : Str} (e : l'.map (·.1) = [p0, p1, p2, p3, p4]) : ∃ t0 t1 t2 t3 t4, l' = [(p0, t0), (p1, t1), (p2, t2), (p3, t3), (p4, t4)] := by
  match l', e with
  | [(a, t0), (b, t1), (c, t2), (d, t3), (f, t4)], e =>
    simp only [List.map_cons, List.map_nil, List.cons.injEq, and_true] at e
    obtain ⟨rfl, rfl, rfl, rfl, rfl⟩ := e
    exact ⟨t0, t1, t2, t3, t4, rfl⟩
theorem Rd.key {l o} (R : Rd l o) : (l.take 3 ≠ [50, 50, 57] ∧ o = none) ∨ (l.take 3 = [50, 50, 57] ∧ ((posS l 40 0 = [] ∧ o = some none) ∨ ∃ a r, posS l 40 0 = a :: r ∧
    ((posS l 41 (a + 1) = [] ∧ o = some none) ∨ ∃ b q x y, posS l 41 (a + 1) = b :: q ∧ 0 < b ∧ l[a + 1]? = some x ∧ l[b - 1]? = some y ∧
      ((x ≠ y ∧ o = some none) ∨ (x = y ∧ a + 1 ≤ b ∧ b ≤ l.length ∧ x < 256 ∧
        (((Txt.split (S ((l.drop (a + 1)).take (b - (a + 1)))) (S [x])).length ≠ 5 ∧ o = some none) ∨
          ∃ p0 p1 p2 p3 p4 n, Txt.split (S ((l.drop (a + 1)).take (b - (a + 1)))) (S [x]) = [p0, p1, p2, p3, p4] ∧ PySem.intText? p3 = some n ∧ p3.length ≤ 640 ∧ o = some (some n))))))) := by
  cases R with
  | reply h3 => exact .inl ⟨h3, rfl⟩
  | noleft h3 h4 => exact .inr ⟨h3, .inl ⟨h4, rfl⟩⟩
  | noright h3 h4 h5 => exact .inr ⟨h3, .inr ⟨_, _, h4, .inl ⟨h5, rfl⟩⟩⟩
  | differ h3 h4 h5 h6 h7 h8 h9 => exact .inr ⟨h3, .inr ⟨_, _, h4, .inr ⟨_, _, _, _, h5, h6, h7, h8, .inl ⟨h9, rfl⟩⟩⟩⟩
  | parts h3 h4 h5 h6 h7 h8 h9 h10 h11 h12 => exact .inr ⟨h3, .inr ⟨_, _, h4, .inr ⟨_, _, _, _, h5, h6, h9, h10, .inr ⟨rfl, h7, h8, h11, .inl ⟨h12, rfl⟩⟩⟩⟩⟩
  | ok h3 h4 h5 h6 h7 h8 h9 h10 h11 h12 h13 h14 => exact .inr ⟨h3, .inr ⟨_, _, h4, .inr ⟨_, _, _, _, h5, h6, h9, h10, .inr ⟨rfl, h7, h8, h11, .inr ⟨_, _, _, _, _, _, h12, h13, h14, rfl⟩⟩⟩⟩⟩

local macro_rules | `(tactic| walk_at "stop3") => `(tactic| ((fail_if_success (with_reducible show wpAny _ _ (call (Value.builtin "str.find") _) _ _ _)); (fail_if_success (with_reducible show wpAny _ _ (subscriptTail _ _ (Value.str _ _) (Value.int _ _)) _ _ _))))
local macro_rules | `(tactic| walk_at "stop4") => `(tactic| (fail_if_success (with_reducible show wpAny _ _ (call (Value.builtin "len") _) _ _ _)))
local macro_rules | `(tactic| walk_at "go4") => `(tactic| repeat' (walk_at "stop"; walk_at "stop3"; walk_at "stop4"; first | walk_at "mine" | walk1 | (dsimp only; walk1)))
local macro_rules | `(tactic| walk_at "go3") => `(tactic| repeat' (walk_at "stop"; walk_at "stop3"; first | walk_at "mine" | walk1 | (dsimp only; walk1)))
theorem read_ct {w mean mg mb outer A₀ base h₀ L m cs} {dp un : Nat} {gd cn a ccd cl} {s : Shared} {Q E} {news}
    (C : Cal w mean mg mb outer A₀ base h₀ L s.heap m cs) (XB : (KH w.params).In base) (TB : Top VV (looseW VV []) mean mg mb base) (D : KtsDicts (outer.filterMap (·.frame)) h₀) (N : News h₀ L s.heap news) (hd : dp + 20 < recursionLimit) (hu : un + 100 < cLine)
    {a1 : Addr} {l : List Nat} {tm th tp : Tok} {host : Str} (l1 : IsTup s.heap a1 #[.str host th, .int 21 tp]) (hz : l.length < 1000) (hz3 : 3 ≤ l.length)
    {o : Option (Option Int)} (R : Rd l o)
    (retR : o = none → ∀ t h' tk' g', KtsTurn (outer.filterMap (·.frame)) h₀ g' → Fr g' L h' m → News g' L h' news → Below A₀ base outer g' → Q (.str (Str.ofString "reply") t) { s with heap := h', toks := tk' })
    (retP : o = some none → ∀ t h' tk' g', KtsTurn (outer.filterMap (·.frame)) h₀ g' → Fr g' L h' m → News g' L h' news → Below A₀ base outer g' → Q (.str (Str.ofString "proto") t) { s with heap := h', toks := tk' })
    (retN : ∀ n, o = some (some n) → ∀ r e t h' tk', Fr h₀ L h' m → News h₀ L h' ((r, tupOf #[.str host th, .int n t] e) :: news) → Keeps s.heap h' → Q (.ref r) { s with heap := h', toks := tk' }) :
    wpAny (model PP w) (ktrTop dp un gd cn cs L a ccd cl outer) (call (.ref 157) [.str (S l) tm, .ref a1]) Q E s := by
  have F := C.F
  have B := C.B
  have D' : KtsDicts ((envX cn cs L a ccd cl :: outer).filterMap (·.frame)) s.heap := dictsPush D F
  have key := R.key
  clear R
  refine enter0 C _ [(Str.ofString "text", .str (S l) tm), (Str.ofString "peer", .ref a1)] (by k_is) (by k_is) (by omega) rfl (locs rfl) rfl rfl rfl (by decide) ?_
  intro L' h₁ B' F' X' T' N' hL'
  have k1 : Keeps s.heap h₁ := F'.keep
  clear C
  walk_at "go"
  refine enterR ⟨B', F', X', T', rfl⟩ _ [(Str.ofString "resp", .str (S l) tm), (Str.ofString "peer", .ref a1)] (by k_is) (by k_is) (show dp + 1 < recursionLimit by omega) rfl (locs rfl) rfl rfl rfl (by decide) ?_
  intro L2 h2 B2 F2 X2 T2 N2 hL2
  dsimp only at F2 N2 B2 X2 T2 hL2 ⊢
  rcases key with ⟨h3, rfl⟩ | ⟨h3, key⟩
  · walk_at "go"
    exact turnEnd B F N (by assumption) (by assumption) fun g' a b c d => retR rfl _ _ _ g' a b c d
  clear retR
  walk_at "go3"
  rcases key with ⟨h4, rfl⟩ | ⟨a, r, h4, key⟩
  · walk_at "go"
    exact turnEnd B F N (by assumption) (by assumption) fun g' a b c d => retP rfl _ _ _ g' a b c d
  refine findR lit_open h4 ?_
  walk_at "go3"
  rcases key with ⟨h5, rfl⟩ | ⟨b, q, x, y, h5, h6, h7, h8, key⟩
  · walk_at "go"
    exact turnEnd B F N (by assumption) (by assumption) fun g' a b c d => retP rfl _ _ _ g' a b c d
  refine find3R lit_close rfl h5 ?_
  walk_at "go3"
  refine itemR (i := a + 1) rfl (by omega) h7 ?_
  walk_at "go3"
  refine itemR (i := b - 1) (by omega) (by omega) h8 ?_
  rcases key with ⟨h9, rfl⟩ | ⟨rfl, h9, h10, h11, key⟩
  · walk_at "go"
    exact turnEnd B F N (by assumption) (by assumption) fun g' a b c d => retP rfl _ _ _ g' a b c d
  walk_at "go3"
  dsimp only
  refine sliceMid (s := ⟨_, _, _, _, _⟩) (i := a + 1) (k := b) (by assumption) (by assumption) rfl rfl h9 h10 (by omega) ?_
  intro h5' t5' tk5' F5' N5'
  walk_at "go3"
  refine itemR (i := a + 1) rfl (by omega) h7 ?_
  walk_at "go3"
  refine splitN1 F5' N5' (by rw [S_length]; rfl) ?_ (by rw [S_length]; simp only [List.length_take, List.length_drop]; have := (by decide : (1000 : Nat) + 1000 ≤ sizeLine); omega)
  intro l' h6' k6' e6' F6' N6'
  rcases key with ⟨h12, rfl⟩ | ⟨p0, p1, p2, p3, p4, n, h12, h13, h14, rfl⟩
  · have h15 : l'.length ≠ 5 := by rw [← e6', List.length_map] at h12; exact h12
    have h16 : l'.length < 2000 := by have := len_le_of_split e6'; rw [S_length] at this; simp only [List.length_take, List.length_drop] at this; omega
    walk_at "go3"
    · exact turnEnd B F N (by assumption) (by assumption) fun g' a b c d => retP rfl _ _ _ g' a b c d
    · omega
  · clear retP
    rw [h12] at e6'
    obtain ⟨t0, t1, t2, t3, t4, rfl⟩ := fiveOf e6'
    simp only [strValues, List.map_cons, List.map_nil] at N6'
    walk_at "go4"
    refine PyProof.Rows.len_list (by is_list) (by simp only [List.size_toArray, List.length_cons, List.length_nil]; omega) ?_
    simp only [List.size_toArray, List.length_cons, List.length_nil, Nat.zero_add, Nat.reduceAdd, Int.cast_ofNat_Int]
    walk_at "go3"
    refine item_tuple (j := 0) (x := .str host th) ((l1.keeps F'.keep).keeps (Fr.keep (by assumption))) (by decide) (by decide) rfl rfl ?_
    walk_at "go3"
    rename Fr h₁ L2 _ _ => F4
    rename News h₁ L2 _ _ => N4
    have k : Keeps s.heap _ := Keeps.trans k1 F4.keep
    exact retN n rfl _ _ _ _ _ (frKeeps F k) (newsNew F (newsKeeps N k) (N4 _ (.head _)).1 (kts_none k1 (N4 _ (.head _)).2.2)) k
end

section
def sldP : List Str → List Str → List Str × List Str
  | [], ys => ([], ys)
  | xs, [] => (xs, [])
  | e :: xs, a :: ys =>
    if ltS e a then (e :: (sldP (xs.dropWhile fun z => decide (z = e)) (a :: ys)).1, (sldP (xs.dropWhile fun z => decide (z = e)) (a :: ys)).2)
    else if ltS a e then ((sldP (e :: xs) (ys.dropWhile fun z => decide (z = a))).1, a :: (sldP (e :: xs) (ys.dropWhile fun z => decide (z = a))).2)
    else sldP (xs.dropWhile fun z => decide (z = e)) (ys.dropWhile fun z => decide (z = a))
  termination_by xs ys => xs.length + ys.length
  decreasing_by
    all_goals simp only [List.length_cons]
    all_goals have hx := (List.dropWhile_sublist (fun z => decide (z = e)) (l := xs)).length_le
    all_goals have hy := (List.dropWhile_sublist (fun z => decide (z = a)) (l := ys)).length_le
    all_goals omega

theorem sld_nil1 (ys : List Str) : sldP [] ys = ([], ys) := by unfold sldP; rfl
theorem sld_nil2 (xs : List Str) : sldP xs [] = (xs, []) := by cases xs <;> (unfold sldP; rfl)
structure SlS where
  i : Nat
  j : Nat
  M : List Value
  em : Nat
  Ms : List Str
  U : List Value
  eu : Nat
  Us : List Str
  ti : Tok
  tj : Tok
structure SlP (xs ys : List Str) (X Y : List Str) (c : SlS) : Prop where
  M : StrsAre c.M c.Ms
  U : StrsAre c.U c.Us
  i : c.i ≤ xs.length
  j : c.j ≤ ys.length
  Ml : c.Ms.length ≤ c.i
  Ul : c.Us.length ≤ c.j
  eq : sldP xs ys = (c.Ms ++ X, c.Us ++ Y)
def SlG (xs ys : List Str) (c : SlS) : Prop := SlP xs ys (sldP (xs.drop c.i) (ys.drop c.j)).1 (sldP (xs.drop c.i) (ys.drop c.j)).2 c
def SlE (xs ys : List Str) (c : SlS) : Prop := SlP xs ys (xs.drop c.i) (ys.drop c.j) c
theorem SlG.end1 {xs ys : List Str} {c : SlS} (h : SlG xs ys c) (hi : xs.length ≤ c.i) : SlE xs ys c := by
  unfold SlG SlE at *
  rw [List.drop_eq_nil_of_le hi] at *
  rw [sld_nil1] at h
  exact h
theorem SlG.end2 {xs ys : List Str} {c : SlS} (h : SlG xs ys c) (hi : ys.length ≤ c.j) : SlE xs ys c := by
  unfold SlG SlE at *
  rw [List.drop_eq_nil_of_le hi] at *
  rw [sld_nil2] at h
  exact h

/-- the loop inside: f and g are still to be done to the two rests -/
def SlW (xs ys : List Str) (f g : List Str → List Str) (c : SlS) : Prop := SlP xs ys (sldP (f (xs.drop c.i)) (g (ys.drop c.j))).1 (sldP (f (xs.drop c.i)) (g (ys.drop c.j))).2 c
abbrev dw (x : Str) (l : List Str) : List Str := l.dropWhile fun z => decide (z = x)
theorem SlW.end1 {xs ys : List Str} {x : Str} {c : SlS} (h : SlW xs ys (dw x) id c) (hi : xs.length ≤ c.i) : SlE xs ys c := by
  have e : xs.drop c.i = [] := List.drop_eq_nil_of_le hi
  refine ⟨h.M, h.U, h.i, h.j, h.Ml, h.Ul, ?_⟩
  have := h.eq
  rw [e, show dw x [] = [] from rfl, sld_nil1] at this
  rw [e]
  exact this
theorem SlW.end2 {xs ys : List Str} {y : Str} {c : SlS} (h : SlW xs ys id (dw y) c) (hi : ys.length ≤ c.j) : SlE xs ys c := by
  have e : ys.drop c.j = [] := List.drop_eq_nil_of_le hi
  refine ⟨h.M, h.U, h.i, h.j, h.Ml, h.Ul, ?_⟩
  have := h.eq
  rw [e, show dw y [] = [] from rfl, sld_nil2] at this
  rw [e]
  exact this
theorem SlW.end3 {xs ys : List Str} {x y : Str} {c : SlS} (h : SlW xs ys (dw x) (fun l => dw y (l.drop 1)) c) (hi : xs.length ≤ c.i) : SlW xs ys id (fun l => dw y (l.drop 1)) c := by
  have e : xs.drop c.i = [] := List.drop_eq_nil_of_le hi
  refine ⟨h.M, h.U, h.i, h.j, h.Ml, h.Ul, ?_⟩
  have := h.eq
  rw [e] at this ⊢
  exact this
theorem dw_skip {l : List Str} {x : Str} {i : Nat} (h : l[i]? = some x) : dw x (l.drop i) = dw x (l.drop (i + 1)) := by
  obtain ⟨hi, e⟩ := List.getElem?_eq_some_iff.mp h
  rw [List.drop_eq_getElem_cons hi, e]
  simp [dw, List.dropWhile]
theorem dw_stop {l : List Str} {x z : Str} {i : Nat} (h : l[i]? = some z) (hn : z ≠ x) : dw x (l.drop i) = l.drop i := by
  obtain ⟨hi, e⟩ := List.getElem?_eq_some_iff.mp h
  rw [List.drop_eq_getElem_cons hi, e]
  simp [dw, List.dropWhile, hn]
theorem sld_lt {x y : Str} {X Y : List Str} (h : ltS x y) : sldP (x :: X) (y :: Y) = (x :: (sldP (dw x X) (y :: Y)).1, (sldP (dw x X) (y :: Y)).2) := by
  rw [sldP, if_pos h]
theorem sld_gt {x y : Str} {X Y : List Str} (h : ¬ ltS x y) (h' : ltS y x) : sldP (x :: X) (y :: Y) = ((sldP (x :: X) (dw y Y)).1, y :: (sldP (x :: X) (dw y Y)).2) := by
  rw [sldP, if_neg h, if_pos h']
theorem sld_eq {x y : Str} {X Y : List Str} (h : ¬ ltS x y) (h' : ¬ ltS y x) : sldP (x :: X) (y :: Y) = sldP (dw x X) (dw y Y) := by
  rw [sldP, if_neg h, if_neg h']
theorem drop_at {l : List Str} {x : Str} {i : Nat} (h : l[i]? = some x) : l.drop i = x :: l.drop (i + 1) := by
  obtain ⟨hi, e⟩ := List.getElem?_eq_some_iff.mp h
  rw [List.drop_eq_getElem_cons hi, e]
/-- the three ways of a turn -/
theorem SlG.lt {xs ys : List Str} {c : SlS} {x y : Str} {t ti : Tok} {em : Nat} (h : SlG xs ys c) (hx : xs[c.i]? = some x) (hy : ys[c.j]? = some y) (hl : ltS x y) :
    SlW xs ys (dw x) id { c with i := c.i + 1, M := c.M ++ [.str x t], Ms := c.Ms ++ [x], em := em, ti := ti } := by
  have := h.eq
  rw [drop_at hx, drop_at hy, sld_lt hl, ← drop_at hy] at this
  refine ⟨strsAre_snoc h.M, h.U, (List.getElem?_eq_some_iff.mp hx).1, h.j, ?_, h.Ul, ?_⟩
  · have := h.Ml
    simp only [List.length_append, List.length_cons, List.length_nil]; omega
  · rw [this]
    simp
theorem SlG.gt {xs ys : List Str} {c : SlS} {x y : Str} {t tj : Tok} {eu : Nat} (h : SlG xs ys c) (hx : xs[c.i]? = some x) (hy : ys[c.j]? = some y) (hn : ¬ ltS x y) (hl : ltS y x) :
    SlW xs ys id (dw y) { c with j := c.j + 1, U := c.U ++ [.str y t], Us := c.Us ++ [y], eu := eu, tj := tj } := by
  have := h.eq
  rw [drop_at hx, drop_at hy, sld_gt hn hl, ← drop_at hx] at this
  refine ⟨h.M, strsAre_snoc h.U, h.i, (List.getElem?_eq_some_iff.mp hy).1, h.Ml, ?_, ?_⟩
  · have := h.Ul
    simp only [List.length_append, List.length_cons, List.length_nil]; omega
  · rw [this]
    simp
theorem SlG.same {xs ys : List Str} {c : SlS} {x y : Str} {ti : Tok} (h : SlG xs ys c) (hx : xs[c.i]? = some x) (hy : ys[c.j]? = some y) (hn : ¬ ltS x y) (hl : ¬ ltS y x) :
    SlW xs ys (dw x) (fun l => dw y (l.drop 1)) { c with i := c.i + 1, ti := ti } := by
  have := h.eq
  rw [drop_at hx, drop_at hy, sld_eq hn hl] at this
  have hM := h.Ml
  refine ⟨h.M, h.U, (List.getElem?_eq_some_iff.mp hx).1, h.j, by show c.Ms.length ≤ c.i + 1; omega, h.Ul, ?_⟩
  rw [this]
  simp [drop_at hy]
theorem SlW.skip1 {xs ys : List Str} {c : SlS} {x : Str} {g : List Str → List Str} {ti : Tok} (h : SlW xs ys (dw x) g c) (hx : xs[c.i]? = some x) : SlW xs ys (dw x) g { c with i := c.i + 1, ti := ti } := by
  have := h.eq
  rw [dw_skip hx] at this
  have hM := h.Ml
  exact ⟨h.M, h.U, (List.getElem?_eq_some_iff.mp hx).1, h.j, by show c.Ms.length ≤ c.i + 1; omega, h.Ul, this⟩
theorem SlW.stop1 {xs ys : List Str} {c : SlS} {x z : Str} {g : List Str → List Str} (h : SlW xs ys (dw x) g c) (hx : xs[c.i]? = some z) (hn : z ≠ x) : SlW xs ys id g c := by
  have := h.eq
  rw [dw_stop hx hn] at this
  exact ⟨h.M, h.U, h.i, h.j, h.Ml, h.Ul, this⟩
theorem SlW.skip2 {xs ys : List Str} {c : SlS} {y : Str} {f : List Str → List Str} {tj : Tok} (h : SlW xs ys f (dw y) c) (hy : ys[c.j]? = some y) : SlW xs ys f (dw y) { c with j := c.j + 1, tj := tj } := by
  have := h.eq
  rw [dw_skip hy] at this
  have hU := h.Ul
  exact ⟨h.M, h.U, h.i, (List.getElem?_eq_some_iff.mp hy).1, h.Ml, by show c.Us.length ≤ c.j + 1; omega, this⟩
theorem SlW.stop2 {xs ys : List Str} {c : SlS} {y z : Str} {f : List Str → List Str} (h : SlW xs ys f (dw y) c) (hy : ys[c.j]? = some z) (hn : z ≠ y) : SlW xs ys f id c := by
  have := h.eq
  rw [dw_stop hy hn] at this
  exact ⟨h.M, h.U, h.i, h.j, h.Ml, h.Ul, this⟩
/-- at the finally: the first of the other list goes -/
theorem SlW.fin {xs ys : List Str} {c : SlS} {y : Str} {tj : Tok} (h : SlW xs ys id (fun l => dw y (l.drop 1)) c) (hy : c.j < ys.length) : SlW xs ys id (dw y) { c with j := c.j + 1, tj := tj } := by
  have := h.eq
  have hU := h.Ul
  refine ⟨h.M, h.U, h.i, hy, h.Ml, by show c.Us.length ≤ c.j + 1; omega, ?_⟩
  simp only [List.drop_drop] at this
  exact this
end

section
local macro_rules | `(tactic| walk_at "stop5") => `(tactic| (fail_if_success (with_reducible show wpAny _ _ (exec (Stmt.Try _ _ _ _ _) _) _ _ _)); (fail_if_success (with_reducible show wpAny _ _ (subscriptTail _ _ (Value.ref _) (Value.int _ _)) _ _ _)))
local macro_rules | `(tactic| walk_at "go5") => `(tactic| repeat' (walk_at "stop"; walk_at "stop5"; first | walk_at "mine" | walk1 | (dsimp only; walk1)))
local macro_rules | `(tactic| walk_at "stop6") => `(tactic| (fail_if_success (with_reducible show wpAny _ _ (call (Value.builtin "list.extend") _) _ _ _)))
local macro_rules | `(tactic| walk_at "go6") => `(tactic| repeat' (walk_at "stop"; walk_at "stop6"; first | walk_at "mine" | walk1 | (dsimp only; walk1)))
theorem news5 {g h : Heap} {L : Addr} {a b c d e : Addr × Obj} {r : List (Addr × Obj)} (N : News g L h (a :: b :: c :: d :: e :: r)) : News g L h [a, e, d] := fun p hp => by
  rcases List.mem_cons.mp hp with rfl | hp
  · exact N _ (.head _)
  · rcases List.mem_cons.mp hp with rfl | hp
    · exact N _ (.tail _ (.tail _ (.tail _ (.tail _ (.head _)))))
    · rw [List.mem_singleton.mp hp]
      exact N _ (.tail _ (.tail _ (.tail _ (.head _))))
theorem isListS {h h' : Heap} {a : Addr} {its : Array Value} (k : KeepsS h h') (x : h.IsList a its) : h'.IsList a its := by
  obtain ⟨o, ho, hc, ne, hd⟩ := x
  exact ⟨o, k _ _ _ _ ho hd, hc, ne, hd⟩
theorem sld_ct {w mean mg mb outer A₀ base h₀ L m cs} {dp un : Nat} {gd cn a ccd cl} {s : Shared} {Q E} {news}
    (C : Cal w mean mg mb outer A₀ base h₀ L s.heap m cs) (XB : (KH w.params).In base) (TB : Top VV (looseW VV []) mean mg mb base) (D : KtsDicts (outer.filterMap (·.frame)) h₀) (N : News h₀ L s.heap news) (hd : dp + 20 < recursionLimit) (hu : un + 100 < cLine)
    {a1 a2 : Addr} {vs us : List Value} {xs ys : List Str} (l1 : s.heap.IsList a1 vs.toArray) (i1 : StrsAre vs xs) (l2 : s.heap.IsList a2 us.toArray) (i2 : StrsAre us ys) (hz1 : xs.length < 1000) (hz2 : ys.length < 1000)
    (ret : ∀ r am au ms es et em eu h' tk' g', KtsTurn (outer.filterMap (·.frame)) h₀ g' → Fr g' L h' m → News g' L h' ((r, tupOf #[.ref am, .ref au] et) :: (am, listOf ms em) :: (au, listOf es eu) :: news) → Below A₀ base outer g' → StrsAre ms.toList (sldP xs ys).1 → StrsAre es.toList (sldP xs ys).2 → Q (.ref r) { s with heap := h', toks := tk' }) :
    wpAny (model PP w) (ktrTop dp un gd cn cs L a ccd cl outer) (call (.ref 100) [.ref a1, .ref a2]) Q E s := by
  have F := C.F
  have B := C.B
  have D' : KtsDicts ((envX cn cs L a ccd cl :: outer).filterMap (·.frame)) s.heap := dictsPush D F
  refine enter0 C _ [(Str.ofString "expected", .ref a1), (Str.ofString "actual", .ref a2)] (by k_is) (by k_is) (by omega) rfl (locs rfl) rfl rfl rfl (by decide) ?_
  intro L' h₁ B' F' X' T' N' hL'
  have k1 : Keeps s.heap h₁ := F'.keep
  clear C
  have l2' := l2
  have LA : ∀ h m, Fr s.heap L' h m → h.IsList a1 vs.toArray := fun h m F => F.lst l1
  have LB : ∀ h m, Fr s.heap L' h m → h.IsList a2 us.toArray := fun h m F => F.lst l2
  have hv1 := strsAre_len i1
  have hv2 := strsAre_len i2
  walk_at "go"
  rename_i am _ _ _ au _ _ _ _ _
  rename am < au => hma
  rename Fr s.heap _ _ _ => F2
  rename News s.heap _ _ _ => N2
  refine whileS (σ := SlS) (L := L') (fun c => [(au, listOf c.U.toArray c.eu), (am, listOf c.M.toArray c.em)]) (fun c => [(Str.ofString "expected", .ref a1), (Str.ofString "actual", .ref a2), (Str.ofString "missing", .ref am), (Str.ofString "unexpected", .ref au), (Str.ofString "i", .int (c.i : Int) c.ti), (Str.ofString "j", .int (c.j : Int) c.tj)])
    (SlG xs ys) (fun c => (xs.length - c.i) + (ys.length - c.j)) ⟨0, 0, [], 0, [], [], 0, [], _, _⟩ rfl F2 N2 (fun p hp => hp) ⟨rfl, rfl, rfl, rfl, rfl, rfl, trivial⟩ ⟨.nil, .nil, Nat.zero_le _, Nat.zero_le _, Nat.le_refl _, Nat.le_refl _, rfl⟩ ?_
  rintro c m2 h2 tk2 hP F3 N3
  clear F2 N2
  dsimp only at F3 N3 ⊢
  walk_at "go5"
  refine tryIdx (σ := SlS) (fun c => [(au, listOf c.U.toArray c.eu), (am, listOf c.M.toArray c.em)]) (fun c => [(Str.ofString "expected", .ref a1), (Str.ofString "actual", .ref a2), (Str.ofString "missing", .ref am), (Str.ofString "unexpected", .ref au), (Str.ofString "i", .int (c.i : Int) c.ti), (Str.ofString "j", .int (c.j : Int) c.tj)])
    (SlE xs ys) B' XB TB (by k_is) rfl rfl ?_ ?_
  · rintro e c g' h' tk m3 Tn Bn F4 N4 hE
    clear hP F3 N3
    have Xn := XB.keeps Bn.stays
    have Pn := TB.keeps Bn.stays
    obtain ⟨eM, eU, ei, ej, eMl, eUl, eq⟩ := hE
    have hM := strsAre_len eM
    have hU := strsAre_len eU
    have hv1 := strsAre_len i1
    have hv2 := strsAre_len i2
    have L1 : ∀ h m, Fr g' L' h m → h.IsList a1 vs.toArray := fun h m F => F.lst (isListS (turnS D' Tn) l1)
    have L2 : ∀ h m, Fr g' L' h m → h.IsList a2 us.toArray := fun h m F => F.lst (isListS (turnS D' Tn) l2)
    have hneq : am ≠ au := neN (by omega)
    walk_at "go"
    dsimp only
    refine lfrom (s := ⟨_, _, _, _, _⟩) (k := c.i) F4 N4 (L1 _ _ F4) rfl (by omega) ?_
    intro D1 h5 F5 N5 lt5
    walk_at "go6"
    refine extendAny (news' := fun e' => [(D1, listOf (vs.drop c.i).toArray 0), (au, listOf c.U.toArray c.eu), (am, listOf (c.M ++ vs.drop c.i).toArray e')]) F5 N5 (.head _) (fun e' => .tail (Nat.ne_of_gt (lt5 (am, _) (.tail _ (.head _)))) (.tail (Ne.symm hneq) (.head (fun p hp => nomatch hp)))) (by rw [List.length_drop]; omega) ?_
    intro e6 h6 F6 N6
    walk_at "go"
    dsimp only
    refine lfrom (s := ⟨_, _, _, _, _⟩) (k := c.j) F6 N6 (L2 _ _ F6) rfl (by omega) ?_
    intro D2 h7 F7 N7 lt7
    walk_at "go6"
    refine extendAny (news' := fun e' => [(D2, listOf (us.drop c.j).toArray 0), (D1, listOf (vs.drop c.i).toArray 0), (au, listOf (c.U ++ us.drop c.j).toArray e'), (am, listOf (c.M ++ vs.drop c.i).toArray e6)]) F7 N7 (.head _) (fun e' => .tail (Nat.ne_of_gt (lt7 (au, _) (.tail _ (.head _)))) (.tail (Nat.ne_of_gt (lt5 (au, _) (.head _))) (.head (fun p hp => by rw [List.mem_singleton.mp hp]; exact hneq)))) (by rw [List.length_drop]; omega) ?_
    intro e8 h8 F8 N8
    walk_at "go"
    unfold TurnPost
    walk_at "go"
    rename Fr g' L' _ _ => F9
    rename News g' L' _ _ => N9
    exact turnEndL B F N Tn F9 (news5 N9) fun g₀ t1 t2 t3 t4 => ret _ _ _ _ _ _ _ _ _ _ g₀ t1 t2 t3 t4 (by rw [eq]; exact strsAre_append eM (strsAre_drop i1 _)) (by rw [eq]; exact strsAre_append eU (strsAre_drop i2 _))
  · intro TE TK
    by_cases hi : xs.length ≤ c.i
    · walk_at "go5"
      refine itemOut rfl (LA _ _ (by assumption)) rfl (by rw [List.size_toArray]; omega) (by have := hP.i; omega) ?_
      intro h' tk' e x
      exact TK.new c _ _ _ _ e _ h' _ KtsTurn.refl B' F3 N3 (fun p hp => hp) ⟨rfl, rfl, rfl, rfl, rfl, rfl, trivial⟩ (hP.end1 hi) x
    obtain ⟨te, ge⟩ := strsAre_get i1 (i := c.i) (by omega)
    have hx : xs[c.i]? = some (xs.getD c.i default) := by simp [List.getD_eq_getElem?_getD, show c.i < xs.length by omega]
    generalize xs.getD c.i default = x at *
    walk_at "go5"
    refine itemN (i := c.i) (LA _ _ (by assumption)) rfl (by omega) ge ?_
    walk_at "go5"
    rename Fr s.heap L' _ _ => F5
    rename News s.heap L' _ _ => N5
    by_cases hj : ys.length ≤ c.j
    · refine itemOut rfl (LB _ _ F5) rfl (by rw [List.size_toArray]; omega) (by have := hP.j; omega) ?_
      intro h' tk' e x
      exact TK.new c _ _ _ _ e _ h' _ KtsTurn.refl B' F5 N5 (fun p hp => hp) ⟨rfl, rfl, rfl, rfl, rfl, rfl, trivial⟩ (hP.end2 hj) x
    obtain ⟨ta, ga⟩ := strsAre_get i2 (i := c.j) (by omega)
    have hy : ys[c.j]? = some (ys.getD c.j default) := by simp [List.getD_eq_getElem?_getD, show c.j < ys.length by omega]
    generalize ys.getD c.j default = y at *
    refine itemN (i := c.j) (LB _ _ F5) rfl (by omega) ga ?_
    have hMl : c.M.length < 1000 := by have := strsAre_len hP.M; have := hP.Ml; have := hP.i; omega
    have hUl : c.U.length < 1000 := by have := strsAre_len hP.U; have := hP.Ul; have := hP.j; omega
    have hneq : am ≠ au := neN (by omega)
    walk_at "go5"
    · rename _ < _ => hlt
      rename Fr s.heap L' _ _ => F6
      rename News s.heap L' _ _ => N6
      rw [List.push_toArray] at N6
      dsimp only
      refine whileS (σ := SlS) (L := L') (fun c => [(au, listOf c.U.toArray c.eu), (am, listOf c.M.toArray c.em)]) (fun c => [(Str.ofString "e", .str x te), (Str.ofString "expected", .ref a1), (Str.ofString "actual", .ref a2), (Str.ofString "missing", .ref am), (Str.ofString "unexpected", .ref au), (Str.ofString "i", .int (c.i : Int) c.ti), (Str.ofString "j", .int (c.j : Int) c.tj)]) (fun c' => SlW xs ys (dw x) id c' ∧ c.i < c'.i ∧ c'.j = c.j) (fun c' => xs.length - c'.i) { c with i := c.i + 1, M := c.M ++ [.str x te], Ms := c.Ms ++ [x], em := c.em + 1, ti := _ } rfl F6 N6 (fun p hp => hp) ⟨rfl, rfl, rfl, rfl, rfl, rfl, rfl, trivial⟩ ⟨hP.lt hx hy hlt, Nat.lt_succ_self _, rfl⟩ ?_ TK.own
      rintro c' m5 h5 tk5 ⟨hW, hci, hcj⟩ F7 N7
      clear F6 N6
      dsimp only at F7 N7 ⊢
      have hWi := hW.i
      by_cases hi' : xs.length ≤ c'.i
      · walk_at "go5"
        refine itemOut rfl (LA _ _ F7) rfl (by rw [List.size_toArray]; omega) (by omega) ?_
        intro h' tk' e x'
        exact TK.new c' _ _ _ _ e _ h' _ KtsTurn.refl B' F7 N7 (fun p hp => hp) ⟨rfl, rfl, rfl, rfl, rfl, rfl, trivial⟩ (hW.end1 hi') x'
      obtain ⟨tz, gz⟩ := strsAre_get i1 (i := c'.i) (by omega)
      have hz : xs[c'.i]? = some (xs.getD c'.i default) := by simp [List.getD_eq_getElem?_getD, show c'.i < xs.length by omega]
      generalize xs.getD c'.i default = z at *
      walk_at "go5"
      refine itemN (i := c'.i) (LA _ _ F7) rfl (by omega) gz ?_
      walk_at "go5"
      · rename (_ == _) = true => hq
        obtain rfl := eq_of_beq hq
        refine TurnEnd.intro { c' with i := c'.i + 1, ti := _ } (by assumption) (by assumption) (fun p hp => hp) (fun p hp => nomatch hp) ⟨rfl, rfl, rfl, rfl, rfl, rfl, rfl, trivial⟩ ⟨⟨hW.skip1 hz, Nat.lt_succ_of_lt hci, hcj⟩, ?_⟩
        show xs.length - (c'.i + 1) < xs.length - c'.i
        omega
      · rename (_ == _) = false => hq
        refine TurnEnd.intro c' (by assumption) (by assumption) (fun p hp => hp) (fun p hp => nomatch hp) ⟨rfl, rfl, rfl, rfl, rfl, rfl, trivial⟩ ⟨hW.stop1 hz (fun q => by rw [q, beq_self_eq_true] at hq; cases hq), ?_⟩
        show xs.length - c'.i + (ys.length - c'.j) < xs.length - c.i + (ys.length - c.j)
        omega
    · rename ¬ (_ < _) => hnl
      rename _ < _ => hlt
      rename Fr s.heap L' _ _ => F6
      rename News s.heap L' _ _ => N6
      rw [List.push_toArray] at N6
      dsimp only
      refine whileS (σ := SlS) (L := L') (fun c => [(au, listOf c.U.toArray c.eu), (am, listOf c.M.toArray c.em)]) (fun c => [(Str.ofString "a", .str y ta), (Str.ofString "expected", .ref a1), (Str.ofString "actual", .ref a2), (Str.ofString "missing", .ref am), (Str.ofString "unexpected", .ref au), (Str.ofString "i", .int (c.i : Int) c.ti), (Str.ofString "j", .int (c.j : Int) c.tj)]) (fun c' => SlW xs ys id (dw y) c' ∧ c.j < c'.j ∧ c'.i = c.i) (fun c' => ys.length - c'.j) { c with j := c.j + 1, U := c.U ++ [.str y ta], Us := c.Us ++ [y], eu := c.eu + 1, tj := _ } rfl F6 N6 (fun p hp => hp) ⟨rfl, rfl, rfl, rfl, rfl, rfl, rfl, trivial⟩ ⟨hP.gt hx hy hnl hlt, Nat.lt_succ_self _, rfl⟩ ?_ TK.own
      rintro c' m5 h5 tk5 ⟨hW, hcj, hci⟩ F7 N7
      clear F6 N6
      dsimp only at F7 N7 ⊢
      have hWj := hW.j
      by_cases hj' : ys.length ≤ c'.j
      · walk_at "go5"
        refine itemOut rfl (LB _ _ F7) rfl (by rw [List.size_toArray]; omega) (by omega) ?_
        intro h' tk' e x'
        exact TK.new c' _ _ _ _ e _ h' _ KtsTurn.refl B' F7 N7 (fun p hp => hp) ⟨rfl, rfl, rfl, rfl, rfl, rfl, trivial⟩ (hW.end2 hj') x'
      obtain ⟨tz, gz⟩ := strsAre_get i2 (i := c'.j) (by omega)
      have hz : ys[c'.j]? = some (ys.getD c'.j default) := by simp [List.getD_eq_getElem?_getD, show c'.j < ys.length by omega]
      generalize ys.getD c'.j default = z at *
      walk_at "go5"
      refine itemN (i := c'.j) (LB _ _ F7) rfl (by omega) gz ?_
      walk_at "go5"
      · rename (_ == _) = true => hq
        obtain rfl := eq_of_beq hq
        refine TurnEnd.intro { c' with j := c'.j + 1, tj := _ } (by assumption) (by assumption) (fun p hp => hp) (fun p hp => nomatch hp) ⟨rfl, rfl, rfl, rfl, rfl, rfl, rfl, trivial⟩ ⟨⟨hW.skip2 hz, Nat.lt_succ_of_lt hcj, hci⟩, ?_⟩
        show ys.length - (c'.j + 1) < ys.length - c'.j
        omega
      · rename (_ == _) = false => hq
        refine TurnEnd.intro c' (by assumption) (by assumption) (fun p hp => hp) (fun p hp => nomatch hp) ⟨rfl, rfl, rfl, rfl, rfl, rfl, trivial⟩ ⟨hW.stop2 hz (fun q => by rw [q, beq_self_eq_true] at hq; cases hq), ?_⟩
        show xs.length - c'.i + (ys.length - c'.j) < xs.length - c.i + (ys.length - c.j)
        omega
    · rename ¬ (y.cps.toList < _) => hng
      rename ¬ (x.cps.toList < _) => hnl
      rename Fr s.heap L' _ _ => F6
      rename News s.heap L' _ _ => N6
      dsimp only
      refine wpAny_Try_finally ?_
      walk_at "go5"
      refine whileS (σ := SlS) (L := L') (fun c => [(au, listOf c.U.toArray c.eu), (am, listOf c.M.toArray c.em)]) (fun c => [(Str.ofString "e", .str x te), (Str.ofString "a", .str y ta), (Str.ofString "expected", .ref a1), (Str.ofString "actual", .ref a2), (Str.ofString "missing", .ref am), (Str.ofString "unexpected", .ref au), (Str.ofString "i", .int (c.i : Int) c.ti), (Str.ofString "j", .int (c.j : Int) c.tj)]) (fun c' => SlW xs ys (dw x) (fun l => dw y (l.drop 1)) c' ∧ c.i < c'.i ∧ c'.j = c.j) (fun c' => xs.length - c'.i) { c with i := c.i + 1, ti := _ } rfl F6 N6 (fun p hp => hp) ⟨rfl, rfl, rfl, rfl, rfl, rfl, rfl, rfl, trivial⟩ ⟨hP.same hx hy hnl hng, Nat.lt_succ_self _, rfl⟩ ?_
      rintro c' m5 h5 tk5 ⟨hW, hci, hcj⟩ F7 N7
      clear F6 N6
      dsimp only at F7 N7 ⊢
      have hWi := hW.i
      by_cases hi' : xs.length ≤ c'.i
      · walk_at "go5"
        refine itemOut rfl (LA _ _ F7) rfl (by rw [List.size_toArray]; omega) (by omega) ?_
        intro h' tk' e x'
        refine finalNew B' F7 N7 x' rfl ?_
        intro h8 g8 oe T oT Tn8 B8 H8
        refine wpAny_passesOwnAt (TK.at_ _) ?_
        have F8 := H8.F
        have N8 := H8.N
        have LB8 : ∀ h m, Fr g8 L' h m → h.IsList a2 us.toArray := fun h m F => F.lst (isListS (turnS D' Tn8) l2')
        obtain ⟨t8, hd8⟩ := H8.data
        clear F7 N7
        walk_at "go5"
        rename Fr g8 L' _ _ => F9
        rename News g8 L' _ _ => N9
        dsimp only
        refine whileS (σ := SlS) (L := L') (fun c => [(e, oe), (T, oT), (au, listOf c.U.toArray c.eu), (am, listOf c.M.toArray c.em)]) (fun c => [(Str.ofString "a", .str y ta), (Str.ofString "expected", .ref a1), (Str.ofString "actual", .ref a2), (Str.ofString "missing", .ref am), (Str.ofString "unexpected", .ref au), (Str.ofString "i", .int (c.i : Int) c.ti), (Str.ofString "j", .int (c.j : Int) c.tj)]) (fun c'' => SlW xs ys id (dw y) c'' ∧ c''.i = c'.i) (fun c'' => ys.length - c''.j) { c' with j := c'.j + 1, tj := _ } rfl F9 N9 (fun p hp => hp) ⟨rfl, rfl, rfl, rfl, rfl, rfl, rfl, trivial⟩ ⟨(hW.end3 hi').fin (by omega), rfl⟩ ?_ (TK.ownM _)
        rintro c2 m6 h6 tk6 ⟨hW2, hc2⟩ F10 N10
        clear F9 N9
        dsimp only at F10 N10 ⊢
        have hWj := hW2.j
        by_cases hj' : ys.length ≤ c2.j
        · walk_at "go5"
          refine itemOutH rfl (N10 _ (.head _)).1 hd8 rfl (LB8 _ _ F10) rfl (by rw [List.size_toArray]; omega) (by omega) ?_
          intro h' tk' e2 x2
          exact TK.new c2 g8 _ _ _ e2 _ h' _ Tn8 B8 F10 N10 (fun p hp => .tail _ (.tail _ hp)) ⟨rfl, rfl, rfl, rfl, rfl, rfl, trivial⟩ (hW2.end2 hj') x2
        obtain ⟨tz, gz⟩ := strsAre_get i2 (i := c2.j) (by omega)
        have hz : ys[c2.j]? = some (ys.getD c2.j default) := by simp [List.getD_eq_getElem?_getD, show c2.j < ys.length by omega]
        generalize ys.getD c2.j default = z at *
        walk_at "go5"
        refine itemN (i := c2.j) (LB8 _ _ F10) rfl (by omega) gz ?_
        walk_at "go5"
        · rename (_ == _) = true => hq
          obtain rfl := eq_of_beq hq
          refine TurnEnd.intro { c2 with j := c2.j + 1, tj := _ } (by assumption) (by assumption) (fun p hp => hp) (fun p hp => nomatch hp) ⟨rfl, rfl, rfl, rfl, rfl, rfl, rfl, trivial⟩ ⟨⟨hW2.skip2 hz, hc2⟩, ?_⟩
          show ys.length - (c2.j + 1) < ys.length - c2.j
          omega
        · rename (_ == _) = false => hq
          refine Hot.pass (g := g8) (m := _) (news := [(au, listOf c2.U.toArray c2.eu), (am, listOf c2.M.toArray c2.em)]) ⟨F10, N10, H8.cls, H8.data, H8.tb, H8.ne, fun p hp => ?_⟩ rfl fun h' oT' H' => TK.held c2 g8 h' _ _ e oe T oT' _ _ Tn8 B8 H' (fun p hp => hp) ⟨rfl, rfl, rfl, rfl, rfl, rfl, trivial⟩ (SlG.end1 (hW2.stop2 hz (fun q => by rw [q, beq_self_eq_true] at hq; cases hq)) (by omega))
          rcases List.mem_cons.mp hp with rfl | hp
          · exact H8.sep (au, listOf c'.U.toArray c'.eu) (.head _)
          · rw [List.mem_singleton.mp hp]
            exact H8.sep (am, listOf c'.M.toArray c'.em) (.tail _ (.head _))
      obtain ⟨tz, gz⟩ := strsAre_get i1 (i := c'.i) (by omega)
      have hz : xs[c'.i]? = some (xs.getD c'.i default) := by simp [List.getD_eq_getElem?_getD, show c'.i < xs.length by omega]
      generalize xs.getD c'.i default = z at *
      walk_at "go5"
      refine itemN (i := c'.i) (LA _ _ F7) rfl (by omega) gz ?_
      walk_at "go5"
      · rename (_ == _) = true => hq
        obtain rfl := eq_of_beq hq
        refine TurnEnd.intro { c' with i := c'.i + 1, ti := _ } (by assumption) (by assumption) (fun p hp => hp) (fun p hp => nomatch hp) ⟨rfl, rfl, rfl, rfl, rfl, rfl, rfl, rfl, trivial⟩ ⟨⟨hW.skip1 hz, Nat.lt_succ_of_lt hci, hcj⟩, ?_⟩
        show xs.length - (c'.i + 1) < xs.length - c'.i
        omega
      · rename (_ == _) = false => hq
        rename Fr s.heap L' _ _ => F8
        rename News s.heap L' _ _ => N8
        refine wpAny_passesOwn TK.own ?_
        dsimp only
        have hW1 := hW.stop1 hz (fun q => by rw [q, beq_self_eq_true] at hq; cases hq)
        refine whileS (σ := SlS) (L := L') (fun c => [(au, listOf c.U.toArray c.eu), (am, listOf c.M.toArray c.em)]) (fun c => [(Str.ofString "a", .str y ta), (Str.ofString "expected", .ref a1), (Str.ofString "actual", .ref a2), (Str.ofString "missing", .ref am), (Str.ofString "unexpected", .ref au), (Str.ofString "i", .int (c.i : Int) c.ti), (Str.ofString "j", .int (c.j : Int) c.tj)]) (fun c'' => SlW xs ys id (dw y) c'' ∧ c''.i = c'.i ∧ c'.j < c''.j) (fun c'' => ys.length - c''.j) { c' with j := c'.j + 1, tj := _ } rfl F8 N8 (fun p hp => hp) ⟨rfl, rfl, rfl, rfl, rfl, rfl, rfl, trivial⟩ ⟨hW1.fin (by omega), rfl, Nat.lt_succ_self _⟩ ?_ TK.own
        rintro c2 m6 h6 tk6 ⟨hW2, hc2, hc3⟩ F10 N10
        clear F8 N8
        dsimp only at F10 N10 ⊢
        have hWj := hW2.j
        by_cases hj' : ys.length ≤ c2.j
        · walk_at "go5"
          refine itemOut rfl (LB _ _ F10) rfl (by rw [List.size_toArray]; omega) (by omega) ?_
          intro h' tk' e2 x2
          exact TK.new c2 _ _ _ _ e2 _ h' _ KtsTurn.refl B' F10 N10 (fun p hp => hp) ⟨rfl, rfl, rfl, rfl, rfl, rfl, trivial⟩ (hW2.end2 hj') x2
        obtain ⟨tz2, gz2⟩ := strsAre_get i2 (i := c2.j) (by omega)
        have hz2' : ys[c2.j]? = some (ys.getD c2.j default) := by simp [List.getD_eq_getElem?_getD, show c2.j < ys.length by omega]
        generalize ys.getD c2.j default = z2 at *
        walk_at "go5"
        refine itemN (i := c2.j) (LB _ _ F10) rfl (by omega) gz2 ?_
        clear hq
        walk_at "go5"
        · rename (_ == _) = true => hq
          obtain rfl := eq_of_beq hq
          refine TurnEnd.intro { c2 with j := c2.j + 1, tj := _ } (by assumption) (by assumption) (fun p hp => hp) (fun p hp => nomatch hp) ⟨rfl, rfl, rfl, rfl, rfl, rfl, rfl, trivial⟩ ⟨⟨hW2.skip2 hz2', hc2, Nat.lt_succ_of_lt hc3⟩, ?_⟩
          show ys.length - (c2.j + 1) < ys.length - c2.j
          omega
        · rename (_ == _) = false => hq
          refine TurnEnd.intro c2 (by assumption) (by assumption) (fun p hp => hp) (fun p hp => nomatch hp) ⟨rfl, rfl, rfl, rfl, rfl, rfl, trivial⟩ ⟨hW2.stop2 hz2' (fun q => by rw [q, beq_self_eq_true] at hq; cases hq), ?_⟩
          show xs.length - c2.i + (ys.length - c2.j) < xs.length - c.i + (ys.length - c.j)
          omega
end

section
section
variable {prog : Program} {w : World} {A : Around} {E : Value → Shared → Prop} {s : Shared} {env : Env} {x : Str} {px : Pos} {body : List Stmt} {Q : Flow → Shared → Prop}
/-- behind a turn that goes on; the ground is the state's own -/
def TurnG {σ : Type} (L I : Addr) (G : σ → Heap) (Led : σ → List (Addr × Obj)) (ps : σ → List (Str × Value)) (P : σ → Prop) (io : Obj) (s s₂ : Shared) : Prop :=
  ∃ c h' tk m' news', s₂ = { s with heap := h', toks := tk } ∧ Fr (G c) L h' m' ∧ News (G c) L h' news' ∧ (∀ p ∈ Led c, p ∈ news') ∧ (I, io) ∈ news' ∧ Ok (ps c) m' ∧ P c
theorem TurnG.intro {σ : Type} {L I : Addr} {G : σ → Heap} {Led : σ → List (Addr × Obj)} {ps : σ → List (Str × Value)} {P : σ → Prop} {io : Obj} (c : σ) {h' : Heap} {tk : Nat} {m' : Str → Option Value} {news' : List (Addr × Obj)}
    (F : Fr (G c) L h' m') (N : News (G c) L h' news') (h1 : ∀ p ∈ Led c, p ∈ news') (h2 : (I, io) ∈ news') (h3 : Ok (ps c) m') (h4 : P c) : TurnG L I G Led ps P io s { s with heap := h', toks := tk } :=
  ⟨c, h', tk, m', news', rfl, F, N, h1, h2, h3, h4⟩
def PostG {σ : Type} (L I : Addr) (G : σ → Heap) (Led : σ → List (Addr × Obj)) (ps : σ → List (Str × Value)) (P : σ → Prop) (io : Obj) (s : Shared) (Q : Flow → Shared → Prop) (f : Flow) (s₂ : Shared) : Prop :=
  match f with
  | .ret v => Q (.ret v) s₂
  | .brk => Q .next s₂
  | _ => TurnG L I G Led ps P io s s₂

/-- over any list; the ground and the ledger may change from turn to turn; the target is stored by the turn -/
theorem forGc {σ : Type} {L l : Addr} {vs : List Value} {m₀ : Str → Option Value} {news : List (Addr × Obj)} (G : σ → Heap) (Led : σ → List (Addr × Obj)) (ps : σ → List (Str × Value)) (P : Nat → σ → Prop) (c₀ : σ)
    (hh : A.handled = none) (hls : s.heap.IsList l vs.toArray) (F : Fr (G c₀) L s.heap m₀) (N : News (G c₀) L s.heap news) (hN : ∀ p ∈ Led c₀, p ∈ news)
    (hl : ∀ i c h m, P i c → Fr (G c) L h m → News (G c) L h (Led c) → h.IsList l vs.toArray)
    (hsp : ∀ i c h io, P i c → News (G c) L h (Led c) → h.get? s.heap.objs.size = some io → io.cls = .type "list_iterator" → (∃ vs, io.data = .fields vs) → ∀ p ∈ Led c, p.1 ≠ s.heap.objs.size)
    (hk : Ok (ps c₀) m₀) (hp : P 0 c₀) (hE : PassesOwn (model prog w) A env E)
    (turn : ∀ c i v m h tk I io, vs[i]? = some v → P i c → Fr (G c) L h (ov (ps c) m) → News (G c) L h ((I, io) :: Led c) → (∀ p ∈ Led c, p.1 ≠ I) →
      wpAny (model prog w) A (assign (.Name x px) env v) (fun _ s₂ => wpAny (model prog w) A (execs body env) (PostG L I G Led ps (P (i + 1)) io s Q) E s₂) E { s with heap := h, toks := tk })
    (done : ∀ c m h tk, P vs.length c → Fr (G c) L h (ov (ps c) m) → News (G c) L h (Led c) → Q .next { s with heap := h, toks := tk }) :
    wpAny (model prog w) A (pyIter (.ref l)) (fun it s₂ => codeAny (model prog w) A (.forLoop (.Name x px) it body [] env) (fun r s' => match r with | .ok f => Q f s' | .error e => cameBackBy (model prog w) A env E e s') s₂) E s := by
  obtain ⟨ol, hol, _⟩ := id hls
  have hne : l ≠ s.heap.objs.size := Nat.ne_of_lt (Heap.lt_size hol)
  refine wpAny_pyIter_list hls ?_
  have W := Walks.list (prog := prog) (w := w) hh s.heap.objs.size l hne vs.toArray
  have hlen : vs.toArray.size = vs.length := List.size_toArray ..
  rw [hlen] at W
  generalize hI : s.heap.objs.size = I at *
  refine codeAny_forLoop (fun n s' => ∃ i c h tk m io, n = vs.length - i ∧ i ≤ vs.length ∧ s' = { s with heap := h, toks := tk } ∧ h.IsListIter I l i ∧ h.get? I = some io ∧ Fr (G c) L h m ∧ News (G c) L h ((I, io) :: Led c) ∧ Ok (ps c) m ∧ P i c) ?_ vs.length ?_
  · rintro n s' ⟨i, c, h, tk, m, io, rfl, hi, rfl, hit, hio, F₁, N₁, hok, hP⟩
    have N₁' : News (G c) L h (Led c) := fun p hp => N₁ p (.tail _ hp)
    have hlc := hl i c h m hP F₁ N₁'
    have hIL : I ≠ L := (N₁ _ (.head _)).2.1
    have hIG := (N₁ _ (.head _)).2.2
    have iocls : io.cls = .type "list_iterator" ∧ ∃ vs, io.data = .fields vs := by
      obtain ⟨o, ho, hc, hd⟩ := hit
      rw [hio] at ho; cases ho; exact ⟨hc, _, hd⟩
    have sep : ∀ p ∈ Led c, p.1 ≠ I := hsp i c h io hP N₁' hio iocls.1 iocls.2
    have after : ∀ h', (∀ b o, b ∉ [I] → h.get? b = some o → h'.get? b = some o) → Fr (G c) L h' m ∧ News (G c) L h' (Led c) := fun h' k => by
      have k' : ∀ b o, b ≠ I → h.get? b = some o → h'.get? b = some o := fun b o n => k b o (fun q => n (List.mem_singleton.mp q))
      obtain ⟨oL, es, ep, hL, r⟩ := F₁.ns
      refine ⟨⟨⟨oL, es, ep, k' _ _ (Ne.symm hIL) hL, r⟩, fun b o e => k' b o (fun q => ?_) (F₁.keep b o e), F₁.above⟩, fun p hp => ⟨k' _ _ (sep p hp) (N₁' p hp).1, (N₁' p hp).2⟩⟩
      rw [q] at e
      have e' : (G c).get? I = none := hIG
      rw [e'] at e; cases e
    rcases Nat.lt_or_ge i vs.length with hlt | hge
    · refine W.item i _ _ _ hlt ⟨hit, hlc⟩ ?_
      intro v h' tk' hv st k
      obtain ⟨F₂, N₂⟩ := after h' k
      obtain ⟨io', hio', _⟩ := id st.1
      have hv' : vs[i]? = some v := by simpa using hv
      have N₃ : News (G c) L h' ((I, io') :: Led c) := fun p hp => by
        rcases List.mem_cons.mp hp with rfl | hp
        · exact ⟨hio', hIL, hIG⟩
        · exact N₂ p hp
      refine wpAny_mono (turn c i v m h' tk' I io' hv' hP (by rw [ov_eq hok]; exact F₂) N₃ sep) (fun _ s₂ x => wpAny_mono x (fun f s₃ q => ?_) hE) hE
      have fin : TurnG L I G Led ps (P (i + 1)) io' s s₃ → ∃ m, m < vs.length - i ∧ ∃ i c h tk m_1 io, m = vs.length - i ∧ i ≤ vs.length ∧ s₃ = { s with heap := h, toks := tk } ∧ h.IsListIter I l i ∧ h.get? I = some io ∧ Fr (G c) L h m_1 ∧ News (G c) L h ((I, io) :: Led c) ∧ Ok (ps c) m_1 ∧ P i c := by
        rintro ⟨c', h2, tk2, m2, news2, e2, F4, N4, x1, x2, x3, x4⟩
        refine ⟨vs.length - (i + 1), by omega, i + 1, c', h2, tk2, m2, io', rfl, hlt, e2, ?_, (N4 _ x2).1, F4, fun p hp => ?_, x3, x4⟩
        · obtain ⟨o, ho, r⟩ := st.1
          rw [hio'] at ho; cases ho
          exact ⟨io', (N4 _ x2).1, r⟩
        · rcases List.mem_cons.mp hp with rfl | hp
          · exact N4 _ x2
          · exact N4 _ (x1 _ hp)
      cases f with
      | ret v => exact q
      | brk => exact q
      | next => exact fin q
      | cont => exact fin q
    · have hi' : i = vs.length := Nat.le_antisymm hi hge
      subst hi'
      refine W.done _ _ _ ⟨hit, hlc⟩ ?_
      intro h' tk' k
      obtain ⟨F₂, N₂⟩ := after h' k
      exact wpAny_execs_nil (done c m h' tk' hP (by rw [ov_eq hok]; exact F₂) N₂)
  · subst hI
    refine ⟨0, c₀, _, _, m₀, _, rfl, Nat.zero_le _, rfl, ⟨_, Heap.get?_push_size _ rfl, rfl, rfl⟩, Heap.get?_push_size _ rfl, F.push _, fun p hp => ?_, hk, hp⟩
    rcases List.mem_cons.mp hp with rfl | hp
    · exact ⟨Heap.get?_push_size _ rfl, fun e => absurd F.ns.lt (e ▸ Nat.lt_irrefl _), next_is_new F⟩
    · exact ⟨Heap.get?_push_of_some _ (N p (hN p hp)).1, (N p (hN p hp)).2⟩
theorem forG {σ : Type} {L l : Addr} {vs : List Value} {m₀ : Str → Option Value} {news : List (Addr × Obj)} (G : σ → Heap) (Led : σ → List (Addr × Obj)) (ps : σ → List (Str × Value)) (P : Nat → σ → Prop) (c₀ : σ)
    (hh : A.handled = none) (hls : s.heap.IsList l vs.toArray) (F : Fr (G c₀) L s.heap m₀) (N : News (G c₀) L s.heap news) (hN : ∀ p ∈ Led c₀, p ∈ news)
    (hl : ∀ i c h m, P i c → Fr (G c) L h m → News (G c) L h (Led c) → h.IsList l vs.toArray)
    (hcls : ∀ i c, P i c → ∀ p ∈ Led c, p.2.cls ≠ .type "list_iterator" ∨ ∀ vs, p.2.data ≠ .fields vs)
    (hk : Ok (ps c₀) m₀) (hp : P 0 c₀) (hE : PassesOwn (model prog w) A env E)
    (turn : ∀ c i v m h tk I io, vs[i]? = some v → P i c → Fr (G c) L h (ov (ps c) m) → News (G c) L h ((I, io) :: Led c) → (∀ p ∈ Led c, p.1 ≠ I) →
      wpAny (model prog w) A (assign (.Name x px) env v) (fun _ s₂ => wpAny (model prog w) A (execs body env) (PostG L I G Led ps (P (i + 1)) io s Q) E s₂) E { s with heap := h, toks := tk })
    (done : ∀ c m h tk, P vs.length c → Fr (G c) L h (ov (ps c) m) → News (G c) L h (Led c) → Q .next { s with heap := h, toks := tk }) :
    wpAny (model prog w) A (pyIter (.ref l)) (fun it s₂ => codeAny (model prog w) A (.forLoop (.Name x px) it body [] env) (fun r s' => match r with | .ok f => Q f s' | .error e => cameBackBy (model prog w) A env E e s') s₂) E s := by
  refine forGc G Led ps P c₀ hh hls F N hN hl ?_ hk hp hE turn done
  intro i c h io hP N₁ hio hc hd p hp e
  have e1 := (N₁ p hp).1
  rw [e, hio] at e1
  rcases hcls i c hP p hp with q | q
  · exact q (by rw [← Option.some.inj e1]; exact hc)
  · obtain ⟨vs, d⟩ := hd
    exact q vs (by rw [← Option.some.inj e1]; exact d)
theorem forG2 {σ : Type} {L l : Addr} {vs : List Value} {m₀ : Str → Option Value} {news : List (Addr × Obj)} (G : σ → Heap) (Led : σ → List (Addr × Obj)) (ps : σ → List (Str × Value)) (P : Nat → σ → Prop) (c₀ : σ)
    (hh : A.handled = none) (hls : s.heap.IsList l vs.toArray) (F : Fr (G c₀) L s.heap m₀) (N : News (G c₀) L s.heap news) (hN : ∀ p ∈ Led c₀, p ∈ news)
    (hl : ∀ i c h m, P i c → Fr (G c) L h m → News (G c) L h (Led c) → h.IsList l vs.toArray)
    (hadr : ∀ i c, P i c → (Led c).map (·.1) = (Led c₀).map (·.1))
    (hk : Ok (ps c₀) m₀) (hp : P 0 c₀) (hE : PassesOwn (model prog w) A env E)
    (turn : ∀ c i v m h tk I io, vs[i]? = some v → P i c → Fr (G c) L h (ov (ps c) m) → News (G c) L h ((I, io) :: Led c) → (∀ p ∈ Led c, p.1 ≠ I) →
      wpAny (model prog w) A (assign (.Name x px) env v) (fun _ s₂ => wpAny (model prog w) A (execs body env) (PostG L I G Led ps (P (i + 1)) io s Q) E s₂) E { s with heap := h, toks := tk })
    (done : ∀ c m h tk, P vs.length c → Fr (G c) L h (ov (ps c) m) → News (G c) L h (Led c) → Q .next { s with heap := h, toks := tk }) :
    wpAny (model prog w) A (pyIter (.ref l)) (fun it s₂ => codeAny (model prog w) A (.forLoop (.Name x px) it body [] env) (fun r s' => match r with | .ok f => Q f s' | .error e => cameBackBy (model prog w) A env E e s') s₂) E s := by
  refine forGc G Led ps P c₀ hh hls F N hN hl ?_ hk hp hE turn done
  intro i c h io hP N₁ hio hc hd p hp
  have : p.1 ∈ (Led c₀).map (·.1) := by rw [← hadr i c hP]; exact List.mem_map_of_mem hp
  obtain ⟨q, hq, e⟩ := List.mem_map.mp this
  rw [← e]
  exact Nat.ne_of_lt (Heap.lt_size (N q (hN q hq)).1)
end
end

section
def portD (p : List Int) : PyData := .list (p.map .int)
theorem readsInts {h : Heap} : ∀ {us : List Value} {p : List Int}, IntsAre us p → ReadsAll h us (p.map .int) []
  | _, _, .nil => .nil
  | _, _, .cons n t r => ReadsAll.cons (.int n t) (readsInts r)
theorem readsPort {h : Heap} {a : Addr} {us : List Value} {p : List Int} (l : h.IsList a us.toArray) (i : IntsAre us p) : Reads h (.ref a) (portD p) [a] := by
  obtain ⟨o, ho, hc, n, hd⟩ := l
  exact .list ho hc hd (readsInts i)
theorem readsPorts {h : Heap} : ∀ {vs : List Value} {ps : List (List Int)}, PortsAre h vs ps → ∃ as, ReadsAll h vs (ps.map portD) as
  | _, _, .nil => ⟨_, .nil⟩
  | _, _, .cons l i _ r => by
    obtain ⟨as, x⟩ := readsPorts r
    exact ⟨_, .cons (readsPort l i) x⟩
theorem readsStrs {h : Heap} : ∀ {us : List Value} {xs : List Str}, StrsAre us xs → ReadsAll h us (xs.map .str) []
  | _, _, .nil => .nil
  | _, _, .cons n t r => ReadsAll.cons (.str n t) (readsStrs r)
theorem readsTexts {h : Heap} {a : Addr} {us : List Value} {xs : List Str} (l : h.IsList a us.toArray) (i : StrsAre us xs) : Reads h (.ref a) (.list (xs.map .str)) [a] := by
  obtain ⟨o, ho, hc, n, hd⟩ := l
  exact .list ho hc hd (readsStrs i)
theorem eqv_ints : ∀ p q : List Int, PyData.eqvAll (p.map .int) (q.map .int) = decide (p = q)
  | [], [] => rfl
  | [], _ :: _ => rfl
  | _ :: _, [] => rfl
  | a :: p, b :: q => by
    have := eqv_ints p q
    simp only [List.map_cons, PyData.eqvAll, PyData.eqv, this, List.cons.injEq, Bool.decide_and]
    rfl
theorem eqv_port (p q : List Int) : PyData.eqv (portD p) (portD q) = decide (p = q) := by
  simp only [portD, PyData.eqv, eqv_ints]
theorem eqv_strs : ∀ p q : List Str, PyData.eqvAll (p.map .str) (q.map .str) = decide (p = q)
  | [], [] => rfl
  | [], _ :: _ => rfl
  | _ :: _, [] => rfl
  | a :: p, b :: q => by
    have := eqv_strs p q
    simp only [List.map_cons, PyData.eqvAll, PyData.eqv, this, List.cons.injEq, Bool.decide_and]
    rfl
theorem lay_ints : ∀ p : List Int, PyData.canLayAll0 (p.map .int) = true
  | [] => rfl
  | _ :: p => by simp only [List.map_cons, PyData.canLayAll0, PyData.canLay0, Bool.true_and]; exact lay_ints p
theorem lay_ports : ∀ ps : List (List Int), PyData.canLayAll0 (ps.map portD) = true
  | [] => rfl
  | p :: ps => by
    simp only [List.map_cons, PyData.canLayAll0, lay_ports ps, Bool.and_true]
    simp only [portD, PyData.canLay0, lay_ints]
theorem depth_ints : ∀ p : List Int, PyData.depthAll (p.map .int) ≤ 1
  | [] => by simp [PyData.depthAll]
  | _ :: p => by have := depth_ints p; simp only [List.map_cons, PyData.depthAll, PyData.depth]; omega
theorem depth_port (p : List Int) : (portD p).depth ≤ 2 := by
  have := depth_ints p
  simp only [portD, PyData.depth]; omega
theorem any_port (qs : List (List Int)) (p : List Int) : ((qs.map portD).any fun y => PyData.eqv y (portD p)) = decide (p ∈ qs) := by
  induction qs with
  | nil => simp
  | cons q qs ih =>
    simp only [List.map_cons, List.any_cons, ih, eqv_port, List.mem_cons]
    by_cases h : p = q
    · subst h; simp
    · simp [h, Ne.symm h]
section
variable {prog : Program} {w : World} {A : Around} {E : Value → Shared → Prop} {s : Shared} {Q : Value → Shared → Prop}
theorem readsPortList {h : Heap} {c : Addr} {vs : List Value} {qs : List (List Int)} (l : h.IsList c vs.toArray) (i : PortsAre h vs qs) : ∃ as, Reads h (.ref c) (.list (qs.map portD)) as := by
  obtain ⟨o, ho, hc, n, hd⟩ := l
  obtain ⟨as, r⟩ := readsPorts i
  exact ⟨_, .list ho hc hd r⟩
theorem depth_ports : ∀ ps : List (List Int), PyData.depthAll (ps.map portD) ≤ 2
  | [] => by simp [PyData.depthAll]
  | p :: ps => by have := depth_ports ps; have := depth_port p; simp only [List.map_cons, PyData.depthAll]; omega
theorem shaped_port (p : List Int) : SeqAt.shaped (portD p) = true := by
  have := depth_port p
  simp only [SeqAt.shaped, Bool.and_eq_true, decide_eq_true_eq]
  exact ⟨by simp only [portD, PyData.canLay0, lay_ints], by omega⟩
theorem shaped_ports (ps : List (List Int)) : SeqAt.shaped (.list (ps.map portD)) = true := by
  have := depth_ports ps
  simp only [SeqAt.shaped, Bool.and_eq_true, decide_eq_true_eq]
  exact ⟨by simp only [PyData.canLay0, lay_ports], by simp only [PyData.depth]; omega⟩
theorem notInPorts {a c : Addr} {vs us : List Value} {qs : List (List Int)} {p : List Int} (l : s.heap.IsList c vs.toArray) (i : PortsAre s.heap vs qs) (lx : s.heap.IsList a us.toArray) (ix : IntsAre us p) (hu : A.units + 64 < cLine)
    (h : Q (.bool (!decide (p ∈ qs))) s) : wpAny (model prog w) A (compareOp .NotIn (.ref a) (.ref c)) Q E s := by
  obtain ⟨as, rc⟩ := readsPortList l i
  refine SeqAt.notIn_list_reads rc (readsPort lx ix) (lay_ports qs) (by simp only [portD, PyData.canLay0, lay_ints]) ?_ (by rw [any_port]; exact h)
  have := depth_port p
  omega
theorem nePorts {a b : Addr} {vs us : List Value} {p q : List Int} (l : s.heap.IsList a vs.toArray) (i : IntsAre vs p) (lx : s.heap.IsList b us.toArray) (ix : IntsAre us q) (hu : A.units + 64 < cLine)
    (h : Q (.bool (!decide (p = q))) s) : wpAny (model prog w) A (compareOp .NotEq (.ref a) (.ref b)) Q E s :=
  SeqAt.compareNe_shaped (readsPort l i) (readsPort lx ix) (shaped_port p) (shaped_port q) hu (by rw [eqv_port]; exact h)
theorem eqvNil (qs : List (List Int)) : PyData.eqv (.list (qs.map portD)) (.list []) = decide (qs = []) := by
  cases qs <;> simp [PyData.eqv, PyData.eqvAll]
theorem eqNilPorts {a b : Addr} {vs : List Value} {qs : List (List Int)} (l : s.heap.IsList a vs.toArray) (i : PortsAre s.heap vs qs) (lx : s.heap.IsList b #[]) (hu : A.units + 64 < cLine)
    (h : Q (.bool (decide (qs = []))) s) : wpAny (model prog w) A (compareOp .Eq (.ref a) (.ref b)) Q E s := by
  obtain ⟨as, rc⟩ := readsPortList l i
  obtain ⟨o, ho, hc, n, hd⟩ := lx
  exact SeqAt.compareEq_shaped rc (.list ho hc hd .nil) (shaped_ports qs) rfl hu (by rw [eqvNil]; exact h)
end
end

section
def lackStep (code : Int) (other : List (List Int)) (due : List (List Int)) (one : List Int) : List (List Int) :=
  if one ∈ other then due
  else if due = [] ∨ due.getLast? ≠ some one ∨ (other.filter fun two => aheadP one two code) = [] then due ++ [one] else due
def lacksP (code : Int) (row other : List (List Int)) : List (List Int) := row.foldl (lackStep code other) []

theorem PortsAre.last {h : Heap} {vs : List Value} {ps : List (List Int)} (x : PortsAre h vs ps) (hn : ps ≠ []) : ∃ vs' a us ps' p, vs = vs' ++ [.ref a] ∧ ps = ps' ++ [p] ∧ h.IsList a us.toArray ∧ IntsAre us p := by
  have hl := x.length
  rcases List.eq_nil_or_concat ps with e | ⟨ps', p, e⟩
  · exact absurd e hn
  rcases List.eq_nil_or_concat vs with e' | ⟨vs', v, e'⟩
  · subst e e'; simp at hl
  subst e e'
  have hl' : vs'.length = ps'.length := by simpa using hl
  obtain ⟨a, us, p', rfl, hp, l, i, _⟩ := x.get (i := vs'.length) (v := v) (by simp)
  have : p' = p := by rw [hl'] at hp; simpa using hp.symm
  subst this
  exact ⟨vs', a, us, ps', p', by simp, by simp, l, i⟩

theorem take_filter_t {α : Type} {f : α → Bool} {l : List α} {j : Nat} {x : α} (h : l[j]? = some x) (hf : f x = true) : (l.take (j + 1)).filter f = (l.take j).filter f ++ [x] := by
  rw [List.take_add_one, h, List.filter_append]; simp [hf]
theorem take_filter_f {α : Type} {f : α → Bool} {l : List α} {j : Nat} {x : α} (h : l[j]? = some x) (hf : f x = false) : (l.take (j + 1)).filter f = (l.take j).filter f := by
  rw [List.take_add_one, h, List.filter_append]; simp [hf]
local macro_rules | `(tactic| walk_at "stopl") => `(tactic| ((fail_if_success (with_reducible show wpAny _ _ (compareOp CmpOp.NotIn _ _) _ _ _)); (fail_if_success (with_reducible show wpAny _ _ (compareOp CmpOp.Eq (Value.ref _) (Value.ref _)) _ _ _)); (fail_if_success (with_reducible show wpAny _ _ (subscriptTail _ _ (Value.ref _) (Value.int _ _)) _ _ _)); (fail_if_success (with_reducible show wpAny _ _ (call (Value.builtin "list.append") _) _ _ _)); (fail_if_success (with_reducible show TurnG _ _ _ _ _ _ _ _ _)); (fail_if_success (with_reducible show PostG _ _ _ _ _ _ _ _ _ _ _)); (fail_if_success (with_reducible show EltPost _ _ _ _ _ _ _ _ _))))
local macro_rules | `(tactic| walk_at "gol") => `(tactic| repeat' (walk_at "stop"; walk_at "stopl"; first | walk_at "mine" | walk1 | (dsimp only; walk1)))
theorem lacks_ct {w mean mg mb outer A₀ base h₀ L m cs} {dp un : Nat} {gd cn a ccd cl} {s : Shared} {Q E} {news}
    (C : Cal w mean mg mb outer A₀ base h₀ L s.heap m cs) (N : News h₀ L s.heap news) (hd : dp + 20 < recursionLimit) (hu : un + 100 < cLine)
    {a1 a2 : Addr} {vs1 vs2 : List Value} {ps qs : List (List Int)} {code : Int} {tc : Tok} (l1 : s.heap.IsList a1 vs1.toArray) (i1 : PortsAre s.heap vs1 ps) (l2 : s.heap.IsList a2 vs2.toArray) (i2 : PortsAre s.heap vs2 qs) (hlen : ps.length < 900) (hlen2 : qs.length < 900)
    (ret : ∀ r us e h' tk', Fr h₀ L h' m → News h₀ L h' ((r, listOf us.toArray e) :: news) → Keeps s.heap h' → s.heap.get? r = none → PortsAre s.heap us (lacksP code ps qs) → Q (.ref r) { s with heap := h', toks := tk' }) :
    wpAny (model PP w) (ktrTop dp un gd cn cs L a ccd cl outer) (call (.ref 150) [.ref a1, .ref a2, .int code tc]) Q E s := by
  have F := C.F
  refine enterC0 C _ [(Str.ofString "row", .ref a1), (Str.ofString "other", .ref a2), (Str.ofString "code", .int code tc)] (fun L' => [(Str.ofString "one", L' + 1 + 1), (Str.ofString "code", L' + 1)]) (fun y => if y = Str.ofString "other" then some (.ref a2) else if y = Str.ofString "row" then some (.ref a1) else none) (fun y => if y = Str.ofString "code" then some (.int code tc) else none)
    (by k_is) (by k_is) (by omega) rfl rfl (by decide) (fun _ => rfl) (fun _ => rfl) (fun _ => rfl) rfl rfl rfl ?_
  intro L' h₁ tk cells B' F' X' T' N' Y hL'
  have l1' := l1
  have l2s := l2
  clear C
  obtain ⟨oo, co, rfl, hoo, hco⟩ := Y.two
  replace hco : co.data = .cell (some (.int code tc)) := hco
  replace hoo : oo.data = .cell none := hoo
  walk_at "gol"
  rename_i r0 _ _ _ _ _
  rename _ ∧ _ => l2'
  rename Fr s.heap _ _ _ => F2
  rename News s.heap _ _ _ => N2
  refine wpAny_For ?_
  walk_at "gol"
  dsimp only
  refine forG (σ := List Value × Nat × Obj) (L := L') (fun _ => s.heap) (fun c => [(r0, listOf c.1.toArray c.2.1), (L' + 1 + 1, c.2.2), (L' + 1, co)]) (fun _ => [(Str.ofString "due", .ref r0), (Str.ofString "other", .ref a2)])
    (fun i c => (∃ v0, c.2.2.data = .cell v0) ∧ ∃ ds, PortsAre s.heap c.1 ds ∧ ds.length ≤ i ∧ lacksP code (ps.take i) qs = ds) ([], 0, oo) rfl (F2.lst l1') F2 N2 (fun p hp => hp) (fun _ _ h m _ F _ => F.lst l1') ?_ ⟨rfl, rfl, trivial⟩ ⟨⟨_, hoo⟩, [], .nil, Nat.le_refl _, rfl⟩ PassesOwn.never ?_ ?_
  · rintro i ⟨us, e, ob⟩ ⟨⟨v0, hv0⟩, _⟩ p hp
    rcases List.mem_cons.mp hp with rfl | hp
    · exact .inl (by simp)
    · rcases List.mem_cons.mp hp with rfl | hp
      · exact .inr (by intro vs; dsimp only at hv0 ⊢; rw [hv0]; simp)
      · rw [List.mem_singleton.mp hp]
        exact .inr (by intro vs; dsimp only; rw [hco]; simp)
  · rintro ⟨us, e, ob⟩ i v m' h tk' I io hv ⟨⟨v0, hv0⟩, ds, hds, hdl, hw⟩ F' N' hsep
    dsimp only at hv0 hds hdl hw F' N' hsep ⊢
    obtain ⟨a3, us3, p, rfl, hpi, hl3, hi3, hp3⟩ := i1.get hv
    walk_at "gol"
    refine storeX_C F' N' rfl (.tail (Ne.symm (hsep (L' + 1 + 1, ob) (.tail _ (.head _)))) (.tail (Nat.ne_of_gt l2'.1) (.head (fun p hp => by rw [List.mem_singleton.mp hp]; exact Nat.ne_of_lt (Nat.lt_succ_self _))))) hv0 ?_ rfl rfl
    intro h2 ob' F3 N3 hob'
    clear F' N' F2 N2
    walk_at "gol"
    refine notInPorts (F3.lst l2s) (i2.keeps F3.keep) (F3.lst hl3) hi3 (show un + 3 + 64 < cLine by omega) ?_
    have hst : lacksP code (ps.take (i + 1)) qs = lackStep code qs ds p := by
      unfold lacksP at hw ⊢
      rw [List.take_add_one, hpi, List.foldl_append, hw]
      rfl
    by_cases hin : p ∈ qs
    · simp only [hin, decide_true, Bool.not_true]
      walk_at "gol"
      refine TurnG.intro (us, e, ob') F3 N3 (fun p hp => .tail _ hp) (.head _) ⟨rfl, rfl, trivial⟩ ⟨⟨_, hob'⟩, ds, hds, Nat.le_succ_of_le hdl, ?_⟩
      rw [hst, lackStep, if_pos hin]
    simp only [hin, decide_false, Bool.not_false]
    have keepOn : ∀ (h' : Heap) (tk2 : Nat) (m2 : Str → Option Value) (news' : List (Addr × Obj)) (e2 : Nat) (us2 : List Value) (ds2 : List (List Int)), Fr s.heap L' h' m2 → News s.heap L' h' news' → (∀ p ∈ [(r0, listOf us2.toArray e2), (L' + 1 + 1, ob'), (L' + 1, co)], p ∈ news') → (I, io) ∈ news' → Ok [(Str.ofString "due", .ref r0), (Str.ofString "other", .ref a2)] m2 → PortsAre s.heap us2 ds2 → ds2.length ≤ i + 1 → lackStep code qs ds p = ds2 →
        ∀ s' : Shared, TurnG L' I (fun _ => s.heap) (fun c : List Value × Nat × Obj => [(r0, listOf c.1.toArray c.2.1), (L' + 1 + 1, c.2.2), (L' + 1, co)]) (fun _ => [(Str.ofString "due", .ref r0), (Str.ofString "other", .ref a2)]) (fun c => (∃ v0, c.2.2.data = .cell v0) ∧ ∃ ds, PortsAre s.heap c.1 ds ∧ ds.length ≤ i + 1 ∧ lacksP code (ps.take (i + 1)) qs = ds) io s' { s' with heap := h', toks := tk2 } := by
      intro h' tk2 m2 news' e2 us2 ds2 f n hl hI ok hp hdl2 hs s'
      exact TurnG.intro (us2, e2, ob') f n hl hI ok ⟨⟨_, hob'⟩, ds2, hp, hdl2, by rw [hst, hs]⟩
    walk_at "gol"
    rename Fr s.heap _ _ _ => F4
    rename News s.heap _ _ _ => N4
    refine eqNilPorts (by is_list) (hds.keeps F4.keep) (by is_list) (show un + 3 + 64 < cLine by omega) ?_
    have hul : us.length = ds.length := hds.length
    have hil : i < ps.length := (List.getElem?_eq_some_iff.mp hpi).1
    rename _ ∧ _ => l4
    have hl0 := Nat.ne_of_gt l4.2.1
    have hr0 : ∀ p ∈ [(L' + 1 + 1, ob'), (L' + 1, co)], p.1 ≠ r0 := by
      intro p hp
      rcases List.mem_cons.mp hp with rfl | hp
      · exact Nat.ne_of_lt l2'.1
      · rw [List.mem_singleton.mp hp]; exact Nat.ne_of_lt l2'.2
    by_cases hnil : ds = []
    · simp only [hnil, decide_true]
      walk_at "gol"
      refine appendN F4 N4 (.tail hl0 (.tail (Ne.symm (hsep (r0, _) (.head _))) (.head hr0))) (by omega) ?_
      intro h5 F5 N5
      walk_at "gol"
      exact keepOn _ _ _ _ _ (us ++ [.ref a3]) (ds ++ [p]) F5 N5 (fun p hp => .tail _ (.tail _ hp)) (.tail _ (.head _)) ⟨rfl, rfl, trivial⟩ (hds.append (.cons hl3 hi3 hp3 .nil)) (by simp; omega) (by rw [lackStep, if_neg hin, if_pos (.inl hnil)]) _
    simp only [hnil, decide_false]
    obtain ⟨us', a4, us4, ds', q, hus, hds', hl4, hi4⟩ := hds.last hnil
    walk_at "gol"
    refine itemLast (vs := us') (by rw [← hus]; is_list) rfl (by rw [hus] at hul; simp at hul; omega) ?_
    walk_at "gol"
    · rename q = p => hq
      subst hq
      have ha2 : a2 ≠ L' := by
        rintro rfl
        obtain ⟨o, ho, _⟩ := l2s
        rw [hL'] at ho; cases ho
      have ha3 : ∀ p ∈ [(I, io), (r0, listOf us.toArray e), (L' + 1 + 1, ob'), (L' + 1, co)], p.1 ≠ a2 := by
        intro p hp e
        obtain ⟨o, ho, _⟩ := l2s
        have := (N4 p (.tail _ hp)).2.2
        rw [e, ho] at this; cases this
      refine compT (σ := Unit) (L := L') (fun _ => [(I, io), (r0, listOf us.toArray e), (L' + 1 + 1, ob'), (L' + 1, co)]) (fun i _ ys => PortsAre s.heap ys ((qs.take i).filter fun two => aheadP q two code) ∧ ys.length ≤ i) () rfl rfl (F4.lst l2s) ha2 F4 N4 (fun p hp => .tail _ hp) (fun _ => rfl) ha3 (by decide) rfl rfl ?_ ⟨.nil, Nat.le_refl _⟩ ?_ ?_
      · have := i2.length; omega
      · intro c' j v ys h6 tk6 keep C mC hv6 hP6 F6 N6 hns hx6 hC hsep6
        obtain ⟨a5, us5, p5, rfl, hpi5, hl5, hi5, hp5⟩ := i2.get hv6
        have hc1 : h6.IsCell (L' + 1) (some (.int code tc)) := ⟨co, (N6 _ (List.mem_append_right _ (.tail _ (.tail _ (.tail _ (.head _)))))).1, hco⟩
        have hc2 : h6.IsCell (L' + 1 + 1) (some (.ref a3)) := ⟨ob', (N6 _ (List.mem_append_right _ (.tail _ (.tail _ (.head _))))).1, hob'⟩
        try dsimp only
        refine wpAny_tests_one ?_
        walk_at "gol"
        refine ahead_ct ⟨B', F6, X', T', rfl⟩ N6 (show dp + 1 + 10 < recursionLimit by omega) (F6.lst hl3) hi3 (F6.lst hl5) hi5 (by have := hp3.1; omega) (by have := hp5.1; omega) ?_
        intro h7 tk7 F7 N7 k7
        cases hah : aheadP q p5 code with
        | true =>
          have hns7 : h7.Ns C mC := hns.at' fun o e => k7 _ o e
          walk_at "gol"
          · exact hP6.2
          · refine EltPost.intro () F7 N7 (fun p hp => List.mem_append_left _ hp) (fun p hp => List.mem_append_right _ hp) ⟨?_, ?_⟩
            · rw [take_filter_t hpi5 hah]
              exact hP6.1.append (.cons hl5 hi5 hp5 .nil)
            · have := hP6.2; simp; omega
        | false =>
          walk_at "gol"
          refine EltPost.intro () F7 N7 (fun p hp => List.mem_append_left _ hp) (fun p hp => List.mem_append_right _ hp) ⟨?_, ?_⟩
          · rw [take_filter_f hpi5 hah]
            exact hP6.1
          · have := hP6.2; omega
      · intro c' ys D e6 h6 tk6 hP6 F6 N6 hD6
        rw [i2.length, List.take_length] at hP6
        walk_at "gol"
        rename Fr s.heap _ _ _ => F8
        rename News s.heap _ _ _ => N8
        refine eqNilPorts (by is_list) (hP6.1.keeps F8.keep) (by is_list) (show un + 3 + 64 < cLine by omega) ?_
        have hDr : D ≠ r0 := Nat.ne_of_gt (hD6 (r0, _) (.tail _ (.tail _ (.head _))))
        rename _ ∧ _ => l8
        have hl8 := Nat.ne_of_gt l8.2.2.1
        by_cases hno : (qs.filter fun two => aheadP q two code) = []
        · simp only [hno, decide_true]
          walk_at "gol"
          refine appendN F8 N8 (.tail hl8 (.tail hDr (.tail (Ne.symm (hsep (r0, _) (.head _))) (.head hr0)))) (by omega) ?_
          intro h5 F5 N5
          walk_at "gol"
          exact keepOn _ _ _ _ _ (us ++ [.ref a3]) (ds ++ [q]) F5 N5 (fun p hp => .tail _ (.tail _ (.tail _ hp))) (.tail _ (.tail _ (.head _))) ⟨rfl, rfl, trivial⟩ (hds.append (.cons hl3 hi3 hp3 .nil)) (by simp; omega) (by rw [lackStep, if_neg hin, if_pos (.inr (.inr hno))]) _
        · simp only [hno, decide_false]
          walk_at "gol"
          exact keepOn _ _ _ _ _ us ds F8 N8 (fun p hp => .tail _ (.tail _ (.tail _ hp))) (.tail _ (.tail _ (.head _))) ⟨rfl, rfl, trivial⟩ hds (by omega) (by rw [lackStep, if_neg hin, if_neg]; rintro (x | x | x); exact hnil x; exact x (by rw [hds']; simp); exact hno x) _
    rename ¬ q = p => hq
    refine appendN F4 N4 (.tail hl0 (.tail (Ne.symm (hsep (r0, _) (.head _))) (.head hr0))) (by omega) ?_
    intro h5 F5 N5
    walk_at "gol"
    exact keepOn _ _ _ _ _ (us ++ [.ref a3]) (ds ++ [p]) F5 N5 (fun p hp => .tail _ (.tail _ hp)) (.tail _ (.head _)) ⟨rfl, rfl, trivial⟩ (hds.append (.cons hl3 hi3 hp3 .nil)) (by simp; omega) (by rw [lackStep, if_neg hin, if_pos (.inr (.inl (by rw [hds']; simpa using hq)))]) _
  · rintro ⟨us, e, ob⟩ m' h tk ⟨⟨v0, hv0⟩, ds, hds, hdl, hw⟩ F' N'
    dsimp only at hv0 hds hdl hw F' N' ⊢
    walk_at "gol"
    rw [i1.length, List.take_length] at hw
    rw [hw] at ret
    exact ret _ _ _ _ _ (frKeeps F F'.keep) (newsNew F (newsKeeps N F'.keep) (N' _ (.head _)).1 (N' _ (.head _)).2.2) F'.keep (N' _ (.head _)).2.2 hds
end

section
section
variable {prog : Program} {w : World} {A : Around} {E : Value → Shared → Prop} {s : Shared} {env : Env} {L : Addr} {m : Str → Option Value}
  {elt iter : Expr} {x : Str} {px : Pos} {ifs : List Expr} {scope : Scope} {pos : Pos} {cl : List (Str × Addr)} {Q : Value → Shared → Prop}
def EltPostG {σ : Type} (L : Addr) (m : Str → Option Value) (G : σ → Heap) (Led : σ → List (Addr × Obj)) (P : σ → List Value → Prop) (keep : List (Addr × Obj)) (s : Shared) (ys : List Value) (s' : Shared) : Prop :=
  ∃ c' h' tk' news', s' = { s with heap := h', toks := tk' } ∧ Fr (G c') L h' m ∧ News (G c') L h' news' ∧ (∀ p ∈ keep, p ∈ news') ∧ (∀ p ∈ Led c', p ∈ news') ∧ P c' ys
theorem EltPostG.intro {σ : Type} {G : σ → Heap} {Led : σ → List (Addr × Obj)} {P : σ → List Value → Prop} {keep : List (Addr × Obj)} {ys : List Value} (c' : σ) {h' : Heap} {tk' : Nat} {news' : List (Addr × Obj)} (F : Fr (G c') L h' m) (N : News (G c') L h' news') (h1 : ∀ p ∈ keep, p ∈ news') (h2 : ∀ p ∈ Led c', p ∈ news') (h3 : P c' ys) :
    EltPostG L m G Led P keep s ys { s with heap := h', toks := tk' } := ⟨c', h', tk', news', rfl, F, N, h1, h2, h3⟩
theorem compCore {σ : Type} {l : Addr} {vs : List Value} {news : List (Addr × Obj)} (RR : Value → Addr → Result → Shared → Prop) (G : σ → Heap) (Led : σ → List (Addr × Obj)) (P : Nat → σ → List Value → Prop) (c₀ : σ) (hL : env.locals = L)
    (hh : A.handled = none) (hls : s.heap.IsList l vs.toArray) (hl : ∀ i c ys h, P i c ys → Fr (G c) L h m → News (G c) L h (Led c) → h.IsList l vs.toArray) (F : Fr (G c₀) L s.heap m) (N : News (G c₀) L s.heap news) (hN : ∀ p ∈ Led c₀, p ∈ news) (hadr : ∀ c, (Led c).map (·.1) = (Led c₀).map (·.1))
    (hcell : ∀ y ∈ scope.names, y.2 ≠ .cell) (hkind : scope.kind = .function) (hx : scope.names.lookup x = some .local) (hsz : vs.length < 2 ^ 20)
    (hp : P 0 c₀ []) (hG : ∀ i c ys, P i c ys → ∀ b, (G c₀).get? b = none → (G c).get? b = none)
    (turn : ∀ c i v ys h tk keep C mC, vs[i]? = some v → P i c ys → Fr (G c) L h m → News (G c) L h (keep ++ Led c) → h.Ns C mC → mC x = some v → (∃ oC, (C, oC) ∈ keep) → (∀ p ∈ keep, ∀ q ∈ Led c, p.1 ≠ q.1) →
      wpAny (model prog w) A (forIn ifs true fun c r => if r = true then do let ok ← isTrue c (compEnvC scope cl C env) (eval c (compEnvC scope cl C env)); pure (ForInStep.yield ok) else pure (ForInStep.yield r))
        (fun ok s' => if ok = true then wpAny (model prog w) A (eval elt (compEnvC scope cl C env)) (fun y s'' => ys.length ≤ i ∧ EltPostG L m G Led (P (i + 1)) keep s (ys ++ [y]) s'') (fun _ _ => False) s' else EltPostG L m G Led (P (i + 1)) keep s ys s') (fun _ _ => False) { s with heap := h, toks := tk })
    (done : ∀ c ys D e h tk C mC, P vs.length c ys → Fr (G c) L h m → News (G c) L h ((D, listOf ys.toArray e) :: Led c) → (∀ p ∈ news, p.1 < D) → h.Ns C mC → C ≠ L → (G c).get? C = none → (∀ p ∈ (D, listOf ys.toArray e) :: Led c, p.1 ≠ C) → RR (.ref D) C (.ok .next) { s with heap := h, toks := tk }) :
    wpAny (model prog w) A (pyIter (.ref l)) (fun it s₂ => wpAny (model prog w) A (newList []) (fun acc s₃ => wpAny (model prog w) A (newFunctionEnv scope env.globals cl [] env.qual none .none (some env)) (fun cenv s₄ =>
      codeAny (model prog w) A (.compStart (.ListComp elt [⟨.Name x px, iter, ifs, 0⟩] scope pos) 0 it acc { cenv with scope := relabel scope env }) (RR acc cenv.locals) s₄) E s₃) E s₂) E s := by
  subst hL
  obtain ⟨ol, hol, _⟩ := id hls
  have hlt : @LT.lt Nat _ l s.heap.objs.size := Heap.lt_size hol
  have hne : l ≠ s.heap.objs.size := Nat.ne_of_lt hlt
  have hlen : vs.toArray.size = vs.length := List.size_toArray ..
  have adr : ∀ c, ∀ p ∈ Led c, ∃ q ∈ Led c₀, q.1 = p.1 := fun c p hp => by
    have : p.1 ∈ (Led c₀).map (·.1) := by rw [← hadr c]; exact List.mem_map_of_mem hp
    exact List.mem_map.mp this
  have ltS : ∀ c, ∀ p ∈ Led c, @LT.lt Nat _ p.1 s.heap.objs.size := fun c p hp => by
    obtain ⟨q, hq, e⟩ := adr c p hp
    rw [← e]; exact Heap.lt_size (N q (hN q hq)).1
  refine wpAny_pyIter_list hls ?_
  refine wpAny_newObj_type (wpAny_newFunctionEnv hcell (by intro y hy; simp at hy) (fun h₁ hns₁ hsb₁ => ?_) hkind)
  dsimp only at hns₁ hsb₁ ⊢
  have hLlt : @LT.lt Nat _ env.locals s.heap.objs.size := F.ns.lt
  generalize hH1 : s.heap.push _ = H1 at hns₁ hsb₁ ⊢
  have sz1 : H1.objs.size = s.heap.objs.size + 1 := by rw [← hH1, Heap.size_push]
  have k1 : ∀ b o, s.heap.get? b = some o → H1.get? b = some o := fun b o e => hH1 ▸ Heap.get?_push_of_some _ e
  have hit1 : H1.IsListIter s.heap.objs.size l 0 := by rw [← hH1]; exact ⟨_, Heap.get?_push_size _ rfl, rfl, rfl⟩
  clear hH1
  generalize hH2 : H1.push _ = H2 at hns₁ hsb₁ ⊢
  have sz2 : H2.objs.size = s.heap.objs.size + 2 := by rw [← hH2, Heap.size_push, sz1]
  have k2 : ∀ b o, H1.get? b = some o → H2.get? b = some o := fun b o e => hH2 ▸ Heap.get?_push_of_some _ e
  have hD2 : H2.get? H1.objs.size = some (listOf ([] : List Value).toArray 0) := by rw [← hH2]; exact Heap.get?_push_size _ rfl
  clear hH2
  have hDI : H1.objs.size ≠ s.heap.objs.size := by rw [sz1]; exact Nat.succ_ne_self _
  have old : ∀ b o, H2.get? b = some o → h₁.get? b = some o := fun b o e => hsb₁.extBut b o (Nat.ne_of_lt (Heap.lt_size e)) (Heap.get?_push_of_some _ e)
  generalize hI : s.heap.objs.size = I at *
  generalize hD : H1.objs.size = D at *
  generalize hC : H2.objs.size = C at *
  have W := Walks.list (prog := prog) (w := w) hh I l hne vs.toArray
  rw [hlen] at W
  have hnew₀ : ∀ b, I ≤ b → (G c₀).get? b = none := fun b hb => by
    cases q : (G c₀).get? b with
    | none => rfl
    | some o => have := Heap.lt_size (F.keep b o q); rw [hI] at this; exact absurd hb (Nat.not_le.mpr this)
  have F₁ : Fr (G c₀) env.locals h₁ m := frKeeps F fun b o e => old b o (k2 b o (k1 b o e))
  have N₁ : News (G c₀) env.locals h₁ ((D, listOf ([] : List Value).toArray 0) :: Led c₀) := by
    intro p hp
    rcases List.mem_cons.mp hp with rfl | hp
    · exact ⟨old _ _ hD2, neN (by omega), hnew₀ D (by omega)⟩
    · exact ⟨old _ _ (k2 _ _ (k1 _ _ (N p (hN p hp)).1)), (N p (hN p hp)).2⟩
  have hst₁ : h₁.IsListIter I l 0 ∧ h₁.IsList l vs.toArray := ⟨hit1.at fun o e => old _ _ (k2 _ _ e), hls.at fun o e => old _ _ (k2 _ _ (k1 _ _ e))⟩
  have loop : ∀ s₃ : Shared, s₃ = { s with heap := h₁, toks := s.toks + ([] : List (Str × Value)).length } →
      codeAny (model prog w) A (.compLoop (.ListComp elt [⟨.Name x px, iter, ifs, 0⟩] scope pos) 0 (.ref I) (.ref D) (compEnvC scope cl C env)) (RR (.ref D) C) s₃ := by
    rintro s₃ rfl
    refine codeAny_compLoop_tests (fun k s' => ∃ c ys e h tk mC i, s' = { s with heap := h, toks := tk } ∧ (h.IsListIter I l i ∧ h.IsList l vs.toArray) ∧ Fr (G c) env.locals h m ∧ News (G c) env.locals h ((D, listOf ys.toArray e) :: Led c) ∧ h.Ns C mC ∧ P i c ys ∧ ys.length ≤ i ∧ i ≤ vs.length ∧ k = vs.length + 1 - i) ?_ (vs.length + 1)
      ⟨c₀, [], 0, h₁, _, _, 0, rfl, hst₁, F₁, N₁, hns₁, hp, Nat.le_refl _, Nat.zero_le _, rfl⟩
    rintro k s' ⟨c, ys, e, h, tk, mC, i, rfl, hst', F', N', hns', hP, hyl, hi, rfl⟩
    have hnew : ∀ b, I ≤ b → (G c).get? b = none := fun b hb => hG i c ys hP b (hnew₀ b hb)
    have ledI : ∀ p ∈ (D, listOf ys.toArray e) :: Led c, p.1 ≠ I := fun p hp => by
      rcases List.mem_cons.mp hp with rfl | hp
      · exact hDI
      · exact Nat.ne_of_lt (ltS c p hp)
    have ledC : ∀ p ∈ (D, listOf ys.toArray e) :: Led c, p.1 ≠ C := fun p hp => by
      rcases List.mem_cons.mp hp with rfl | hp
      · exact neN (by omega)
      · have := ltS c p hp; exact neN (by omega)
    have step : ∀ h₂ : Heap, (∀ b o, b ∉ [I] → h.get? b = some o → h₂.get? b = some o) → Fr (G c) env.locals h₂ m ∧ News (G c) env.locals h₂ ((D, listOf ys.toArray e) :: Led c) ∧ h₂.Ns C mC := fun h₂ hk => by
      have ni : ∀ b, b ≠ I → b ∉ [I] := fun b hb hm => hb (List.mem_singleton.mp hm)
      refine ⟨⟨F'.ns.at' fun o e => hk _ o (ni _ (neN (by omega))) e, fun b o e => hk b o (ni b fun q => ?_) (F'.keep b o e), F'.above⟩, fun p hp => ⟨hk _ _ (ni _ (ledI p hp)) (N' p hp).1, (N' p hp).2⟩, hns'.at' fun o e => hk _ o (ni _ (neN (by omega))) e⟩
      rw [q, hnew I (Nat.le_refl _)] at e; cases e
    by_cases hlt' : i < vs.length
    · refine W.item i _ _ _ hlt' hst' fun v h₂ tk₂ hv hst₂ hk₂ => ?_
      obtain ⟨F₂, N₂, hns₂⟩ := step h₂ hk₂
      refine wpAny_assign_Name (wpAny_storeName_local (lookup_relabel_local hx) hns₂ (fun h₃ hns₃ hs₃ => ?_) (by simp [compEnvC, relabel, hkind]))
      have hs₃' : Heap.SameBut C h₂ h₃ := hs₃
      have F₃ : Fr (G c) env.locals h₃ m := F₂.change hs₃' (neN (by omega)) (hnew C (by omega))
      have N₃ : News (G c) env.locals h₃ ((D, listOf ys.toArray e) :: Led c) := fun p hp => ⟨(hs₃'.2 _ (ledC p hp)).trans (N₂ p hp).1, (N₂ p hp).2⟩
      have hst₃ : h₃.IsListIter I l (i + 1) ∧ h₃.IsList l vs.toArray := ⟨hst₂.1.at fun o e => (hs₃'.2 _ (neN (by omega))).trans e, hst₂.2.at fun o e => (hs₃'.2 _ (neN (by omega))).trans e⟩
      obtain ⟨⟨io, hio, hioc, hiod⟩, ⟨lo, hlo, hlr⟩⟩ := id hst₃
      obtain ⟨oC, es, ep, hoC, hCr⟩ := id hns₃
      have hoC' : h₃.get? C = some oC := hoC
      have hv' : vs[i]? = some v := by simpa using hv
      let keep : List (Addr × Obj) := [(I, io), (C, oC), (D, listOf ys.toArray e)]
      have NK : News (G c) env.locals h₃ keep := by
        intro p hp
        rcases List.mem_cons.mp hp with rfl | hp
        · exact ⟨hio, neN (by omega), hnew I (Nat.le_refl _)⟩
        · rcases List.mem_cons.mp hp with rfl | hp
          · exact ⟨hoC', neN (by omega), hnew C (by omega)⟩
          · rcases List.mem_singleton.mp hp with rfl
            exact N₃ _ (.head _)
      have sep : ∀ p ∈ keep, ∀ q ∈ Led c, p.1 ≠ q.1 := by
        intro p hp q hq
        have hql := ltS c q hq
        rcases List.mem_cons.mp hp with rfl | hp
        · exact neN (by omega)
        · rcases List.mem_cons.mp hp with rfl | hp
          · exact neN (by omega)
          · rcases List.mem_singleton.mp hp with rfl
            exact neN (by omega)
      have N₄ : News (G c) env.locals h₃ (keep ++ Led c) := fun p hp => (List.mem_append.mp hp).elim (NK p) fun q => N₃ p (.tail _ q)
      -- behind the element
      have kept : ∀ (h' : Heap) (news' : List (Addr × Obj)) (c' : σ) (ys' : List Value), Fr (G c') env.locals h' m → News (G c') env.locals h' news' → (∀ p ∈ keep, p ∈ news') → (∀ p ∈ Led c', p ∈ news') → P (i + 1) c' ys' → (h'.IsListIter I l (i + 1) ∧ h'.IsList l vs.toArray) ∧ h'.Ns C (fun y => if y = x then some v else mC y) ∧ h'.get? D = some (listOf ys.toArray e) := by
        intro h' news' c' ys' Fx Nx hk hk2 hP'
        have g : ∀ p ∈ keep, h'.get? p.1 = some p.2 := fun p hp => (Nx p (hk p hp)).1
        exact ⟨⟨⟨io, g (I, io) (by simp [keep]), hioc, hiod⟩, hl _ c' ys' h' hP' Fx fun p hp => Nx p (hk2 p hp)⟩, ⟨oC, es, ep, g (C, oC) (by simp [keep]), hCr⟩, g (D, _) (by simp [keep])⟩
      refine wpAny_mono (turn c i v ys h₃ _ keep C _ hv' hP F₃ N₄ hns₃ (if_pos rfl) ⟨oC, by simp [keep]⟩ sep) (fun ok s₅ hs₅ => ?_) fun _ _ z => z.elim
      cases ok with
      | false =>
        simp only [Bool.false_eq_true, if_false] at hs₅ ⊢
        obtain ⟨c', h', tk', news', rfl, Fx, Nx, hk1, hk2, hP'⟩ := hs₅
        obtain ⟨a1, a2, a3⟩ := kept h' news' _ _ Fx Nx hk1 hk2 hP'
        refine ⟨vs.length + 1 - (i + 1), by omega, c', ys, e, h', tk', _, i + 1, rfl, a1, Fx, ?_, a2, hP', by omega, hlt', rfl⟩
        intro p hp
        rcases List.mem_cons.mp hp with rfl | hp
        · exact Nx _ (hk1 _ (by simp [keep]))
        · exact Nx _ (hk2 _ hp)
      | true =>
        simp only [if_true] at hs₅ ⊢
        refine wpAny_mono hs₅ (fun y s₆ hs₆ => ?_) fun _ _ z => z.elim
        obtain ⟨hyl', c', h', tk', news', rfl, Fx, Nx, hk1, hk2, hP'⟩ := hs₆
        obtain ⟨a1, a2, a3⟩ := kept h' news' _ _ Fx Nx hk1 hk2 hP'
        refine append_at a3 (fun h'' hsD hoD => ?_) (hsz := by simp only [List.size_toArray]; exact Nat.le_trans (Nat.le_trans hyl (Nat.le_of_lt (Nat.lt_trans hlt' hsz))) (by decide))
        refine ⟨vs.length + 1 - (i + 1), by omega, c', ys ++ [y], e + 1, h'', tk', _, i + 1, rfl, ⟨a1.1.at fun o e => (hsD.2 _ (Ne.symm hDI)).trans e, a1.2.at fun o e => (hsD.2 _ (neN (by omega))).trans e⟩, Fx.change hsD (neN (by omega)) (hG _ _ _ hP' D (hnew₀ D (by omega))), ?_, a2.at' fun o e => (hsD.2 _ (neN (by omega))).trans e, hP', by simp; omega, hlt', rfl⟩
        intro p hp
        rcases List.mem_cons.mp hp with rfl | hp
        · refine ⟨?_, neN (by omega), hG _ _ _ hP' D (hnew₀ D (by omega))⟩
          rw [hoD]; simp
        · have := ltS c' p hp
          exact ⟨(hsD.2 _ (neN (by omega))).trans (Nx _ (hk2 _ hp)).1, (Nx _ (hk2 _ hp)).2⟩
    · have hin : i = vs.length := by omega
      subst hin
      refine W.done _ _ _ hst' fun h₂ tk₂ hk₂ => ?_
      obtain ⟨F₂, N₂, hns₂⟩ := step h₂ hk₂
      refine done c ys D e h₂ tk₂ C mC hP F₂ N₂ (fun p hp => ?_) hns₂ (neN (by omega)) (hnew C (by omega)) ledC
      have : @LT.lt Nat _ p.1 s.heap.objs.size := Heap.lt_size (N p hp).1
      exact ltN (by omega)
  exact codeAny_compStart_list (loop _ rfl) (W.self 0 _ _ _ hst₁ (loop _ rfl))
def CompAtU (prog : Program) (w : World) (A : Around) (E : Value → Shared → Prop) (env : Env) (elt : Expr) (x : Str) (px : Pos) (iter : Expr) (ifs : List Expr) (scope : Scope) (pos : Pos) (cl : List (Str × Addr)) (y : Str) (py : Pos) (Q : Flow → Shared → Prop) (it : Value) (s₂ : Shared) : Prop :=
  wpAny (model prog w) A (newList []) (fun acc s₃ => wpAny (model prog w) A (newFunctionEnv scope env.globals cl [] env.qual none .none (some env)) (fun cenv s₄ =>
      codeAny (model prog w) A (.compStart (.ListComp elt [⟨.Name x px, iter, ifs, 0⟩] scope pos) 0 it acc { cenv with scope := relabel scope env }) (compPost (model prog w) A E (some (assign (.Name y py) env)) (fun _ s' => Q .next s') acc cenv.locals) s₄) E s₃) E s₂
theorem compOpenU {y : Str} {py spos : Pos} {Q : Flow → Shared → Prop} (hsw : swapsWith (.ListComp elt [⟨.Name x px, iter, ifs, 0⟩] scope pos) (some (.Name y py)) spos.line env = pure true)
    (hclos : closureFor scope env = pure cl) (hkind : scope.kind = .function) (hnames : ∀ x ∈ scope.names, x.2 = .local → scope.names.lookup x.1 = some .local)
    (h : wpAny (model prog w) A (eval iter env) (fun xv s₁ => wpAny (model prog w) A (pyIter xv) (fun it s₂ => CompAtU prog w A E env elt x px iter ifs scope pos cl y py Q it s₂) E s₁) E s)
    (hs : ∀ x, foldedSetIterable iter env x = pure x := by intro _; rfl) :
    wpAny (model prog w) A (exec (.Assign [.Name y py] (.ListComp elt [⟨.Name x px, iter, ifs, 0⟩] scope pos) spos) env) Q E s := by
  rw [exec_Assign_Name_used _ _ _ _ hsw]
  refine wpAny_bind (wpAny_standAt (wpAny_bind ?_))
  show wpAny _ A (do let _ ← comprehension (.ListComp elt [⟨.Name x px, iter, ifs, 0⟩] scope pos) scope env _ (newList []) false (eval iter env) (some (assign (.Name y py) env))) _ _ s
  exact wpAny_bind (wpAny_mono (wpAny_comprehension_free (use := some (assign (.Name y py) env)) (Q := fun _ s' => Q .next s') rfl hs hclos hkind hnames h) (fun _ s' hq => wpAny_pure (wpAny_pure hq)) fun _ _ e => e)

theorem compU {σ : Type} {l : Addr} {vs : List Value} {news : List (Addr × Obj)} {y : Str} {py : Pos} {Q : Flow → Shared → Prop} (G : σ → Heap) (Led : σ → List (Addr × Obj)) (P : Nat → σ → List Value → Prop) (c₀ : σ) (hL : env.locals = L)
    (hy : env.kindOf y = some .local) (hpk : (env.scope.kind == .class || (env.scope.kind == .module && env.locals != env.globals)) = false)
    (hh : A.handled = none) (hls : s.heap.IsList l vs.toArray) (hl : ∀ i c ys h, P i c ys → Fr (G c) L h m → News (G c) L h (Led c) → h.IsList l vs.toArray) (F : Fr (G c₀) L s.heap m) (N : News (G c₀) L s.heap news) (hN : ∀ p ∈ Led c₀, p ∈ news) (hadr : ∀ c, (Led c).map (·.1) = (Led c₀).map (·.1))
    (hcell : ∀ y ∈ scope.names, y.2 ≠ .cell) (hkind : scope.kind = .function) (hx : scope.names.lookup x = some .local) (hsz : vs.length < 2 ^ 20)
    (hp : P 0 c₀ []) (hG : ∀ i c ys, P i c ys → ∀ b, (G c₀).get? b = none → (G c).get? b = none)
    (turn : ∀ c i v ys h tk keep C mC, vs[i]? = some v → P i c ys → Fr (G c) L h m → News (G c) L h (keep ++ Led c) → h.Ns C mC → mC x = some v → (∃ oC, (C, oC) ∈ keep) → (∀ p ∈ keep, ∀ q ∈ Led c, p.1 ≠ q.1) →
      wpAny (model prog w) A (forIn ifs true fun c r => if r = true then do let ok ← isTrue c (compEnvC scope cl C env) (eval c (compEnvC scope cl C env)); pure (ForInStep.yield ok) else pure (ForInStep.yield r))
        (fun ok s' => if ok = true then wpAny (model prog w) A (eval elt (compEnvC scope cl C env)) (fun y s'' => ys.length ≤ i ∧ EltPostG L m G Led (P (i + 1)) keep s (ys ++ [y]) s'') (fun _ _ => False) s' else EltPostG L m G Led (P (i + 1)) keep s ys s') (fun _ _ => False) { s with heap := h, toks := tk })
    (done : ∀ c ys D e h tk, P vs.length c ys → Fr (G c) L h (fun z => if z = y then some (.ref D) else m z) → News (G c) L h ((D, listOf ys.toArray e) :: Led c) → (∀ p ∈ news, p.1 < D) → Q .next { s with heap := h, toks := tk }) :
    wpAny (model prog w) A (pyIter (.ref l)) (fun it s₂ => CompAtU prog w A E env elt x px iter ifs scope pos cl y py Q it s₂) E s := by
  subst hL
  refine compCore (fun acc C => compPost (model prog w) A E (some (assign (.Name y py) env)) (fun _ s' => Q .next s') acc C) G Led P c₀ rfl hh hls hl F N hN hadr hcell hkind hx hsz hp hG turn ?_
  intro c ys D e h tk C mC hP F' N' hD hns hCL hCG hCn
  show wpAny _ A (assign (.Name y py) env (.ref D)) _ _ _
  refine wpAny_assign_Name (wpAny_storeName_local hy F'.ns (fun h₂ hn₂ hs₂ => ?_) hpk)
  refine ⟨mC, hns.sameBut hs₂ hCL, fun h₃ hs₃ => ?_⟩
  have F₂ := F'.set hn₂ hs₂
  have N₂ := N'.set hs₂
  exact done c ys D e h₃ _ hP (F₂.change hs₃ hCL hCG) (fun p hp => ⟨(hs₃.2 _ (hCn p hp)).trans (N₂ p hp).1, (N₂ p hp).2⟩) hD

theorem compG {σ : Type} {l : Addr} {vs : List Value} {news : List (Addr × Obj)} (G : σ → Heap) (Led : σ → List (Addr × Obj)) (P : Nat → σ → List Value → Prop) (c₀ : σ) (hL : env.locals = L)
    (hh : A.handled = none) (hls : s.heap.IsList l vs.toArray) (hl : ∀ i c ys h, P i c ys → Fr (G c) L h m → News (G c) L h (Led c) → h.IsList l vs.toArray) (F : Fr (G c₀) L s.heap m) (N : News (G c₀) L s.heap news) (hN : ∀ p ∈ Led c₀, p ∈ news) (hadr : ∀ c, (Led c).map (·.1) = (Led c₀).map (·.1))
    (hcell : ∀ y ∈ scope.names, y.2 ≠ .cell) (hkind : scope.kind = .function) (hx : scope.names.lookup x = some .local) (hsz : vs.length < 2 ^ 20)
    (hp : P 0 c₀ []) (hG : ∀ i c ys, P i c ys → ∀ b, (G c₀).get? b = none → (G c).get? b = none)
    (turn : ∀ c i v ys h tk keep C mC, vs[i]? = some v → P i c ys → Fr (G c) L h m → News (G c) L h (keep ++ Led c) → h.Ns C mC → mC x = some v → (∃ oC, (C, oC) ∈ keep) → (∀ p ∈ keep, ∀ q ∈ Led c, p.1 ≠ q.1) →
      wpAny (model prog w) A (forIn ifs true fun c r => if r = true then do let ok ← isTrue c (compEnvC scope cl C env) (eval c (compEnvC scope cl C env)); pure (ForInStep.yield ok) else pure (ForInStep.yield r))
        (fun ok s' => if ok = true then wpAny (model prog w) A (eval elt (compEnvC scope cl C env)) (fun y s'' => ys.length ≤ i ∧ EltPostG L m G Led (P (i + 1)) keep s (ys ++ [y]) s'') (fun _ _ => False) s' else EltPostG L m G Led (P (i + 1)) keep s ys s') (fun _ _ => False) { s with heap := h, toks := tk })
    (done : ∀ c ys D e h tk, P vs.length c ys → Fr (G c) L h m → News (G c) L h ((D, listOf ys.toArray e) :: Led c) → (∀ p ∈ news, p.1 < D) → Q (.ref D) { s with heap := h, toks := tk }) :
    wpAny (model prog w) A (pyIter (.ref l)) (fun it s₂ => CompAt prog w A E env elt x px iter ifs scope pos cl Q it s₂) E s := by
  subst hL
  refine compCore (fun acc C => compPost (model prog w) A E none Q acc C) G Led P c₀ rfl hh hls hl F N hN hadr hcell hkind hx hsz hp hG turn ?_
  intro c ys D e h tk C mC hP F' N' hD hns hCL hCG hCn
  refine ⟨mC, hns, fun h₃ hs₃ => ?_⟩
  exact done c ys D e h₃ _ hP (F'.change hs₃ hCL hCG) (fun p hp => ⟨(hs₃.2 _ (hCn p hp)).trans (N' p hp).1, (N' p hp).2⟩) hD
end
end

section
/-- _law_under's text, by its place in the program -/
def underDef : PySem.Stmt := PySem.Challenge.pw_om0020_01.main.body.getD 25 (.Pass ⟨0, 0, 0, 0⟩)
def stBody : PySem.Stmt → List PySem.Stmt
  | .FunctionDef _ _ b .. => b
  | _ => []
def stScope : PySem.Stmt → PySem.Scope
  | .FunctionDef _ _ _ _ _ _ s .. => s
  | _ => { kind := .function, names := [], isGenerator := false, isCoroutine := false, more := [] }
def underBody : List PySem.Stmt := stBody underDef
def underScope : PySem.Scope := stScope underDef
abbrev uName : Str := Str.ofString "_law_under"
abbrev uCls (L : Addr) : List (Str × Addr) := [(Str.ofString "peer", L + 1 + 1 + 1), (Str.ofString "rest", L + 1 + 1), (Str.ofString "heap", L + 1)]
abbrev uEnv (L : Addr) (cdv : Value) : Env := envX uName underScope L 174 cdv (uCls L)
/-- what stands below _law_under's frame -/
structure UBase (w : World) (mean : ExcName → Option Value) (mg mb : Str → Option Value) (outer : List Env) (A₀ : Around) (base g : Heap) : Prop where
  B : Below A₀ base outer g
  XB : (KH w.params).In base
  TB : Top VV (looseW VV []) mean mg mb base
  D : KtsDicts (outer.filterMap (·.frame)) g
theorem UBase.X {w mean mg mb outer A₀ base g} (U : UBase w mean mg mb outer A₀ base g) : (KH w.params).In g := U.XB.keeps U.B.stays
theorem UBase.T {w mean mg mb outer A₀ base g} (U : UBase w mean mg mb outer A₀ base g) : Top VV (looseW VV []) mean mg mb g := U.TB.keeps U.B.stays
theorem dictsTurn {fs : List Addr} {g g' : Heap} (D : KtsDicts fs g) (T : KtsTurn fs g g') : KtsDicts fs g' := fun b hb => by
  obtain ⟨o, es, n, e, d⟩ := D b hb
  obtain ⟨sl, e'⟩ := T.up e
  exact ⟨_, es, n, e', d⟩
theorem UBase.turn {w mean mg mb outer A₀ base g g'} (U : UBase w mean mg mb outer A₀ base g) (T : KtsTurn (outer.filterMap (·.frame)) g g') (B : Below A₀ base outer g') : UBase w mean mg mb outer A₀ base g' :=
  ⟨B, U.XB, U.TB, dictsTurn U.D T⟩
theorem PortsAre.keepsS {h h' : Heap} (k : KeepsS h h') : ∀ {vs : List Value} {ps : List (List Int)}, PortsAre h vs ps → PortsAre h' vs ps
  | _, _, .nil => .nil
  | _, _, .cons l i p r => .cons (isListS k l) i p (r.keepsS k)
theorem strsAre_nil {vs : List Value} (h : StrsAre vs []) : vs = [] := by cases h; rfl
abbrev OkS (xs : List Str) : Prop := ∀ x ∈ xs, PyData.strOk x = true
theorem lay_texts : ∀ {xs : List Str}, OkS xs → PyData.canLayAll0 (xs.map .str) = true
  | [], _ => rfl
  | x :: xs, h => by
    have := lay_texts (xs := xs) fun y hy => h y (.tail _ hy)
    simp only [List.map_cons, PyData.canLayAll0, PyData.canLay0, h x (.head _), Bool.true_and]; exact this
theorem depth_texts : ∀ xs : List Str, PyData.depthAll (xs.map .str) ≤ 1
  | [] => by simp [PyData.depthAll]
  | x :: xs => by have := depth_texts xs; simp only [List.map_cons, PyData.depthAll, PyData.depth]; omega
theorem shaped_texts {xs : List Str} (h : OkS xs) : SeqAt.shaped (.list (xs.map .str)) = true := by
  have := depth_texts xs
  simp only [SeqAt.shaped, Bool.and_eq_true, decide_eq_true_eq]
  exact ⟨by simp only [PyData.canLay0, lay_texts h], by simp only [PyData.depth]; omega⟩
theorem shaped_pair {xs ys : List Str} (h : OkS xs) (h' : OkS ys) : SeqAt.shaped (.tuple [.list (xs.map .str), .list (ys.map .str)]) = true := by
  have := depth_texts xs
  have := depth_texts ys
  simp only [SeqAt.shaped, Bool.and_eq_true, decide_eq_true_eq]
  exact ⟨by simp only [PyData.canLay0, PyData.canLayAll0, lay_texts h, lay_texts h']; rfl, by simp only [PyData.depth, PyData.depthAll]; omega⟩
section
variable {prog : Program} {w : World} {A : Around} {E : Value → Shared → Prop} {s : Shared} {Q : Value → Shared → Prop}
theorem neTexts {a b : Addr} {vs us : List Value} {xs ys : List Str} (l : s.heap.IsList a vs.toArray) (i : StrsAre vs xs) (lx : s.heap.IsList b us.toArray) (ix : StrsAre us ys) (e : xs = ys) (ok : OkS xs) (hu : A.units + 64 < cLine)
    (h : Q (.bool false) s) : wpAny (model prog w) A (compareOp .NotEq (.ref a) (.ref b)) Q E s := by
  subst e
  exact SeqAt.compareNe_shaped (readsTexts l i) (readsTexts lx ix) (shaped_texts ok) (shaped_texts ok) hu (by simp only [PyData.eqv, eqv_strs]; simpa using h)
theorem eqTexts {a b : Addr} {vs us : List Value} {xs ys : List Str} (l : s.heap.IsList a vs.toArray) (i : StrsAre vs xs) (lx : s.heap.IsList b us.toArray) (ix : StrsAre us ys) (e : xs = ys) (ok : OkS xs) (hu : A.units + 64 < cLine)
    (h : Q (.bool true) s) : wpAny (model prog w) A (compareOp .Eq (.ref a) (.ref b)) Q E s := by
  subst e
  exact SeqAt.compareEq_shaped (readsTexts l i) (readsTexts lx ix) (shaped_texts ok) (shaped_texts ok) hu (by simp only [PyData.eqv, eqv_strs]; simpa using h)
theorem readsPair {h : Heap} {t a b : Addr} {n : Nat} {vs us : List Value} {xs ys : List Str} {o : Obj} (ht : h.get? t = some o) (hc : o.cls = .type "tuple") (hd : o.data = .seq #[.ref a, .ref b] n) (l : h.IsList a vs.toArray) (i : StrsAre vs xs) (lx : h.IsList b us.toArray) (ix : StrsAre us ys) :
    ∃ as, Reads h (.ref t) (.tuple [.list (xs.map .str), .list (ys.map .str)]) as :=
  ⟨_, .tuple ht hc hd (.cons (readsTexts l i) (.cons (readsTexts lx ix) .nil))⟩
theorem nePair {t t' a b a' b' : Addr} {o o' : Obj} {n n' : Nat} {vs us vs' us' : List Value} {xs ys : List Str} (ht : s.heap.get? t = some o) (hc : o.cls = .type "tuple") (hd : o.data = .seq #[.ref a, .ref b] n) (l : s.heap.IsList a vs.toArray) (i : StrsAre vs xs) (lx : s.heap.IsList b us.toArray) (ix : StrsAre us ys)
    (ht' : s.heap.get? t' = some o') (hc' : o'.cls = .type "tuple") (hd' : o'.data = .seq #[.ref a', .ref b'] n') (l' : s.heap.IsList a' vs'.toArray) (i' : StrsAre vs' xs) (lx' : s.heap.IsList b' us'.toArray) (ix' : StrsAre us' ys) (ok : OkS xs) (ok' : OkS ys) (hu : A.units + 64 < cLine)
    (h : Q (.bool false) s) : wpAny (model prog w) A (compareOp .NotEq (.ref t) (.ref t')) Q E s := by
  obtain ⟨as, r⟩ := readsPair ht hc hd l i lx ix
  obtain ⟨as', r'⟩ := readsPair ht' hc' hd' l' i' lx' ix'
  exact SeqAt.compareNe_shaped r r' (shaped_pair ok ok') (shaped_pair ok ok') hu (by simp only [PyData.eqv, PyData.eqvAll, eqv_strs]; simpa using h)
theorem shaped_hp {x : Str} {k : Int} (h : PyData.strOk x = true) : SeqAt.shaped (.tuple [.str x, .int k]) = true := by
  simp only [SeqAt.shaped, Bool.and_eq_true, decide_eq_true_eq]
  exact ⟨by simp only [PyData.canLay0, PyData.canLayAll0, h]; rfl, by simp only [PyData.depth, PyData.depthAll]; omega⟩
theorem neHp {t t' : Addr} {o o' : Obj} {n n' : Nat} {x : Str} {k : Int} {u v u' v' : Tok} (ht : s.heap.get? t = some o) (hc : o.cls = .type "tuple") (hd : o.data = .seq #[.str x u, .int k v] n)
    (ht' : s.heap.get? t' = some o') (hc' : o'.cls = .type "tuple") (hd' : o'.data = .seq #[.str x u', .int k v'] n') (ok : PyData.strOk x = true) (hu : A.units + 64 < cLine)
    (h : Q (.bool false) s) : wpAny (model prog w) A (compareOp .NotEq (.ref t) (.ref t')) Q E s := by
  have r : Reads s.heap (.ref t) (.tuple [.str x, .int k]) _ := .tuple ht hc hd (.cons (.str x u) (.cons (.int k v) .nil))
  have r' : Reads s.heap (.ref t') (.tuple [.str x, .int k]) _ := .tuple ht' hc' hd' (.cons (.str x u') (.cons (.int k v') .nil))
  exact SeqAt.compareNe_shaped r r' (shaped_hp ok) (shaped_hp ok) hu (by simpa [PyData.eqv, PyData.eqvAll] using h)
end
theorem reply_ok {p : List Int} {c : Nat} (hp : Port p) (hc : c < 256) : PyData.strOk (replyP p c) = true := by
  have e : PyData.strOk (replyP p c) = (replyL p c).all (· < 1114112) := by simp [PyData.strOk, replyP, S]
  rw [e, List.all_eq_true]
  unfold replyL
  have h1 : ∀ d ∈ p, dcode d < 1114112 := fun d hd => by have := hp.2.2 d hd; unfold dcode; omega
  intro x hx
  rw [decide_eq_true_eq]
  simp only [List.mem_cons, List.mem_append, List.mem_map, List.not_mem_nil, or_false] at hx
  rcases hx with ((h | h | h | h | h | h | h | h) | ⟨d, hd, h⟩) | h | h
  all_goals first | omega | (have := h1 d hd; omega)
theorem replies_ok {ps : List (List Int)} {c : Nat} (hp : ∀ p ∈ ps, Port p) (hc : c < 256) : OkS (ps.map fun p => replyP p c) := fun x hx => by
  obtain ⟨p, h, rfl⟩ := List.mem_map.mp hx
  exact reply_ok (hp p h) hc
end

section
theorem seg1 {w mean mg mb outer A₀ base g L m} {dp un : Nat} {gd cdv} {s : Shared} {Q}
    (U : UBase w mean mg mb outer A₀ base g) (hdp : dp + 50 < recursionLimit) (hu : un + 100 < cLine)
    {c : Nat} {a1 a2 : Addr} {tm th : Tok} {host : Str} {vs1 vs2 : List Value} {ps qs : List (List Int)} {cells : List (Addr × Obj)}
    (F : Fr g L s.heap m) (hm : Ok [(Str.ofString "mark", .str (S [c]) tm), (Str.ofString "first", .ref a1), (Str.ofString "second", .ref a2), (Str.ofString "host", .str host th)] m)
    (N : News g L s.heap cells)
    (l1 : g.IsList a1 vs1.toArray) (i1 : PortsAre g vs1 ps) (l2 : g.IsList a2 vs2.toArray) (i2 : PortsAre g vs2 qs) (hz1 : ps.length < 100) (hz2 : qs.length < 100)
    (k : ∀ r1 us1 e1 r2 us2 e2 tc h' tk' m', Fr g L h' m' → Ok [(Str.ofString "mark", .str (S [c]) tm), (Str.ofString "first", .ref a1), (Str.ofString "second", .ref a2), (Str.ofString "host", .str host th), (Str.ofString "code", .int (c : Int) tc), (Str.ofString "ones", .ref r1), (Str.ofString "twos", .ref r2)] m' →
      News g L h' ((r2, listOf us2.toArray e2) :: (r1, listOf us1.toArray e1) :: cells) → (∀ p ∈ cells, p.1 ≠ r1) → (∀ p ∈ (r1, listOf us1.toArray e1) :: cells, p.1 ≠ r2) → PortsAre g us1 (walkP c ps) → PortsAre g us2 (walkP c qs) →
      wpAny (model PP w) (ktrTop dp un gd uName underScope L 174 cdv (uCls L) outer) (execs (underBody.drop 3) (uEnv L cdv)) Q (fun _ _ => False) { s with heap := h', toks := tk' }) :
    wpAny (model PP w) (ktrTop dp un gd uName underScope L 174 cdv (uCls L) outer) (execs (underBody.drop 0) (uEnv L cdv)) Q (fun _ _ => False) s := by
  have B := U.B
  have X := U.X
  have T := U.T
  rw [← ov_eq hm] at F
  refine wpAny_execs_cons ?_
  walk_at "gos"
  refine wpAny_execs_cons ?_
  walk_at "gos"
  rename Fr g L _ _ => F1
  rename News g L _ _ => N1
  refine walk_ct ⟨B, F1, X, T, rfl⟩ N1 (by omega) F1.keep (F1.lst l1) i1 (by omega) ?_
  intro r1 us1 e1 h1 tk1 F2 N2 k2 hr1 P1
  have n1 := neNew N1 hr1
  walk_at "gos"
  refine wpAny_execs_cons ?_
  walk_at "gos"
  rename Fr g L _ _ => F3
  rename News g L _ _ => N3
  refine walk_ct ⟨B, F3, X, T, rfl⟩ N3 (by omega) F3.keep (F3.lst l2) i2 (by omega) ?_
  intro r2 us2 e2 h2 tk2 F4 N4 k4 hr2 P2
  have n2 := neNew N3 hr2
  walk_at "gos"
  rename Fr g L _ _ => F5
  rename News g L _ _ => N5
  exact k r1 us1 e1 r2 us2 e2 _ _ _ _ F5 ⟨rfl, rfl, rfl, rfl, rfl, rfl, rfl, trivial⟩ N5 n1 n2 P1 P2
end

section
def pushAll (c : Nat) (ps : List (List Int)) : List Str := ps.foldl (fun h p => pushP h (replyP p c)) []
theorem len_pushP (xs : List Str) (x : Str) : (pushP xs x).length = xs.length + 1 := by
  unfold pushP; rw [len_sdGo]; simp
/-- heap = [], and the pushes -/
theorem seg2 {w mean mg mb outer A₀ base g L m} {dp un : Nat} {gd cdv} {s : Shared} {Q}
    (U : UBase w mean mg mb outer A₀ base g) (hdp : dp + 50 < recursionLimit) (hu : un + 100 < cLine)
    {c : Nat} {a1 a2 r1 r2 : Addr} {tm th tc : Tok} {host : Str} {vs1 : List Value} {ps : List (List Int)} {o1 o2 po ro ho : Obj}
    (F : Fr g L s.heap m) (hm : Ok [(Str.ofString "mark", .str (S [c]) tm), (Str.ofString "first", .ref a1), (Str.ofString "second", .ref a2), (Str.ofString "host", .str host th), (Str.ofString "code", .int (c : Int) tc), (Str.ofString "ones", .ref r1), (Str.ofString "twos", .ref r2)] m)
    (N : News g L s.heap [(r2, o2), (r1, o1), (L + 1 + 1 + 1, po), (L + 1 + 1, ro), (L + 1, ho)]) (n2 : r2 ≠ L + 1) (n1 : r1 ≠ L + 1) (hho : ho.data = .cell none) (c1 : o1.cls = .type "list") (c2 : o2.cls = .type "list") (cpo : po.data = .cell none) (cro : ro.data = .cell none)
    (l1 : g.IsList a1 vs1.toArray) (i1 : PortsAre g vs1 ps) (hz1 : ps.length < 100)
    (k : ∀ d us e ho' h' tk' m', Fr g L h' m' → Ok [(Str.ofString "mark", .str (S [c]) tm), (Str.ofString "first", .ref a1), (Str.ofString "second", .ref a2), (Str.ofString "host", .str host th), (Str.ofString "code", .int (c : Int) tc), (Str.ofString "ones", .ref r1), (Str.ofString "twos", .ref r2)] m' →
      News g L h' [(d, listOf us.toArray e), (r2, o2), (r1, o1), (L + 1 + 1 + 1, po), (L + 1 + 1, ro), (L + 1, ho')] → (r2 < d ∧ r1 < d ∧ L + 1 + 1 + 1 < d ∧ L + 1 + 1 < d ∧ L + 1 < d) → ho'.data = .cell (some (.ref d)) → StrsAre us (pushAll c ps) →
      wpAny (model PP w) (ktrTop dp un gd uName underScope L 174 cdv (uCls L) outer) (execs (underBody.drop 5) (uEnv L cdv)) Q (fun _ _ => False) { s with heap := h', toks := tk' }) :
    wpAny (model PP w) (ktrTop dp un gd uName underScope L 174 cdv (uCls L) outer) (execs (underBody.drop 3) (uEnv L cdv)) Q (fun _ _ => False) s := by
  have B := U.B
  have X := U.X
  have T := U.T
  rw [← ov_eq hm] at F
  have LL := l1
  refine wpAny_execs_cons ?_
  walk_at "gos"
  rename_i d _ hlt _ ho' F1 N1 hho'
  refine wpAny_execs_cons ?_
  refine wpAny_For ?_
  walk_at "gos"
  dsimp only
  refine forG (σ := List Value × Nat) (L := L) (fun _ => g) (fun c => [(d, listOf c.1.toArray c.2), (r2, o2), (r1, o1), (L + 1 + 1 + 1, po), (L + 1 + 1, ro), (L + 1, ho')]) (fun _ => [(Str.ofString "mark", .str (S [c]) tm), (Str.ofString "first", .ref a1), (Str.ofString "second", .ref a2), (Str.ofString "host", .str host th), (Str.ofString "code", .int (c : Int) tc), (Str.ofString "ones", .ref r1), (Str.ofString "twos", .ref r2)])
    (fun i cc => cc.1.length = i ∧ StrsAre cc.1 (pushAll c (ps.take i))) ([], 0) rfl (F1.lst LL) F1 N1 (fun p hp => hp) (fun _ _ h m _ F _ => F.lst LL) ?_ ⟨rfl, rfl, rfl, rfl, rfl, rfl, rfl, trivial⟩ ⟨rfl, .nil⟩ PassesOwn.never ?_ ?_
  · rintro i ⟨us, e⟩ _ p hp
    rcases List.mem_cons.mp hp with rfl | hp
    · exact .inl (by simp)
    rcases List.mem_cons.mp hp with rfl | hp
    · exact .inl (by rw [c2]; simp)
    rcases List.mem_cons.mp hp with rfl | hp
    · exact .inl (by rw [c1]; simp)
    rcases List.mem_cons.mp hp with rfl | hp
    · exact .inr (by intro vs; rw [cpo]; simp)
    rcases List.mem_cons.mp hp with rfl | hp
    · exact .inr (by intro vs; rw [cro]; simp)
    rw [List.mem_singleton.mp hp]
    exact .inr (by intro vs; rw [hho']; simp)
  · rintro ⟨us, e⟩ i v m' h tk' I io hv ⟨hul, hds⟩ F2 N2 hsep
    dsimp only at hul hds F2 N2 hsep ⊢
    obtain ⟨a3, us3, p, rfl, hpi, hl3, hi3, hp3⟩ := i1.get hv
    clear F1 N1
    walk_at "gos"
    refine wpAny_execs_cons ?_
    walk_at "gos"
    rename Fr g L _ _ => F3
    rename News g L _ _ => N3
    refine reply_ct ⟨B, F3, X, T, rfl⟩ N3 (by omega) (F3.lst hl3) hi3 hp3 ?_
    intro t h4 tk4 F4 N4 k4
    walk_at "gos"
    have N5 : News g L h4 ([(d, listOf us.toArray e)] ++ [(I, io), (r2, o2), (r1, o1), (L + 1 + 1 + 1, po), (L + 1 + 1, ro), (L + 1, ho')]) := fun p hp => N4 p (by
      rcases List.mem_cons.mp hp with rfl | hp
      · exact .tail _ (.head _)
      rcases List.mem_cons.mp hp with rfl | hp
      · exact .head _
      · exact .tail _ (.tail _ hp))
    have hil : i < ps.length := (List.getElem?_eq_some_iff.mp hpi).1
    refine push_ct ⟨B, F4, X, T, rfl⟩ (fun p hp => N5 p (List.mem_append_left _ hp)) (by omega) hds (by have := strsAre_len hds; omega) ?_
    intro us' e' h6 tk6 k6 g6 hs6
    obtain ⟨F7, N7⟩ := afterM (mu := [(d, _)]) (rest := [(I, io), (r2, o2), (r1, o1), (L + 1 + 1 + 1, po), (L + 1 + 1, ro), (L + 1, ho')]) (mu' := [(d, listOf us'.toArray e')]) F4 N5 (by
      intro p hp q hq
      rw [List.mem_singleton.mp hp]
      rcases List.mem_cons.mp hq with rfl | hq
      · exact hsep (d, _) (.head _)
      simp only [List.mem_cons, List.not_mem_nil, or_false] at hq
      rcases hq with rfl | rfl | rfl | rfl | rfl
      · exact Nat.ne_of_gt hlt.1
      · exact Nat.ne_of_gt hlt.2.1
      · exact Nat.ne_of_gt hlt.2.2.1
      · exact Nat.ne_of_gt hlt.2.2.2.1
      · exact Nat.ne_of_gt hlt.2.2.2.2) k6 rfl (by intro p hp; rw [List.mem_singleton.mp hp]; exact g6)
    walk_at "gos"
    refine wpAny_execs_nil ?_
    refine TurnG.intro (us', e') F7 N7 ?_ (.tail _ (.head _)) ⟨rfl, rfl, rfl, rfl, rfl, rfl, rfl, trivial⟩ ⟨?_, ?_⟩
    · intro p hp
      rcases List.mem_cons.mp hp with rfl | hp
      · exact .head _
      · exact .tail _ (.tail _ hp)
    · have h1 := strsAre_len hs6
      have h2 := strsAre_len hds
      rw [len_pushP] at h1
      show us'.length = i + 1
      omega
    · show StrsAre us' _
      unfold pushAll at hs6 ⊢
      rw [List.take_add_one, hpi, List.foldl_append]
      exact hs6
  · rintro ⟨us, e⟩ m' h tk' ⟨hul, hds⟩ F2 N2
    dsimp only at hul hds F2 N2 ⊢
    rw [i1.length, List.take_length] at hds
    exact k d us e ho' _ _ _ F2 ⟨rfl, rfl, rfl, rfl, rfl, rfl, rfl, trivial⟩ N2 hlt hho' hds
end

section
/-- one pop, plain -/
def popP (xs : List Str) : Str × List Str :=
  if xs.dropLast = [] then (xs.getLast?.getD default, []) else (xs.dropLast.getD 0 default, suP (xs.dropLast.set 0 (xs.getLast?.getD default)) 0)
/-- after i pops: what was handed out, what is left -/
def popSt (xs : List Str) : Nat → List Str × List Str
  | 0 => ([], xs)
  | i + 1 => ((popSt xs i).1 ++ [(popP (popSt xs i).2).1], (popP (popSt xs i).2).2)
theorem len_popP (xs : List Str) : (popP xs).2.length = xs.length - 1 := by
  unfold popP
  split
  · rename_i h
    have : xs.dropLast.length = 0 := by rw [h]; rfl
    simp at this
    simp; omega
  · simp [len_suP]
theorem len_popSt (xs : List Str) : ∀ i, (popSt xs i).2.length = xs.length - i
  | 0 => rfl
  | i + 1 => by
    show (popP (popSt xs i).2).2.length = _
    rw [len_popP, len_popSt xs i]; omega
theorem len_popSt1 (xs : List Str) : ∀ i, (popSt xs i).1.length = i
  | 0 => rfl
  | i + 1 => by
    show ((popSt xs i).1 ++ [_]).length = _
    rw [List.length_append, len_popSt1 xs i]; rfl
theorem strsAre_last : ∀ {vs : List Value} {xs : List Str}, StrsAre vs xs → xs ≠ [] → ∃ vs' t, vs = vs' ++ [.str (xs.getLast?.getD default) t] ∧ StrsAre vs' xs.dropLast
  | _, _, .nil, h => absurd rfl h
  | _, _, .cons y t .nil, _ => ⟨[], t, rfl, .nil⟩
  | _, _, .cons y t (.cons y2 t2 h2), _ => by
    obtain ⟨vs', t', e, q⟩ := strsAre_last (.cons y2 t2 h2) (by simp)
    exact ⟨.str y t :: vs', t', by rw [e]; simp [List.getLast?_cons_cons], .cons y t q⟩
theorem len_pushAll (c : Nat) (ps : List (List Int)) : (pushAll c ps).length = ps.length := by
  unfold pushAll
  suffices h : ∀ (ps : List (List Int)) (xs : List Str), (ps.foldl (fun h p => pushP h (replyP p c)) xs).length = xs.length + ps.length by simpa using h ps []
  intro ps
  induction ps with
  | nil => intro xs; simp
  | cons p ps ih => intro xs; rw [List.foldl_cons, ih, len_pushP]; simp; omega
/-- told = [heappop(heap) for port in first] -/
theorem seg3 {w mean mg mb outer A₀ base g L m} {dp un : Nat} {gd cdv} {s : Shared} {Q}
    (U : UBase w mean mg mb outer A₀ base g) (hdp : dp + 50 < recursionLimit) (hu : un + 100 < cLine)
    {c : Nat} {a1 a2 r1 r2 d : Addr} {tm th tc : Tok} {host : Str} {vs1 us : List Value} {e : Nat} {ps : List (List Int)} {o1 o2 po ro ho : Obj} {xs : List Str}
    (F : Fr g L s.heap m) (hm : Ok [(Str.ofString "mark", .str (S [c]) tm), (Str.ofString "first", .ref a1), (Str.ofString "second", .ref a2), (Str.ofString "host", .str host th), (Str.ofString "code", .int (c : Int) tc), (Str.ofString "ones", .ref r1), (Str.ofString "twos", .ref r2)] m)
    (N : News g L s.heap [(d, listOf us.toArray e), (r2, o2), (r1, o1), (L + 1 + 1 + 1, po), (L + 1 + 1, ro), (L + 1, ho)]) (hlt : r2 < d ∧ r1 < d ∧ L + 1 + 1 + 1 < d ∧ L + 1 + 1 < d ∧ L + 1 < d) (hho : ho.data = .cell (some (.ref d)))
    (hds : StrsAre us xs) (hxl : xs.length = ps.length)
    (l1 : g.IsList a1 vs1.toArray) (i1 : PortsAre g vs1 ps) (hz1 : ps.length < 100)
    (k : ∀ rt ut et e' h' tk' m', Fr g L h' m' → Ok [(Str.ofString "mark", .str (S [c]) tm), (Str.ofString "first", .ref a1), (Str.ofString "second", .ref a2), (Str.ofString "host", .str host th), (Str.ofString "code", .int (c : Int) tc), (Str.ofString "ones", .ref r1), (Str.ofString "twos", .ref r2), (Str.ofString "told", .ref rt)] m' →
      News g L h' [(rt, listOf ut.toArray et), (d, listOf #[] e'), (r2, o2), (r1, o1), (L + 1 + 1 + 1, po), (L + 1 + 1, ro), (L + 1, ho)] → d < rt → StrsAre ut (popSt xs ps.length).1 →
      wpAny (model PP w) (ktrTop dp un gd uName underScope L 174 cdv (uCls L) outer) (execs (underBody.drop 6) (uEnv L cdv)) Q (fun _ _ => False) { s with heap := h', toks := tk' }) :
    wpAny (model PP w) (ktrTop dp un gd uName underScope L 174 cdv (uCls L) outer) (execs (underBody.drop 5) (uEnv L cdv)) Q (fun _ _ => False) s := by
  have B := U.B
  have X := U.X
  have T := U.T
  rw [← ov_eq hm] at F
  have LL := l1
  have hcell := hho
  refine wpAny_execs_cons ?_
  refine compOpenU rfl rfl rfl (by decide) ?_
  walk_at "gos"
  refine compU (σ := List Value × Nat) (L := L) (fun _ => g) (fun cc => [(d, listOf cc.1.toArray cc.2), (r2, o2), (r1, o1), (L + 1 + 1 + 1, po), (L + 1 + 1, ro), (L + 1, ho)]) (fun i cc ys => StrsAre cc.1 (popSt xs i).2 ∧ StrsAre ys (popSt xs i).1) (us, e) rfl rfl rfl rfl (F.lst LL) (fun _ _ _ h _ F _ => F.lst LL) F N (fun p hp => hp) (fun _ => rfl) (by decide) rfl rfl (by have := i1.length; omega) ⟨hds, .nil⟩ (fun _ _ _ _ _ e => e) ?_ ?_
  · rintro ⟨us', e'⟩ i v ys h tk keep C mC hv ⟨hP, hY⟩ F₁ N₁ hns hx hC hsep
    dsimp only at hP hY F₁ N₁ hsep ⊢
    have hil : i < ps.length := by have := i1.length; have := (List.getElem?_eq_some_iff.mp hv).1; omega
    have hcm : h.IsCell (L + 1) (some (.ref d)) := ⟨ho, (N₁ _ (List.mem_append_right _ (.tail _ (.tail _ (.tail _ (.tail _ (.tail _ (.head _)))))))).1, hcell⟩
    refine wpAny_tests_nil ?_
    walk_at "go"
    have hpl := len_popSt xs i
    have hne2 : (popSt xs i).2 ≠ [] := by intro e; rw [e] at hpl; simp at hpl; omega
    obtain ⟨vs', t', rfl, hv'⟩ := strsAre_last hP hne2
    have N5 : News g L h ([(d, listOf (vs' ++ [Value.str ((popSt xs i).2.getLast?.getD default) t']).toArray e')] ++ (keep ++ [(r2, o2), (r1, o1), (L + 1 + 1 + 1, po), (L + 1 + 1, ro), (L + 1, ho)])) := fun p hp => N₁ p (by
      rcases List.mem_append.mp hp with hp | hp
      · rw [List.mem_singleton.mp hp]; exact List.mem_append_right _ (.head _)
      rcases List.mem_append.mp hp with hp | hp
      · exact List.mem_append_left _ hp
      · exact List.mem_append_right _ (.tail _ hp))
    refine pop_ct ⟨B, F₁, X, T, rfl⟩ (fun p hp => N5 p (List.mem_append_left _ hp)) (by omega) hv' (by simp; omega) ?_
    intro us2 e2 t2 h6 tk6 k6 g6 hs6
    obtain ⟨F7, N7⟩ := afterM (mu := [(d, _)]) (rest := keep ++ [(r2, o2), (r1, o1), (L + 1 + 1 + 1, po), (L + 1 + 1, ro), (L + 1, ho)]) (mu' := [(d, listOf us2.toArray e2)]) F₁ N5 (by
      intro p hp q hq
      rw [List.mem_singleton.mp hp]
      rcases List.mem_append.mp hq with hq | hq
      · exact Ne.symm (hsep q hq (d, _) (.head _))
      simp only [List.mem_cons, List.not_mem_nil, or_false] at hq
      rcases hq with rfl | rfl | rfl | rfl | rfl
      · exact Nat.ne_of_gt hlt.1
      · exact Nat.ne_of_gt hlt.2.1
      · exact Nat.ne_of_gt hlt.2.2.1
      · exact Nat.ne_of_gt hlt.2.2.2.1
      · exact Nat.ne_of_gt hlt.2.2.2.2) k6 rfl (by intro p hp; rw [List.mem_singleton.mp hp]; exact g6)
    have hst : (popSt xs (i + 1)).2 = (popP (popSt xs i).2).2 ∧ (popSt xs (i + 1)).1 = (popSt xs i).1 ++ [(popP (popSt xs i).2).1] := ⟨rfl, rfl⟩
    refine ⟨?_, EltPostG.intro (us2, e2) F7 N7 (fun p hp => List.mem_append_right _ (List.mem_append_left _ hp)) ?_ ⟨?_, ?_⟩⟩
    · have := strsAre_len hY; rw [len_popSt1] at this; omega
    · intro p hp
      rcases List.mem_cons.mp hp with rfl | hp
      · exact .head _
      · exact List.mem_append_right _ (List.mem_append_right _ hp)
    · rw [hst.1]; unfold popP; split <;> rename_i q <;> simp only [q, if_true, if_false] at hs6 <;> exact hs6
    · rw [hst.2]
      have e1 : (if (popSt xs i).2.dropLast = [] then (popSt xs i).2.getLast?.getD default else (popSt xs i).2.dropLast.getD 0 default) = (popP (popSt xs i).2).1 := by unfold popP; split <;> rfl
      rw [← e1]
      exact strsAre_snoc hY
  · rintro ⟨us', e'⟩ ys D eD h tk ⟨hP, hY⟩ F₁ N₁ hD
    dsimp only at hP hY F₁ N₁ hD ⊢
    rw [i1.length] at hP hY
    have hz := len_popSt xs ps.length
    have hnil : (popSt xs ps.length).2 = [] := List.eq_nil_of_length_eq_zero (by rw [hz, hxl]; omega)
    rw [hnil] at hP
    obtain rfl := strsAre_nil hP
    exact k D ys eD e' _ _ _ F₁ ⟨rfl, rfl, rfl, rfl, rfl, rfl, rfl, rfl, trivial⟩ N₁ (hD (d, _) (.head _)) hY
end

section
theorem len_hfGo (xs : List Str) (k : Nat) : (hfGo xs k).length = xs.length := by
  induction k generalizing xs with
  | zero => rfl
  | succ k ih => rw [hfGo, ih, len_suP]
theorem sepAdr {l l' : List (Addr × Obj)} {q : Addr} (h : l'.map (·.1) = l.map (·.1)) (n : ∀ p ∈ l, p.1 ≠ q) : ∀ p ∈ l', q ≠ p.1 := fun p hp => by
  have : p.1 ∈ l.map (·.1) := by rw [← h]; exact List.mem_map_of_mem hp
  obtain ⟨p', hp', e⟩ := List.mem_map.mp this
  rw [← e]; exact Ne.symm (n p' hp')
/-- rest = .., heapify(rest), others = .. -/
theorem seg4 {w mean mg mb outer A₀ base g L m} {dp un : Nat} {gd cdv} {s : Shared} {Q}
    (U : UBase w mean mg mb outer A₀ base g) (hdp : dp + 50 < recursionLimit) (hu : un + 100 < cLine)
    {c : Nat} {a1 a2 r1 r2 rt d : Addr} {tm th tc : Tok} {host : Str} {vs2 : List Value} {qs : List (List Int)} {o1 o2 ot od po ro ho : Obj}
    (F : Fr g L s.heap m) (hm : Ok [(Str.ofString "mark", .str (S [c]) tm), (Str.ofString "first", .ref a1), (Str.ofString "second", .ref a2), (Str.ofString "host", .str host th), (Str.ofString "code", .int (c : Int) tc), (Str.ofString "ones", .ref r1), (Str.ofString "twos", .ref r2), (Str.ofString "told", .ref rt)] m)
    (N : News g L s.heap [(rt, ot), (d, od), (r2, o2), (r1, o1), (L + 1 + 1 + 1, po), (L + 1 + 1, ro), (L + 1, ho)]) (hro : ro.data = .cell none) (nt : rt ≠ L + 1 + 1) (nd : d ≠ L + 1 + 1) (n2 : r2 ≠ L + 1 + 1) (n1 : r1 ≠ L + 1 + 1)
    (l2 : g.IsList a2 vs2.toArray) (i2 : PortsAre g vs2 qs) (hz2 : qs.length < 100)
    (k : ∀ rs us es ro' q eq h' tk' m', Fr g L h' m' → Ok [(Str.ofString "mark", .str (S [c]) tm), (Str.ofString "first", .ref a1), (Str.ofString "second", .ref a2), (Str.ofString "host", .str host th), (Str.ofString "code", .int (c : Int) tc), (Str.ofString "ones", .ref r1), (Str.ofString "twos", .ref r2), (Str.ofString "told", .ref rt), (Str.ofString "others", .ref rs)] m' →
      News g L h' [(rs, listOf us.toArray es), (q, listOf #[] eq), (rt, ot), (d, od), (r2, o2), (r1, o1), (L + 1 + 1 + 1, po), (L + 1 + 1, ro'), (L + 1, ho)] → ro'.data = .cell (some (.ref q)) → StrsAre us (popSt (hfGo (qs.map fun p => replyP p c) (qs.length / 2)) qs.length).1 → rs ≠ L + 1 + 1 + 1 →
      wpAny (model PP w) (ktrTop dp un gd uName underScope L 174 cdv (uCls L) outer) (execs (underBody.drop 9) (uEnv L cdv)) Q (fun _ _ => False) { s with heap := h', toks := tk' }) :
    wpAny (model PP w) (ktrTop dp un gd uName underScope L 174 cdv (uCls L) outer) (execs (underBody.drop 6) (uEnv L cdv)) Q (fun _ _ => False) s := by
  have B := U.B
  have X := U.X
  have T := U.T
  rw [← ov_eq hm] at F
  have LL := l2
  refine wpAny_execs_cons ?_
  walk_at "gos"
  refine replies_ct ⟨B, F, X, T, rfl⟩ N (by omega) (F.lst LL) (i2.keeps F.keep) (by omega) ?_
  intro q uq eq h1 tk1 F1 N1 k1 hq I1
  have nq := neNew N hq
  have hqL : q ≠ L + 1 + 1 := Ne.symm (nq (L + 1 + 1, ro) (.tail _ (.tail _ (.tail _ (.tail _ (.tail _ (.head _)))))))
  walk_at "gos"
  rename_i _ ro' F2 N2 hro'
  have hcell := hro'
  have nq' : ∀ p ∈ [(rt, ot), (d, od), (r2, o2), (r1, o1), (L + 1 + 1 + 1, po), (L + 1 + 1, ro'), (L + 1, ho)], q ≠ p.1 := sepAdr (by rfl) nq
  have hql := strsAre_len I1
  rw [List.length_map] at hql
  refine wpAny_execs_cons ?_
  walk_at "gos"
  refine heapify_ct ⟨B, F2, X, T, rfl⟩ (fun p hp => N2 p (List.mem_append_left _ hp)) (by omega) I1 (by rw [List.length_map]; omega) ?_
  intro us3 e3 h3 tk3 k3 g3 hs3
  obtain ⟨F4, N4⟩ := afterM (mu := [(q, _)]) (rest := [(rt, ot), (d, od), (r2, o2), (r1, o1), (L + 1 + 1 + 1, po), (L + 1 + 1, ro'), (L + 1, ho)]) (mu' := [(q, listOf us3.toArray e3)]) F2 N2 (by intro p hp r hr; rw [List.mem_singleton.mp hp]; exact nq' r hr) k3 rfl (by intro p hp; rw [List.mem_singleton.mp hp]; exact g3)
  rw [List.length_map] at hs3
  walk_at "gos"
  refine wpAny_execs_cons ?_
  refine compOpenU rfl rfl rfl (by decide) ?_
  walk_at "gos"
  generalize hX : hfGo (qs.map fun p => replyP p c) (qs.length / 2) = xs at *
  have hxl : xs.length = qs.length := by rw [← hX, len_hfGo, List.length_map]
  refine compU (σ := List Value × Nat) (L := L) (fun _ => g) (fun cc => [(q, listOf cc.1.toArray cc.2), (rt, ot), (d, od), (r2, o2), (r1, o1), (L + 1 + 1 + 1, po), (L + 1 + 1, ro'), (L + 1, ho)]) (fun i cc ys => StrsAre cc.1 (popSt xs i).2 ∧ StrsAre ys (popSt xs i).1) (us3, e3) rfl rfl rfl rfl (F4.lst LL) (fun _ _ _ h _ F _ => F.lst LL) F4 N4 (fun p hp => hp) (fun _ => rfl) (by decide) rfl rfl (by have := i2.length; omega) ⟨hs3, .nil⟩ (fun _ _ _ _ _ e => e) ?_ ?_
  · rintro ⟨us', e'⟩ i v ys h tk keep C mC hv ⟨hP, hY⟩ F₁ N₁ hns hx hC hsep
    dsimp only at hP hY F₁ N₁ hsep ⊢
    have hil : i < qs.length := by have := i2.length; have := (List.getElem?_eq_some_iff.mp hv).1; omega
    have hcm : h.IsCell (L + 1 + 1) (some (.ref q)) := ⟨ro', (N₁ _ (List.mem_append_right _ (.tail _ (.tail _ (.tail _ (.tail _ (.tail _ (.tail _ (.head _))))))))).1, hcell⟩
    refine wpAny_tests_nil ?_
    walk_at "go"
    have hpl := len_popSt xs i
    have hne2 : (popSt xs i).2 ≠ [] := by intro e; rw [e] at hpl; simp at hpl; omega
    obtain ⟨vs', t', rfl, hv'⟩ := strsAre_last hP hne2
    have N5 : News g L h ([(q, listOf (vs' ++ [Value.str ((popSt xs i).2.getLast?.getD default) t']).toArray e')] ++ (keep ++ [(rt, ot), (d, od), (r2, o2), (r1, o1), (L + 1 + 1 + 1, po), (L + 1 + 1, ro'), (L + 1, ho)])) := fun p hp => N₁ p (by
      rcases List.mem_append.mp hp with hp | hp
      · rw [List.mem_singleton.mp hp]; exact List.mem_append_right _ (.head _)
      rcases List.mem_append.mp hp with hp | hp
      · exact List.mem_append_left _ hp
      · exact List.mem_append_right _ (.tail _ hp))
    refine pop_ct ⟨B, F₁, X, T, rfl⟩ (fun p hp => N5 p (List.mem_append_left _ hp)) (by omega) hv' (by simp; omega) ?_
    intro us2 e2 t2 h6 tk6 k6 g6 hs6
    obtain ⟨F7, N7⟩ := afterM (mu := [(q, _)]) (rest := keep ++ [(rt, ot), (d, od), (r2, o2), (r1, o1), (L + 1 + 1 + 1, po), (L + 1 + 1, ro'), (L + 1, ho)]) (mu' := [(q, listOf us2.toArray e2)]) F₁ N5 (by
      intro p hp r hr
      rw [List.mem_singleton.mp hp]
      rcases List.mem_append.mp hr with hr | hr
      · exact Ne.symm (hsep r hr (q, _) (.head _))
      · exact nq' r hr) k6 rfl (by intro p hp; rw [List.mem_singleton.mp hp]; exact g6)
    have hst : (popSt xs (i + 1)).2 = (popP (popSt xs i).2).2 ∧ (popSt xs (i + 1)).1 = (popSt xs i).1 ++ [(popP (popSt xs i).2).1] := ⟨rfl, rfl⟩
    refine ⟨?_, EltPostG.intro (us2, e2) F7 N7 (fun p hp => List.mem_append_right _ (List.mem_append_left _ hp)) ?_ ⟨?_, ?_⟩⟩
    · have := strsAre_len hY; rw [len_popSt1] at this; omega
    · intro p hp
      rcases List.mem_cons.mp hp with rfl | hp
      · exact .head _
      · exact List.mem_append_right _ (List.mem_append_right _ hp)
    · rw [hst.1]; unfold popP; split <;> rename_i q <;> simp only [q, if_true, if_false] at hs6 <;> exact hs6
    · rw [hst.2]
      have e1 : (if (popSt xs i).2.dropLast = [] then (popSt xs i).2.getLast?.getD default else (popSt xs i).2.dropLast.getD 0 default) = (popP (popSt xs i).2).1 := by unfold popP; split <;> rfl
      rw [← e1]
      exact strsAre_snoc hY
  · rintro ⟨us', e'⟩ ys D eD h tk ⟨hP, hY⟩ F₁ N₁ hD
    dsimp only at hP hY F₁ N₁ hD ⊢
    rw [i2.length] at hP hY
    have hz := len_popSt xs qs.length
    have hnil : (popSt xs qs.length).2 = [] := List.eq_nil_of_length_eq_zero (by rw [hz, hxl]; omega)
    rw [hnil] at hP
    obtain rfl := strsAre_nil hP
    exact k D ys eD ro' q e' _ _ _ F₁ ⟨rfl, rfl, rfl, rfl, rfl, rfl, rfl, rfl, rfl, trivial⟩ N₁ hcell hY (Nat.ne_of_gt (hD (L + 1 + 1 + 1, po) (.tail _ (.tail _ (.tail _ (.tail _ (.tail _ (.head _))))))))
end

section
local macro_rules | `(tactic| walk_at "stopq") => `(tactic| (fail_if_success (with_reducible show wpAny _ _ (compareOp _ (Value.ref _) (Value.ref _)) _ _ _)))
theorem neNil {prog : Program} {w : World} {A : Around} {E : Value → Shared → Prop} {s : Shared} {Q : Value → Shared → Prop} {a b : Addr} (l : s.heap.IsList a #[]) (lx : s.heap.IsList b #[]) (hu : A.units + 64 < cLine)
    (h : Q (.bool false) s) : wpAny (model prog w) A (compareOp .NotEq (.ref a) (.ref b)) Q E s :=
  neTexts (vs := []) (us := []) l .nil lx .nil rfl (fun _ h => nomatch h) hu h
/-- the two tests -/
theorem seg5 {w mean mg mb outer A₀ base g L m} {dp un : Nat} {gd cdv} {s : Shared} {Q}
    (U : UBase w mean mg mb outer A₀ base g) (hdp : dp + 50 < recursionLimit) (hu : un + 100 < cLine)
    {c : Nat} (hc : c < 256) {a1 a2 r1 r2 rt rs d q : Addr} {tm th tc : Tok} {host : Str} {us1 us2 ut us : List Value} {e1 e2 et es ed eq : Nat} {P1 P2 : List (List Int)} {po ro ho : Obj}
    (F : Fr g L s.heap m) (hm : Ok [(Str.ofString "mark", .str (S [c]) tm), (Str.ofString "first", .ref a1), (Str.ofString "second", .ref a2), (Str.ofString "host", .str host th), (Str.ofString "code", .int (c : Int) tc), (Str.ofString "ones", .ref r1), (Str.ofString "twos", .ref r2), (Str.ofString "told", .ref rt), (Str.ofString "others", .ref rs)] m)
    (N : News g L s.heap [(rs, listOf us.toArray es), (q, listOf #[] eq), (rt, listOf ut.toArray et), (d, listOf #[] ed), (r2, listOf us2.toArray e2), (r1, listOf us1.toArray e1), (L + 1 + 1 + 1, po), (L + 1 + 1, ro), (L + 1, ho)]) (hro : ro.data = .cell (some (.ref q))) (hho : ho.data = .cell (some (.ref d)))
    (i1 : PortsAre g us1 P1) (i2 : PortsAre g us2 P2) (hz1 : P1.length < 100) (hz2 : P2.length < 100)
    (hUt : StrsAre ut (P1.map fun p => replyP p c)) (hUs : StrsAre us (P2.map fun p => replyP p c))
    (k : ∀ h' tk', Fr g L h' m → News g L h' [(rs, listOf us.toArray es), (rt, listOf ut.toArray et), (r2, listOf us2.toArray e2), (r1, listOf us1.toArray e1), (L + 1 + 1 + 1, po)] →
      wpAny (model PP w) (ktrTop dp un gd uName underScope L 174 cdv (uCls L) outer) (execs (underBody.drop 11) (uEnv L cdv)) Q (fun _ _ => False) { s with heap := h', toks := tk' }) :
    wpAny (model PP w) (ktrTop dp un gd uName underScope L 174 cdv (uCls L) outer) (execs (underBody.drop 9) (uEnv L cdv)) Q (fun _ _ => False) s := by
  have B := U.B
  have X := U.X
  have T := U.T
  rw [← ov_eq hm] at F k
  refine wpAny_execs_cons ?_
  walk_at "gosq"
  refine neNil (by is_list) (by is_list) (show un + 64 < cLine by omega) ?_
  walk_at "gosq"
  refine neNil (by is_list) (by is_list) (show un + 64 < cLine by omega) ?_
  walk_at "gosq"
  refine wpAny_execs_nil ?_
  rename Fr g L _ _ => F1
  rename News g L _ _ => N1
  have N2 : News g L _ [(rs, listOf us.toArray es), (rt, listOf ut.toArray et), (r2, listOf us2.toArray e2), (r1, listOf us1.toArray e1), (L + 1 + 1 + 1, po)] := fun p hp => N1 p (by
    simp only [List.mem_cons, List.not_mem_nil, or_false] at hp ⊢
    rcases hp with h | h | h | h | h <;> simp [h])
  clear N1
  dsimp only at F1 N2 ⊢
  refine wpAny_execs_cons ?_
  walk_at "gosq"
  refine replies_ct ⟨B, F1, X, T, rfl⟩ N2 (by omega) (N2.isList (.tail _ (.tail _ (.tail _ (.head _))))) (i1.keeps F1.keep) (by omega) ?_
  intro x1 ux1 ex1 h3 tk3 F3 N3 k3 hx1 I3
  walk_at "gosq"
  refine neTexts (N3.isList (.tail _ (.tail _ (.head _)))) hUt (N3.isList (.head _)) I3 rfl (replies_ok i1.port hc) (show un + 64 < cLine by omega) ?_
  walk_at "gosq"
  refine replies_ct ⟨B, F3, X, T, rfl⟩ N3 (by omega) (N3.isList (.tail _ (.tail _ (.tail _ (.head _))))) (i2.keeps F3.keep) (by omega) ?_
  intro x2 ux2 ex2 h4 tk4 F4 N4 k4 hx2 I4
  walk_at "gosq"
  refine neTexts (N4.isList (.tail _ (.tail _ (.head _)))) hUs (N4.isList (.head _)) I4 rfl (replies_ok i2.port hc) (show un + 64 < cLine by omega) ?_
  walk_at "gosq"
  refine wpAny_execs_nil ?_
  exact k _ _ F4 (fun p hp => N4 p (.tail _ (.tail _ hp)))
end

section
local macro_rules | `(tactic| walk_at "stopq") => `(tactic| (fail_if_success (with_reducible show wpAny _ _ (compareOp _ (Value.ref _) (Value.ref _)) _ _ _)))
theorem len_lacksP (code : Int) (ps qs : List (List Int)) : (lacksP code ps qs).length ≤ ps.length := by
  unfold lacksP
  suffices h : ∀ (ps : List (List Int)) (due : List (List Int)), (ps.foldl (lackStep code qs) due).length ≤ due.length + ps.length by simpa using h ps []
  intro ps
  induction ps with
  | nil => intro due; simp
  | cons p ps ih =>
    intro due
    rw [List.foldl_cons]
    have h1 := ih (lackStep code qs due p)
    have h2 : (lackStep code qs due p).length ≤ due.length + 1 := by
      unfold lackStep
      split
      · omega
      · split
        · simp
        · omega
    simp only [List.length_cons]
    omega
/-- the difference of the two -/
theorem seg6 {w mean mg mb outer A₀ base g L m} {dp un : Nat} {gd cdv} {s : Shared} {Q}
    (U : UBase w mean mg mb outer A₀ base g) (hdp : dp + 50 < recursionLimit) (hu : un + 100 < cLine)
    {c : Nat} (hc : c < 256) {a1 a2 r1 r2 rt rs : Addr} {tm th tc : Tok} {host : Str} {us1 us2 ut us : List Value} {e1 e2 et es : Nat} {P1 P2 : List (List Int)} {po : Obj}
    (F : Fr g L s.heap m) (hm : Ok [(Str.ofString "mark", .str (S [c]) tm), (Str.ofString "first", .ref a1), (Str.ofString "second", .ref a2), (Str.ofString "host", .str host th), (Str.ofString "code", .int (c : Int) tc), (Str.ofString "ones", .ref r1), (Str.ofString "twos", .ref r2), (Str.ofString "told", .ref rt), (Str.ofString "others", .ref rs)] m)
    (N : News g L s.heap [(rs, listOf us.toArray es), (rt, listOf ut.toArray et), (r2, listOf us2.toArray e2), (r1, listOf us1.toArray e1), (L + 1 + 1 + 1, po)])
    (i1 : PortsAre g us1 P1) (i2 : PortsAre g us2 P2) (hz1 : P1.length < 100) (hz2 : P2.length < 100)
    (hUt : StrsAre ut (P1.map fun p => replyP p c)) (hUs : StrsAre us (P2.map fun p => replyP p c))
    (hS : sldP (P1.map fun p => replyP p c) (P2.map fun p => replyP p c) = ((lacksP c P1 P2).map (fun p => replyP p c), (lacksP c P2 P1).map (fun p => replyP p c)))
    (k : ∀ g' h' tk' m', KtsTurn (outer.filterMap (·.frame)) g g' → Below A₀ base outer g' → Fr g' L h' m' → Ok [(Str.ofString "mark", .str (S [c]) tm), (Str.ofString "first", .ref a1), (Str.ofString "second", .ref a2), (Str.ofString "host", .str host th), (Str.ofString "code", .int (c : Int) tc), (Str.ofString "ones", .ref r1), (Str.ofString "twos", .ref r2), (Str.ofString "told", .ref rt), (Str.ofString "others", .ref rs)] m' →
      News g' L h' [(rs, listOf us.toArray es), (rt, listOf ut.toArray et), (r2, listOf us2.toArray e2), (r1, listOf us1.toArray e1), (L + 1 + 1 + 1, po)] →
      wpAny (model PP w) (ktrTop dp un gd uName underScope L 174 cdv (uCls L) outer) (execs (underBody.drop 13) (uEnv L cdv)) Q (fun _ _ => False) { s with heap := h', toks := tk' }) :
    wpAny (model PP w) (ktrTop dp un gd uName underScope L 174 cdv (uCls L) outer) (execs (underBody.drop 11) (uEnv L cdv)) Q (fun _ _ => False) s := by
  have B := U.B
  have X := U.X
  have T := U.T
  rw [← ov_eq hm] at F
  refine wpAny_execs_cons ?_
  walk_at "gosq"
  refine sld_ct ⟨B, F, X, T, rfl⟩ U.XB U.TB U.D N (by omega) hu (N.isList (.tail _ (.head _))) hUt (N.isList (.head _)) hUs (by rw [List.length_map]; omega) (by rw [List.length_map]; omega) ?_
  intro rd am au ms ns etd em eu h1 tk1 g' Tn F1 N1 B1 hM hU
  rw [hS] at hM hU
  dsimp only at hM hU
  clear B X T
  have U' := U.turn Tn B1
  have X := U'.X
  have T := U'.T
  have j1 := i1.keepsS (turnS U.D Tn)
  have j2 := i2.keepsS (turnS U.D Tn)
  walk_at "gosq"
  refine wpAny_execs_cons ?_
  walk_at "gosq"
  rename Fr g' L _ _ => F2
  rename News g' L _ _ => N2
  refine lacks_ct ⟨B1, F2, X, T, rfl⟩ N2 (by omega) hu (N2.isList (.tail _ (.tail _ (.tail _ (.tail _ (.tail _ (.tail _ (.head _)))))))) (j1.keeps F2.keep) (N2.isList (.tail _ (.tail _ (.tail _ (.tail _ (.tail _ (.head _))))))) (j2.keeps F2.keep) (by omega) (by omega) ?_
  intro x1 ux1 ex1 h3 tk3 F3 N3 k3 hx1 I3
  have z1 := len_lacksP c P1 P2
  have z2 := len_lacksP c P2 P1
  have hp1 := I3.port
  walk_at "gosq"
  refine replies_ct ⟨B1, F3, X, T, rfl⟩ N3 (by omega) (N3.isList (.head _)) (I3.keeps k3) (by omega) ?_
  intro x2 ux2 ex2 h4 tk4 F4 N4 k4 hx2 I4
  walk_at "gosq"
  refine lacks_ct ⟨B1, F4, X, T, rfl⟩ N4 (by omega) hu (N4.isList (.tail _ (.tail _ (.tail _ (.tail _ (.tail _ (.tail _ (.tail _ (.head _))))))))) (j2.keeps F4.keep) (N4.isList (.tail _ (.tail _ (.tail _ (.tail _ (.tail _ (.tail _ (.tail _ (.tail _ (.head _)))))))))) (j1.keeps F4.keep) (by omega) (by omega) ?_
  intro x3 ux3 ex3 h5 tk5 F5 N5 k5 hx3 I5
  have hp2 := I5.port
  walk_at "gosq"
  refine replies_ct ⟨B1, F5, X, T, rfl⟩ N5 (by omega) (N5.isList (.head _)) (I5.keeps k5) (by omega) ?_
  intro x4 ux4 ex4 h6 tk6 F6 N6 k6 hx4 I6
  walk_at "gosq"
  rename Fr g' L _ _ => F7
  rename News g' L _ _ => N7
  have lm := N7.isList (.tail _ (.tail _ (.tail _ (.tail _ (.tail _ (.tail _ (.head _)))))))
  have lu := N7.isList (.tail _ (.tail _ (.tail _ (.tail _ (.tail _ (.tail _ (.tail _ (.head _))))))))
  rw [← Array.toArray_toList (xs := ms)] at lm
  rw [← Array.toArray_toList (xs := ns)] at lu
  refine nePair (N7 _ (.tail _ (.tail _ (.tail _ (.tail _ (.tail _ (.head _))))))).1 rfl rfl lm hM lu hU (N7 _ (.head _)).1 rfl rfl (N7.isList (.tail _ (.tail _ (.tail _ (.head _))))) I4 (N7.isList (.tail _ (.head _))) I6 (replies_ok hp1 hc) (replies_ok hp2 hc) (show un + 64 < cLine by omega) ?_
  walk_at "gosq"
  refine wpAny_execs_nil ?_
  exact k g' _ _ _ Tn B1 F7 ⟨rfl, rfl, rfl, rfl, rfl, rfl, rfl, rfl, rfl, trivial⟩ (fun p hp => N7 p (.tail _ (.tail _ (.tail _ (.tail _ (.tail _ (.tail _ (.tail _ (.tail _ hp)))))))))
end

section
local macro_rules | `(tactic| walk_at "stopq") => `(tactic| ((fail_if_success (with_reducible show wpAny _ _ (compareOp _ (Value.ref _) (Value.ref _)) _ _ _)); (fail_if_success (with_reducible show wpAny _ _ (call (Value.type "str") _) _ _ _))))
theorem cmp3_small (x y : Str) : (cmp3 x y).natAbs ≤ 1 := by
  unfold cmp3 b2i
  split <;> split <;> decide
/-- the signs -/
theorem seg7 {w mean mg mb outer A₀ base g L m} {dp un : Nat} {gd cdv} {s : Shared} {Q}
    (U : UBase w mean mg mb outer A₀ base g) (hdp : dp + 50 < recursionLimit) (hu : un + 100 < cLine)
    {c : Nat} {a1 a2 r1 r2 rt rs : Addr} {tm th tc : Tok} {host : Str} {vs1 vs2 : List Value} {ps qs : List (List Int)} {R : List (Addr × Obj)}
    (F : Fr g L s.heap m) (hm : Ok [(Str.ofString "mark", .str (S [c]) tm), (Str.ofString "first", .ref a1), (Str.ofString "second", .ref a2), (Str.ofString "host", .str host th), (Str.ofString "code", .int (c : Int) tc), (Str.ofString "ones", .ref r1), (Str.ofString "twos", .ref r2), (Str.ofString "told", .ref rt), (Str.ofString "others", .ref rs)] m)
    (N : News g L s.heap R)
    (l1 : g.IsList a1 vs1.toArray) (i1 : PortsAre g vs1 ps) (l2 : g.IsList a2 vs2.toArray) (i2 : PortsAre g vs2 qs) (hz1 : ps.length < 100) (hz2 : qs.length < 100)
    (hSg : ∀ p q, Port p → Port q → Str.ofString (toString (cmp3 (replyP p c) (replyP q c))) = signP p q c)
    (k : ∀ h' tk' m', Fr g L h' m' → Ok [(Str.ofString "mark", .str (S [c]) tm), (Str.ofString "first", .ref a1), (Str.ofString "second", .ref a2), (Str.ofString "host", .str host th), (Str.ofString "code", .int (c : Int) tc), (Str.ofString "ones", .ref r1), (Str.ofString "twos", .ref r2), (Str.ofString "told", .ref rt), (Str.ofString "others", .ref rs)] m' → News g L h' R →
      wpAny (model PP w) (ktrTop dp un gd uName underScope L 174 cdv (uCls L) outer) (execs (underBody.drop 14) (uEnv L cdv)) Q (fun _ _ => False) { s with heap := h', toks := tk' }) :
    wpAny (model PP w) (ktrTop dp un gd uName underScope L 174 cdv (uCls L) outer) (execs (underBody.drop 13) (uEnv L cdv)) Q (fun _ _ => False) s := by
  have B := U.B
  have X := U.X
  have T := U.T
  rw [← ov_eq hm] at F
  have LL1 := l1
  have LL2 := l2
  refine wpAny_execs_cons ?_
  refine wpAny_For ?_
  walk_at "gosq"
  dsimp only
  refine lto (s := { s with toks := s.toks + 1 }) (k := 4) F N (F.lst LL1) rfl (by have := i1.length; omega) ?_
  intro D1 h1 F1 N1 lt1
  walk_at "gosq"
  dsimp only
  refine forG2 (σ := Unit) (L := L) (fun _ => g) (fun _ => (D1, listOf (vs1.take 4).toArray 0) :: R) (fun _ => [(Str.ofString "mark", .str (S [c]) tm), (Str.ofString "first", .ref a1), (Str.ofString "second", .ref a2), (Str.ofString "host", .str host th), (Str.ofString "code", .int (c : Int) tc), (Str.ofString "ones", .ref r1), (Str.ofString "twos", .ref r2), (Str.ofString "told", .ref rt), (Str.ofString "others", .ref rs)])
    (fun _ _ => True) () rfl (N1.isList (.head _)) F1 N1 (fun p hp => hp) (fun _ _ h m _ F N => N.isList (.head _)) (fun _ _ _ => rfl) ⟨rfl, rfl, rfl, rfl, rfl, rfl, rfl, rfl, rfl, trivial⟩ trivial PassesOwn.never ?_ ?_
  · rintro _ i v m' h tk' I io hv _ F2 N2 hsep
    dsimp only at F2 N2 hsep ⊢
    obtain ⟨a3, us3, p, rfl, hpi, hl3, hi3, hp3⟩ := (i1.take 4).get hv
    clear F1 N1 F N
    walk_at "gosq"
    refine wpAny_execs_cons ?_
    refine wpAny_For ?_
    walk_at "gosq"
    dsimp only
    rename Fr g L _ _ => F3
    rename News g L _ _ => N3
    refine lto (s := ⟨_, _, _, _, _⟩) (k := 4) F3 N3 (F3.lst LL2) rfl (by have := i2.length; omega) ?_
    intro D2 h2 F4 N4 lt2
    walk_at "gosq"
    dsimp only
    have hl3' := hl3
    refine forG2 (σ := Unit) (L := L) (fun _ => g) (fun _ => (D2, listOf (vs2.take 4).toArray 0) :: (I, io) :: (D1, listOf (vs1.take 4).toArray 0) :: R) (fun _ => (Str.ofString "one", .ref a3) :: [(Str.ofString "mark", .str (S [c]) tm), (Str.ofString "first", .ref a1), (Str.ofString "second", .ref a2), (Str.ofString "host", .str host th), (Str.ofString "code", .int (c : Int) tc), (Str.ofString "ones", .ref r1), (Str.ofString "twos", .ref r2), (Str.ofString "told", .ref rt), (Str.ofString "others", .ref rs)])
      (fun _ _ => True) () rfl (N4.isList (.head _)) F4 N4 (fun p hp => hp) (fun _ _ h m _ F N => N.isList (.head _)) ?_ ⟨rfl, rfl, rfl, rfl, rfl, rfl, rfl, rfl, rfl, rfl, trivial⟩ trivial PassesOwn.never ?_ ?_
    · exact fun _ _ _ => rfl
    · rintro _ j v m'' h5 tk5 J jo hv5 _ F5 N5 hsep5
      dsimp only at F5 N5 hsep5 ⊢
      obtain ⟨a4, us4, q, rfl, hqi, hl4, hi4, hp4⟩ := (i2.take 4).get hv5
      have hl4' := hl4
      clear F3 N3 F4 N4
      walk_at "gosq"
      refine wpAny_execs_cons ?_
      walk_at "gosq"
      rename Fr g L _ _ => F6
      rename News g L _ _ => N6
      refine reply_ct ⟨B, F6, X, T, rfl⟩ N6 (by omega) (F6.lst hl3') hi3 hp3 ?_
      intro t7 h7 tk7 F7 N7 k7
      walk_at "gosq"
      refine reply_ct ⟨B, F7, X, T, rfl⟩ N7 (by omega) (F7.lst hl4') hi4 hp4 ?_
      intro t8 h8 tk8 F8 N8 k8
      walk_at "gosq"
      refine cmp_ct ⟨B, F8, X, T, rfl⟩ N8 (by omega) ?_
      intro t9 h9 tk9 F9 N9 k9
      walk_at "gosq"
      refine P.str_of_int ?_ ?_
      · have h1 := cmp3_small (replyP p c) (replyP q c)
        have h2 : (cmp3 (replyP p c) (replyP q c)).natAbs.log2 ≤ (cmp3 (replyP p c) (replyP q c)).natAbs := Nat.log2_le_self _
        omega
      rw [hSg p q hp3 hp4]
      walk_at "gosq"
      refine sign_ct ⟨B, F9, X, T, rfl⟩ N9 (by omega) (F9.lst hl3') hi3 (F9.lst hl4') hi4 (by have := hp3.1; omega) (by have := hp4.1; omega) ?_
      intro t10 h10 tk10 F10 N10 k10
      walk_at "gosq"
      · rename (_ != _) = true => hbad
        exact absurd hbad (by simp)
      refine wpAny_execs_nil ?_
      refine wpAny_execs_nil ?_
      exact TurnG.intro () F10 N10 (fun p hp => .tail _ hp) (.head _) ⟨rfl, rfl, rfl, rfl, rfl, rfl, rfl, rfl, rfl, rfl, trivial⟩ trivial
    · rintro _ m'' h5 tk5 _ F5 N5
      dsimp only at F5 N5 ⊢
      refine wpAny_execs_nil ?_
      refine TurnG.intro () F5 N5 (fun p hp => .tail _ (.tail _ hp)) (.tail _ (.head _)) ⟨rfl, rfl, rfl, rfl, rfl, rfl, rfl, rfl, rfl, trivial⟩ trivial
  · rintro _ m' h tk' _ F2 N2
    dsimp only at F2 N2 ⊢
    exact k _ _ _ F2 ⟨rfl, rfl, rfl, rfl, rfl, rfl, rfl, rfl, rfl, trivial⟩ (fun p hp => N2 p (.tail _ hp))
end

section
local macro_rules | `(tactic| walk_at "stopq") => `(tactic| (fail_if_success (with_reducible show wpAny _ _ (compareOp _ _ _) _ _ _)))
/-- the replies read -/
theorem seg8 {w mean mg mb outer A₀ base g L m} {dp un : Nat} {gd cdv} {s : Shared} {Q}
    (U : UBase w mean mg mb outer A₀ base g) (hdp : dp + 50 < recursionLimit) (hu : un + 100 < cLine)
    {c : Nat} {a1 a2 r1 r2 rt rs : Addr} {tm th tc : Tok} {host : Str} {us1 us2 : List Value} {e1 e2 : Nat} {P1 P2 : List (List Int)} {po os ot : Obj} (hho : PyData.strOk host = true)
    (F : Fr g L s.heap m) (hm : Ok [(Str.ofString "mark", .str (S [c]) tm), (Str.ofString "first", .ref a1), (Str.ofString "second", .ref a2), (Str.ofString "host", .str host th), (Str.ofString "code", .int (c : Int) tc), (Str.ofString "ones", .ref r1), (Str.ofString "twos", .ref r2), (Str.ofString "told", .ref rt), (Str.ofString "others", .ref rs)] m)
    (N : News g L s.heap [(rs, os), (rt, ot), (r2, listOf us2.toArray e2), (r1, listOf us1.toArray e1), (L + 1 + 1 + 1, po)]) (hpo : po.data = .cell none) (nt : rt ≠ L + 1 + 1 + 1) (ns : rs ≠ L + 1 + 1 + 1) (n2 : r2 ≠ L + 1 + 1 + 1) (n1 : r1 ≠ L + 1 + 1 + 1)
    (i1 : PortsAre g us1 P1) (i2 : PortsAre g us2 P2) (hz1 : P1.length < 100) (hz2 : P2.length < 100)
    (hRb : ∀ p, Port p → (c = 41 ∨ c ∈ p.map dcode) → Rd (replyL p c) (some none)) (hRg : ∀ p, Port p → ¬ (c = 41 ∨ c ∈ p.map dcode) → Rd (replyL p c) (some (some (numP p))))
    (k : ∀ g' pt ep tp po' h' tk' m', KtsTurn (outer.filterMap (·.frame)) g g' → Below A₀ base outer g' → Fr g' L h' m' → Ok [(Str.ofString "told", .ref rt)] m' →
      News g' L h' [(pt, tupOf #[.str host th, .int 21 tp] ep), (rt, ot), (L + 1 + 1 + 1, po')] → po'.data = .cell (some (.ref pt)) →
      wpAny (model PP w) (ktrTop dp un gd uName underScope L 174 cdv (uCls L) outer) (execs (underBody.drop 16) (uEnv L cdv)) Q (fun _ _ => False) { s with heap := h', toks := tk' }) :
    wpAny (model PP w) (ktrTop dp un gd uName underScope L 174 cdv (uCls L) outer) (execs (underBody.drop 14) (uEnv L cdv)) Q (fun _ _ => False) s := by
  have B := U.B
  have X := U.X
  have T := U.T
  rw [← ov_eq hm] at F
  refine wpAny_execs_cons ?_
  walk_at "gosq"
  rename_i pt _ hlt _ po' F1 N1 hpo'
  have hcell := hpo'
  refine wpAny_execs_cons ?_
  refine wpAny_For ?_
  walk_at "gosq"
  have hlen1 := i1.length
  have hlen2 := i2.length
  have e16 : sizeLine = 16777216 := rfl
  refine add_lists F1 N1 (N1.isList (.tail _ (.tail _ (.tail _ (.tail _ (.head _)))))) (N1.isList (.tail _ (.tail _ (.tail _ (.head _))))) ?_ (by omega)
  intro h2 F2 N2
  dsimp only at F2 N2 ⊢
  generalize hD : Array.size _ = D at N2 ⊢
  clear hD
  refine forG2 (σ := Heap) (L := L) (fun x => x) (fun _ => [(D, listOf (us1 ++ us2).toArray 0), (pt, tupOf #[.str host th, .int 21 s.toks] 0), (rt, ot), (L + 1 + 1 + 1, po')]) (fun _ => [(Str.ofString "mark", .str (S [c]) tm), (Str.ofString "host", .str host th), (Str.ofString "told", .ref rt)])
    (fun _ g' => KtsTurn (outer.filterMap (·.frame)) g g' ∧ Below A₀ base outer g') g rfl (N2.isList (.head _)) F2 N2 ?_ (fun _ _ h m _ F N => N.isList (.head _)) (fun _ _ _ => rfl) ⟨rfl, rfl, rfl, trivial⟩ ⟨.refl, B⟩ PassesOwn.never ?_ ?_
  · intro p hp
    simp only [List.mem_cons, List.not_mem_nil, or_false] at hp ⊢
    rcases hp with h | h | h | h <;> simp [h]
  · rintro g1 i v m' h tk' I io hv ⟨Tn, B1⟩ F3 N3 hsep
    dsimp only at F3 N3 hsep ⊢
    have U1 := U.turn Tn B1
    have X1 := U1.X
    have T1 := U1.T
    obtain ⟨a3, us3, p, rfl, hpi, hl3, hi3, hp3⟩ := ((i1.append i2).keepsS (turnS U.D Tn)).get hv
    have hl3' := hl3
    clear F1 N1 F2 N2 B X T
    walk_at "gosq"
    refine wpAny_execs_cons ?_
    walk_at "gosq"
    rename Fr g1 L _ _ => F4
    rename News g1 L _ _ => N4
    refine reply_ct ⟨B1, F4, X1, T1, rfl⟩ N4 (by omega) (F4.lst hl3') hi3 hp3 ?_
    intro t5 h5 tk5 F5 N5 k5
    walk_at "gosq"
    have hlr : (replyL p c).length = p.length + 10 := by simp [replyL]
    have htp : IsTup h5 pt #[.str host th, .int 21 s.toks] := ⟨_, (N5 _ (.tail _ (.tail _ (.head _)))).1, rfl, _, rfl⟩
    by_cases hb : c = 41 ∨ c ∈ p.map dcode
    · refine read_ct (l := replyL p c) (o := some none) ⟨B1, F5, X1, T1, rfl⟩ U.XB U.TB U1.D N5 (by omega) hu htp (by have := hp3.1; omega) (by omega) (hRb p hp3 hb) (fun e => by cases e) ?_ (fun n e => by cases e)
      intro _ t6 h6 tk6 g2 Tn2 F6 N6 B2
      have U2 := U1.turn Tn2 B2
      have X2 := U2.X
      have T2 := U2.T
      have hl3s := isListS (turnS U1.D Tn2) hl3'
      clear B1 X1 T1 F5 N5 F4 N4
      walk_at "gosq"
      refine due_ct ⟨B2, F6, X2, T2, rfl⟩ N6 (by omega) (F6.lst hl3s) hi3 hp3 ?_ (fun hn => absurd hb hn)
      intro _ t7 h7 tk7 F7 N7 k7
      walk_at "gosq"
      refine P.ne_str ?_
      rw [bne_self_eq_false]
      walk_at "gosq"
      refine wpAny_execs_nil ?_
      refine wpAny_execs_nil ?_
      exact TurnG.intro g2 F7 N7 (fun p hp => .tail _ hp) (.head _) ⟨rfl, rfl, rfl, trivial⟩ ⟨Tn.trans Tn2, B2⟩
    · refine read_ct (l := replyL p c) (o := some (some (numP p))) ⟨B1, F5, X1, T1, rfl⟩ U.XB U.TB U1.D N5 (by omega) hu htp (by have := hp3.1; omega) (by omega) (hRg p hp3 hb) (fun e => by cases e) (fun e => by cases e) ?_
      intro n en r er tr h6 tk6 F6 N6 k6
      obtain rfl : numP p = n := by injection en with en; injection en
      walk_at "gosq"
      refine due_ct ⟨B1, F6, X1, T1, rfl⟩ N6 (by omega) (F6.lst hl3') hi3 hp3 (fun hn => absurd hn hb) ?_
      intro _ r7 er7 t7 h7 tk7 F7 N7 k7
      walk_at "gosq"
      refine neHp (N7 _ (.tail _ (.head _))).1 rfl rfl (N7 _ (.head _)).1 rfl rfl hho (show un + 64 < cLine by omega) ?_
      walk_at "gosq"
      refine wpAny_execs_nil ?_
      refine wpAny_execs_nil ?_
      exact TurnG.intro g1 F7 N7 (fun p hp => .tail _ (.tail _ (.tail _ hp))) (.tail _ (.tail _ (.head _))) ⟨rfl, rfl, rfl, trivial⟩ ⟨Tn, B1⟩
  · rintro g1 m' h tk' ⟨Tn, B1⟩ F3 N3
    dsimp only at F3 N3 ⊢
    exact k g1 pt 0 _ po' _ _ _ Tn B1 F3 ⟨rfl, trivial⟩ (fun p hp => N3 p (.tail _ hp)) hcell
end

section
local macro_rules | `(tactic| walk_at "stopq") => `(tactic| ((fail_if_success (with_reducible show wpAny _ _ (compareOp _ _ _) _ _ _)); (fail_if_success (with_reducible show wpAny _ _ (subscriptTail _ _ (Value.str _ _) _) _ _ _)); (fail_if_success (with_reducible show wpAny _ _ (subscriptTail _ _ (Value.ref _) _) _ _ _)); (fail_if_success (with_reducible show wpAny _ _ (binaryOp _ _ _) _ _ _))))
theorem lit_228 : Str.ofString "228" = S [50, 50, 56] := by decide +kernel
theorem lit_z : Str.ofString "z)" = S [122, 41] := by decide +kernel
theorem textAt {l : List Nat} {t2 t3 t4 t6 : Tok} {P : Nat → List Nat → Prop} (h0 : P 0 ([50, 50, 56] ++ l.drop 3)) (h1 : P 1 (l.take 4)) (h2 : P 2 l.dropLast) (h3 : P 3 (l.dropLast ++ [122, 41])) :
    ∀ {i : Nat} {v : Value}, ([Value.str (S (50 :: 50 :: 56 :: l.drop 3)) t2, .str (S (l.take 4)) t3, .str (S l.dropLast) t4, .str (S (l.dropLast ++ [122, 41])) t6] : List Value)[i]? = some v → ∃ l' t, v = .str (S l') t ∧ P i l' := by
  intro i v e
  match i, e with
  | 0, e => exact ⟨_, _, (Option.some.inj e).symm, h0⟩
  | 1, e => exact ⟨_, _, (Option.some.inj e).symm, h1⟩
  | 2, e => exact ⟨_, _, (Option.some.inj e).symm, h2⟩
  | 3, e => exact ⟨_, _, (Option.some.inj e).symm, h3⟩
  | n + 4, e => simp at e
def cutOut (i : Nat) : Str := if i = 0 then Str.ofString "reply" else Str.ofString "proto"
def cutOuts (n : Nat) : List Str := (List.range n).map cutOut
theorem cutOuts_succ (n : Nat) : cutOuts (n + 1) = cutOuts n ++ [cutOut n] := by simp [cutOuts, List.range_succ]
/-- the cuts -/
theorem seg9 {w mean mg mb outer A₀ base g L m} {dp un : Nat} {gd cdv} {s : Shared} {Q : Flow → Shared → Prop}
    (U : UBase w mean mg mb outer A₀ base g) (hdp : dp + 50 < recursionLimit) (hu : un + 100 < cLine)
    {pt rt : Addr} {th tp t0 : Tok} {host : Str} {utr : List Value} {ep et : Nat} {l : List Nat} {po : Obj}
    (F : Fr g L s.heap m) (hm : Ok [(Str.ofString "told", .ref rt)] m)
    (N : News g L s.heap [(pt, tupOf #[.str host th, .int 21 tp] ep), (rt, listOf (.str (S l) t0 :: utr).toArray et), (L + 1 + 1 + 1, po)]) (hpo : po.data = .cell (some (.ref pt))) (hutr : utr.length < 1000)
    (hl1 : 5 ≤ l.length) (hl2 : l.length < 100)
    (hR1 : Rd ([50, 50, 56] ++ l.drop 3) none) (hR2 : Rd (l.take 4) (some none)) (hR3 : Rd l.dropLast (some none)) (hR4 : Rd (l.dropLast ++ [122, 41]) (some none))
    (ret : ∀ g' h' tk' m', KtsTurn (outer.filterMap (·.frame)) g g' → Below A₀ base outer g' → Fr g' L h' m' → Q (.ret (.bool true)) { s with heap := h', toks := tk' }) :
    wpAny (model PP w) (ktrTop dp un gd uName underScope L 174 cdv (uCls L) outer) (execs (underBody.drop 16) (uEnv L cdv)) Q (fun _ _ => False) s := by
  have B := U.B
  have X := U.X
  have T := U.T
  rw [← ov_eq hm] at F
  obtain ⟨h0, gn, dr, tk0, os0⟩ := s
  dsimp only at F N ret
  have hcell := hpo
  have hne : l ≠ [] := by intro e; rw [e] at hl1; simp at hl1
  refine wpAny_execs_cons ?_
  walk_at "gosq"
  refine itemN (i := 0) (N.isList (.tail _ (.head _))) rfl (by simp; omega) rfl ?_
  walk_at "gosq"
  dsimp only
  refine sliceFrom (s := ⟨_, _, _, _, _⟩) (k := 3) F N rfl (by omega) (by omega) ?_
  intro h1 t1 tk1 F1 N1
  walk_at "gosq"
  refine addS lit_228 rfl rfl (by simp; omega) ?_
  intro t2 tk2
  walk_at "gosq"
  refine itemN (i := 0) (N1.isList (.tail _ (.head _))) rfl (by simp; omega) rfl ?_
  walk_at "gosq"
  dsimp only
  refine sliceTo (s := ⟨_, _, _, _, _⟩) (k := 4) F1 N1 rfl (by omega) (by omega) ?_
  intro h3 t3 tk3 F3 N3
  walk_at "gosq"
  refine itemN (i := 0) (N3.isList (.tail _ (.head _))) rfl (by simp; omega) rfl ?_
  walk_at "gosq"
  dsimp only
  refine sliceLast (s := ⟨_, _, _, _, _⟩) F3 N3 hne (by omega) ?_
  intro h4 t4 tk4 F4 N4
  walk_at "gosq"
  refine itemN (i := 0) (N4.isList (.tail _ (.head _))) rfl (by simp; omega) rfl ?_
  walk_at "gosq"
  dsimp only
  refine sliceLast (s := ⟨_, _, _, _, _⟩) F4 N4 hne (by omega) ?_
  intro h5 t5 tk5 F5 N5
  walk_at "gosq"
  refine addS rfl lit_z rfl (by simp; omega) ?_
  intro t6 tk6
  walk_at "gosq"
  rename_i cu _ hlt _ F6 N6
  refine wpAny_execs_cons ?_
  walk_at "gosq"
  refine compG (σ := Heap) (L := L) (vs := [Value.str (S (50 :: 50 :: 56 :: l.drop 3)) t2, .str (S (l.take 4)) t3, .str (S l.dropLast) t4, .str (S (l.dropLast ++ [122, 41])) t6]) (fun x => x) (fun _ => [(cu, listOf #[Value.str (S (50 :: 50 :: 56 :: l.drop 3)) t2, .str (S (l.take 4)) t3, .str (S l.dropLast) t4, .str (S (l.dropLast ++ [122, 41])) t6] 0), (pt, tupOf #[.str host th, .int 21 tp] ep), (L + 1 + 1 + 1, po)])
    (fun i g' ys => KtsTurn (outer.filterMap (·.frame)) g g' ∧ Below A₀ base outer g' ∧ StrsAre ys (cutOuts i)) g rfl rfl (N6.isList (.head _)) (fun _ _ _ h _ F N => N.isList (.head _)) F6 N6 ?_ (fun _ => rfl) (by decide) rfl rfl (by simp) ⟨.refl, B, .nil⟩ (fun i c ys hP b hb => hP.1.none_ b hb) ?_ ?_
  · intro p hp
    simp only [List.mem_cons, List.not_mem_nil, or_false] at hp ⊢
    rcases hp with h | h | h <;> simp [h]
  · rintro g1 i v ys h tk keep C mC hv ⟨Tn, B1, hY⟩ F7 N7 hns hx hC hsep
    dsimp only at F7 N7 hsep ⊢
    have U1 := U.turn Tn B1
    have X1 := U1.X
    have T1 := U1.T
    clear F6 N6 B X T
    obtain ⟨l', t', rfl, hRl, hz1, hz2⟩ := textAt (P := fun i l' => Rd l' (if i = 0 then none else some none) ∧ 3 ≤ l'.length ∧ l'.length < 1000) ⟨hR1, by simp, by simp; omega⟩ ⟨hR2, by simp; omega, by simp; omega⟩ ⟨hR3, by simp; omega, by simp; omega⟩ ⟨hR4, by simp; omega, by simp; omega⟩ hv
    have hcm : h.IsCell (L + 1 + 1 + 1) (some (.ref pt)) := ⟨po, (N7 _ (List.mem_append_right _ (.tail _ (.tail _ (.head _))))).1, hcell⟩
    refine wpAny_tests_nil ?_
    walk_at "go"
    have htp : IsTup h pt #[.str host th, .int 21 tp] := ⟨_, (N7 _ (List.mem_append_right _ (.tail _ (.head _)))).1, rfl, _, rfl⟩
    have hyl := strsAre_len hY
    have hyl' : ys.length ≤ i := by rw [hyl]; simp [cutOuts]
    refine read_ct (l := l') ⟨B1, F7, X1, T1, rfl⟩ U.XB U.TB U1.D N7 (by omega) hu htp hz2 hz1 hRl ?_ ?_ ?_
    · intro e t8 h8 tk8 g2 Tn2 F8 N8 B2
      have hi : i = 0 := by
        by_cases hi : i = 0
        · exact hi
        · rw [if_neg hi] at e; cases e
      refine ⟨hyl', EltPostG.intro g2 F8 N8 (fun p hp => List.mem_append_left _ hp) (fun p hp => List.mem_append_right _ hp) ⟨Tn.trans Tn2, B2, ?_⟩⟩
      rw [cutOuts_succ, cutOut, if_pos hi]
      exact strsAre_snoc hY
    · intro e t8 h8 tk8 g2 Tn2 F8 N8 B2
      have hi : i ≠ 0 := by
        intro hi
        rw [if_pos hi] at e; cases e
      refine ⟨hyl', EltPostG.intro g2 F8 N8 (fun p hp => List.mem_append_left _ hp) (fun p hp => List.mem_append_right _ hp) ⟨Tn.trans Tn2, B2, ?_⟩⟩
      rw [cutOuts_succ, cutOut, if_neg hi]
      exact strsAre_snoc hY
    · intro n e
      split at e <;> cases e
  · rintro g1 ys D e h tk ⟨Tn, B1, hY⟩ F7 N7 hD
    dsimp only at F7 N7 hD ⊢
    have U1 := U.turn Tn B1
    have X1 := U1.X
    have T1 := U1.T
    clear F6 N6 B X T
    walk_at "gosq"
    rename Fr g1 L _ _ => F8
    rename News g1 L _ _ => N8
    have hok : OkS (cutOuts 4) := by unfold OkS; decide +kernel
    refine eqTexts (us := [.str (Str.ofString "reply") tk, .str (Str.ofString "proto") (tk + 1), .str (Str.ofString "proto") (tk + 1 + 1), .str (Str.ofString "proto") (tk + 1 + 1 + 1)]) (xs := cutOuts 4) (ys := [Str.ofString "reply", Str.ofString "proto", Str.ofString "proto", Str.ofString "proto"]) (N8.isList (.tail _ (.head _))) hY (N8.isList (.head _)) (.cons _ _ (.cons _ _ (.cons _ _ (.cons _ _ .nil)))) (by decide +kernel) hok (show un + 64 < cLine by omega) ?_
    exact ret g1 _ _ _ Tn B1 F8
end

section
/-- what the plain laws must say of a mark and two shelves -/
structure UPure (c : Nat) (ps qs : List (List Int)) : Prop where
  lt : c < 256
  z1 : ps.length < 100
  z2 : qs.length < 100
  w1 : (walkP c ps).length < 100
  w2 : (walkP c qs).length < 100
  told : (popSt (pushAll c ps) ps.length).1 = (walkP c ps).map fun p => replyP p c
  others : (popSt (hfGo (qs.map fun p => replyP p c) (qs.length / 2)) qs.length).1 = (walkP c qs).map fun p => replyP p c
  sld : sldP ((walkP c ps).map fun p => replyP p c) ((walkP c qs).map fun p => replyP p c) = ((lacksP c (walkP c ps) (walkP c qs)).map (fun p => replyP p c), (lacksP c (walkP c qs) (walkP c ps)).map (fun p => replyP p c))
  sign : ∀ p q, Port p → Port q → Str.ofString (toString (cmp3 (replyP p c) (replyP q c))) = signP p q c
  rb : ∀ p, Port p → (c = 41 ∨ c ∈ p.map dcode) → Rd (replyL p c) (some none)
  rg : ∀ p, Port p → ¬ (c = 41 ∨ c ∈ p.map dcode) → Rd (replyL p c) (some (some (numP p)))
  head : ∃ p r, walkP c ps = p :: r ∧ Port p
  r1 : ∀ p, Port p → Rd ([50, 50, 56] ++ (replyL p c).drop 3) none
  r2 : ∀ p, Port p → Rd ((replyL p c).take 4) (some none)
  r3 : ∀ p, Port p → Rd (replyL p c).dropLast (some none)
  r4 : ∀ p, Port p → Rd ((replyL p c).dropLast ++ [122, 41]) (some none)

theorem under_ct {w mean mg mb outer A₀ base h₀ L m cs} {dp un : Nat} {gd cn a ccd cl} {s : Shared} {Q E} {news}
    (C : Cal w mean mg mb outer A₀ base h₀ L s.heap m cs) (XB : (KH w.params).In base) (TB : Top VV (looseW VV []) mean mg mb base) (D : KtsDicts (outer.filterMap (·.frame)) h₀) (N : News h₀ L s.heap news) (hdp : dp + 100 < recursionLimit) (hu : un + 200 < cLine)
    {a1 a2 : Addr} {vs1 vs2 : List Value} {ps qs : List (List Int)} {c : Nat} {tm th : Tok} {host : Str} (l1 : s.heap.IsList a1 vs1.toArray) (i1 : PortsAre s.heap vs1 ps) (l2 : s.heap.IsList a2 vs2.toArray) (i2 : PortsAre s.heap vs2 qs) (hho : PyData.strOk host = true)
    (hP : UPure c ps qs)
    (ret : ∀ h' tk' g', KtsTurn (outer.filterMap (·.frame)) h₀ g' → Fr g' L h' m → News g' L h' news → Below A₀ base outer g' → Q (.bool true) { s with heap := h', toks := tk' }) :
    wpAny (model PP w) (ktrTop dp un gd cn cs L a ccd cl outer) (call (.ref 174) [.str (S [c]) tm, .ref a1, .ref a2, .str host th]) Q E s := by
  have F := C.F
  have B := C.B
  have D' : KtsDicts ((envX cn cs L a ccd cl :: outer).filterMap (·.frame)) s.heap := dictsPush D F
  refine enterC0 C _ [(Str.ofString "mark", .str (S [c]) tm), (Str.ofString "first", .ref a1), (Str.ofString "second", .ref a2), (Str.ofString "host", .str host th)] uCls
    (fun y => if y = Str.ofString "host" then some (.str host th) else if y = Str.ofString "second" then some (.ref a2) else if y = Str.ofString "first" then some (.ref a1) else if y = Str.ofString "mark" then some (.str (S [c]) tm) else none) (fun _ => none)
    (by k_is) (by k_is) (by omega) rfl rfl (by decide) (fun _ => rfl) (fun _ => rfl) (fun _ => rfl) rfl rfl rfl ?_
  intro L' h₁ tk cells B' F' X' T' N' Y hL'
  clear C
  obtain ⟨po, ro, ho, rfl, hpo, hro, hho'⟩ := Y.three
  replace hpo : po.data = .cell none := hpo
  replace hro : ro.data = .cell none := hro
  replace hho' : ho.data = .cell none := hho'
  have U : UBase w mean mg mb (envX cn cs L a ccd cl :: outer) (ktrTop dp un gd cn cs L a ccd cl outer) base s.heap := ⟨B', XB, TB, D'⟩
  have hdp' : dp + 1 + 50 < recursionLimit := by omega
  have hu' : un + 3 + 100 < cLine := by omega
  refine seg1 (s := ⟨h₁, _, _, tk, _⟩) U hdp' hu' F' ⟨rfl, rfl, rfl, rfl, trivial⟩ N' l1 i1 l2 i2 hP.z1 hP.z2 ?_
  intro r1 us1 e1 r2 us2 e2 tc h2 tk2 m2 F2 ok2 N2 n1 n2 J1 J2
  have n1a : r1 ≠ L' + 1 := Ne.symm (n1 (L' + 1, ho) (.tail _ (.tail _ (.head _))))
  have n1b : r1 ≠ L' + 1 + 1 := Ne.symm (n1 (L' + 1 + 1, ro) (.tail _ (.head _)))
  have n1c : r1 ≠ L' + 1 + 1 + 1 := Ne.symm (n1 (L' + 1 + 1 + 1, po) (.head _))
  have n2a : r2 ≠ L' + 1 := Ne.symm (n2 (L' + 1, ho) (.tail _ (.tail _ (.tail _ (.head _)))))
  have n2b : r2 ≠ L' + 1 + 1 := Ne.symm (n2 (L' + 1 + 1, ro) (.tail _ (.tail _ (.head _))))
  have n2c : r2 ≠ L' + 1 + 1 + 1 := Ne.symm (n2 (L' + 1 + 1 + 1, po) (.tail _ (.head _)))
  refine seg2 (s := ⟨h2, _, _, tk2, _⟩) U hdp' hu' F2 ok2 N2 n2a n1a hho' rfl rfl hpo hro l1 i1 hP.z1 ?_
  intro d ud ed ho2 h3 tk3 m3 F3 ok3 N3 hlt hho2 S3
  refine seg3 (s := ⟨h3, _, _, tk3, _⟩) U hdp' hu' F3 ok3 N3 hlt hho2 S3 (len_pushAll c ps) l1 i1 hP.z1 ?_
  intro rt ut et ed4 h4 tk4 m4 F4 ok4 N4 hdt S4
  rw [hP.told] at S4
  have ntb : rt ≠ L' + 1 + 1 := Nat.ne_of_gt (Nat.lt_trans hlt.2.2.2.1 hdt)
  have ntc : rt ≠ L' + 1 + 1 + 1 := Nat.ne_of_gt (Nat.lt_trans hlt.2.2.1 hdt)
  refine seg4 (s := ⟨h4, _, _, tk4, _⟩) U hdp' hu' F4 ok4 N4 hro ntb (Nat.ne_of_gt hlt.2.2.2.1) n2b n1b l2 i2 hP.z2 ?_
  intro rs us es ro5 q eq h5 tk5 m5 F5 ok5 N5 hro5 S5 nsc
  rw [hP.others] at S5
  refine seg5 (s := ⟨h5, _, _, tk5, _⟩) U hdp' hu' hP.lt F5 ok5 N5 hro5 hho2 J1 J2 hP.w1 hP.w2 S4 S5 ?_
  intro h6 tk6 F6 N6
  refine seg6 (s := ⟨h6, _, _, tk6, _⟩) U hdp' hu' hP.lt F6 ok5 N6 J1 J2 hP.w1 hP.w2 S4 S5 hP.sld ?_
  intro g7 h7 tk7 m7 Tn7 B7 F7 ok7 N7
  have U7 := U.turn Tn7 B7
  have ks := turnS U.D Tn7
  refine seg7 (s := ⟨h7, _, _, tk7, _⟩) U7 hdp' hu' F7 ok7 N7 (isListS ks l1) (i1.keepsS ks) (isListS ks l2) (i2.keepsS ks) hP.z1 hP.z2 hP.sign ?_
  intro h8 tk8 m8 F8 ok8 N8
  refine seg8 (s := ⟨h8, _, _, tk8, _⟩) U7 hdp' hu' hho F8 ok8 N8 hpo ntc nsc n2c n1c (J1.keepsS ks) (J2.keepsS ks) hP.w1 hP.w2 hP.rb hP.rg ?_
  intro g9 pt ep tp po9 h9 tk9 m9 Tn9 B9 F9 ok9 N9 hpo9
  have U9 := U7.turn Tn9 B9
  obtain ⟨p, r, hw, hp⟩ := hP.head
  rw [hw, List.map_cons] at S4
  have hr : r.length < 100 := by have := hP.w1; rw [hw] at this; simp at this; omega
  have hpl : (replyL p c).length = p.length + 10 := by simp [replyL]
  have hp3 := hp.1
  cases S4 with
  | cons _ t0 S4r =>
    rename_i utr
    have hur := strsAre_len S4r
    rw [List.length_map] at hur
    refine seg9 (s := ⟨h9, _, _, tk9, _⟩) (l := replyL p c) (t0 := t0) (utr := utr) U9 hdp' hu' F9 ok9 N9 hpo9 (by omega) (by omega) (by omega) (hP.r1 p hp) (hP.r2 p hp) (hP.r3 p hp) (hP.r4 p hp) ?_
    intro gz hz tkz mz Tz Bz Fz
    exact turnEnd B F N ((Tn7.trans Tn9).trans Tz) Fz fun g' x y z v => ret _ _ g' x y z v
end

section
def lawDef : PySem.Stmt := PySem.Challenge.pw_om0020_01.main.body.getD 26 (.Pass ⟨0, 0, 0, 0⟩)
def lawBody : List PySem.Stmt := stBody lawDef
def lawScope : PySem.Scope := stScope lawDef
abbrev lName : Str := Str.ofString "law"
theorem turnNil {g g' h : Heap} {L : Addr} {m : Str → Option Value} {news : List (Addr × Obj)} (T : KtsTurn (([] : List Env).filterMap (·.frame)) g g') (F : Fr g' L h m) (N : News g' L h news) : Fr g L h m ∧ News g L h news := by
  have k : ∀ b o, g.get? b = some o → g'.get? b = some o := fun b o e => T.other b o e (by simp)
  refine ⟨⟨F.ns, fun b o e => F.keep b o (k b o e), ?_⟩, fun p hp => ⟨(N p hp).1, (N p hp).2.1, ?_⟩⟩
  · rw [← T.size]; exact F.above
  · cases q : g.get? p.1 with
    | none => rfl
    | some o => have := k _ _ q; rw [(N p hp).2.2] at this; cases this
/-- the draws -/
def drawsP (zs : List Int) : List Nat := (zs.take 63).map fun x => (Int.fmod x 1000000).toNat
theorem law1 {w mean mg mb base g A₀ L m} {dp un : Nat} {gd cdv} {fl : Addr} {s : Shared} {Q : Flow → Shared → Prop}
    (U : UBase w mean mg mb [] A₀ base g) (hdp : dp + 200 < recursionLimit) (hu : un + 300 < cLine)
    {a : Addr} {vals : List Value} {zs : List Int} (F : Fr g L s.heap m) (hm : Ok [(Str.ofString "script", .ref a)] m) (N : News g L s.heap []) (l : g.IsList a vals.toArray) (hI : IntsAre vals zs) (hlen : zs.length ≤ 63)
    (k : ∀ rd ud ed h' tk' m', Fr g L h' m' → Ok [(Str.ofString "draws", .ref rd)] m' → News g L h' [(rd, listOf ud.toArray ed)] → IntsAre ud ((drawsP zs).map Int.ofNat) →
      wpAny (model PP w) (ktrTop dp un gd lName lawScope L fl cdv [] []) (execs (lawBody.drop 1) (envX lName lawScope L fl cdv [])) Q (fun _ _ => False) { s with heap := h', toks := tk' }) :
    wpAny (model PP w) (ktrTop dp un gd lName lawScope L fl cdv [] []) (execs (lawBody.drop 0) (envX lName lawScope L fl cdv [])) Q (fun _ _ => False) s := by
  have B := U.B
  have X := U.X
  have T := U.T
  rw [← ov_eq hm] at F
  obtain ⟨h0, gn, dr, tk0, os0⟩ := s
  dsimp only at F N k
  have LL := l
  have hlv := hI.length
  refine wpAny_execs_cons ?_
  refine compOpenU rfl rfl rfl (by decide) ?_
  walk_at "gos"
  rename_i D us h1 F1 N1 hI2 hC2 hL2 l2
  have hul := hI2.length
  refine compU (σ := Unit) (L := L) (fun _ => g) (fun _ => [(D, listOf us.toArray 0)]) (fun i _ ys => IntsAre ys (((zs.take 63).take i).map fun x => Int.fmod x 1000000)) () rfl rfl rfl rfl (N1.isList (.head _)) (fun _ _ _ h _ F N => N.isList (.head _)) F1 N1 (fun p hp => hp) (fun _ => rfl) (by decide) rfl rfl (by omega) .nil (fun _ _ _ _ _ e => e) ?_ ?_
  · rintro _ i v ys h tk keep C mC hv hP F₁ N₁ hns hx hC hsep
    have hi : i < (zs.take 63).length := by have := (List.getElem?_eq_some_iff.mp hv).1; omega
    obtain ⟨t1, g1⟩ := hI2.get i (zs.take 63)[i] (List.getElem?_eq_getElem hi)
    rw [hv] at g1
    cases g1
    dsimp only at hP F₁ N₁ hsep ⊢
    generalize hz : (zs.take 63)[i] = z at *
    refine wpAny_tests_nil ?_
    walk_at "go"
    · have := hP.length; simp at this; omega
    · refine EltPostG.intro () F₁ N₁ (fun p hp => List.mem_append_left _ hp) (fun p hp => List.mem_append_right _ hp) ?_
      rw [show (10 : Int) ^ Int.toNat 6 = 1000000 from rfl, List.take_add_one, List.getElem?_eq_getElem hi, hz, List.map_append]
      exact hP.append (.cons _ _ .nil)
  · rintro _ ys D2 e2 h tk hP F₁ N₁ hD
    dsimp only at hP F₁ N₁ hD ⊢
    refine k D2 ys e2 _ _ _ F₁ ⟨rfl, trivial⟩ (fun p hp => N₁ p (by rw [List.mem_singleton.mp hp]; exact .head _)) ?_
    rw [hul, List.take_length] at hP
    rw [drawsP, List.map_map]
    have e : (zs.take 63).map (Int.ofNat ∘ fun x => (Int.fmod x 1000000).toNat) = (zs.take 63).map fun x => Int.fmod x 1000000 := by
      apply List.map_congr_left
      intro x _
      exact Int.toNat_of_nonneg (Int.fmod_nonneg_of_pos x (by decide))
    rw [e]; exact hP
end

section
theorem lit_h : Str.ofString "h" = S [104] := by decide +kernel
theorem lit_marks : Str.ofString "|0123456789!(:)x" = S [124, 48, 49, 50, 51, 52, 53, 54, 55, 56, 57, 33, 40, 58, 41, 120] := by decide +kernel
local macro_rules | `(tactic| walk_at "stopa") => `(tactic| (fail_if_success (with_reducible show wpAny _ _ (binaryOp Operator.Add _ _) _ _ _)))
local macro_rules | `(tactic| walk_at "goa") => `(tactic| repeat' (walk_at "stop"; walk_at "stopx"; walk_at "stopa"; first | walk_at "mine" | walk1 | (dsimp only; walk1)))
theorem law2 {w mean mg mb base g A₀ L m} {dp un : Nat} {gd cdv} {fl : Addr} {s : Shared} {Q : Flow → Shared → Prop}
    (U : UBase w mean mg mb [] A₀ base g) (hdp : dp + 200 < recursionLimit) (hu : un + 300 < cLine)
    {rd : Addr} {ud : List Value} {ed : Nat} {ns : List Nat} (F : Fr g L s.heap m) (hm : Ok [(Str.ofString "draws", .ref rd)] m) (N : News g L s.heap [(rd, listOf ud.toArray ed)]) (hI : IntsAre ud (ns.map Int.ofNat)) (hlen : ns.length ≤ 63) 
    (k : ∀ fa fb us vs e1 e2 led tp tk th h' tk' m', Fr g L h' m' → Ok [(Str.ofString "place", .int (Int.fmod (ns.map Int.ofNat).sum 16) tp), (Str.ofString "host", .str (S [104, dcode (Int.fmod (ns.map Int.ofNat).sum 7)]) th), (Str.ofString "marks", .str (Str.ofString "|0123456789!(:)x") tk), (Str.ofString "first", .ref fa), (Str.ofString "second", .ref fb)] m' →
      News g L h' ((fa, listOf us.toArray e1) :: (fb, listOf vs.toArray e2) :: led) → PortsIn led us (shelvesP (ns.take 6 ++ [157, 3150, 1015])).1 → PortsIn led vs (shelvesP (ns.take 6 ++ [157, 3150, 1015])).2 →
      wpAny (model PP w) (ktrTop dp un gd lName lawScope L fl cdv [] []) (execs (lawBody.drop 5) (envX lName lawScope L fl cdv [])) Q (fun _ _ => False) { s with heap := h', toks := tk' }) :
    wpAny (model PP w) (ktrTop dp un gd lName lawScope L fl cdv [] []) (execs (lawBody.drop 1) (envX lName lawScope L fl cdv [])) Q (fun _ _ => False) s := by
  have B := U.B
  have X := U.X
  have T := U.T
  rw [← ov_eq hm] at F
  obtain ⟨h0, gn, dr, tk0, os0⟩ := s
  dsimp only at F N k
  have hlv := hI.length
  refine wpAny_execs_cons ?_
  walk_at "gos"
  generalize hS : (List.map Int.ofNat ns).sum = sm at *
  have q0 : 0 ≤ Int.fmod sm 7 := Int.fmod_nonneg_of_pos _ (by decide)
  have q1 : Int.fmod sm 7 < 10 := Int.lt_trans (Int.fmod_lt_of_pos _ (by decide)) (by decide)
  refine wpAny_execs_cons ?_
  walk_at "goa"
  rw [hS, digS_of q0 q1]
  refine addS (ys := [dcode (Int.fmod sm 7)]) lit_h rfl rfl (by simp) ?_
  intro t1 tk1
  walk_at "gos"
  refine wpAny_execs_cons ?_
  walk_at "gos"
  refine wpAny_execs_cons ?_
  walk_at "goa"
  rename IntsAre _ (List.take 6 _) => hI2
  rename Fr g L _ _ => F1
  rename News g L _ _ => N1
  rw [List.length_map] at hlv
  have e16 : sizeLine = 16777216 := rfl
  have hl2 := hI2.length
  rw [List.length_take, List.length_map] at hl2
  refine add_lists F1 N1 (ws := [_, _, _]) (N1.isList (.tail _ (.head _))) (N1.isList (.head _)) ?_ (by simp only [List.length_cons, List.length_nil]; omega)
  intro h3 F3 N3
  dsimp only at F3 N3 ⊢
  generalize hD : Array.size _ = D at N3 ⊢
  clear hD
  have hI3 := hI2.append (IntsAre.cons 157 (tk1 + 1 + 1 + 1 + 1) (IntsAre.cons 3150 (tk1 + 1 + 1 + 1 + 1 + 1) (IntsAre.cons 1015 (tk1 + 1 + 1 + 1 + 1 + 1 + 1) .nil)))
  have e3 : List.take 6 (List.map Int.ofNat ns) ++ [157, 3150, 1015] = (ns.take 6 ++ [157, 3150, 1015]).map Int.ofNat := by rw [List.map_append, List.map_take]; rfl
  rw [e3] at hI3
  walk_at "gos"
  refine shelves_ct ⟨B, F3, X, T, rfl⟩ N3 (by omega) (N3.isList (.head _)) hI3 (by simp; omega) ?_
  intro r fa fb us vs e1 e2 led h4 tk4 F4 N4 k4 P1 P2
  have N5 : News g L h4 ((r, { cls := .type "tuple", data := .seq #[.ref fa, .ref fb] }) :: (fa, listOf us.toArray e1) :: (fb, listOf vs.toArray e2) :: led) := fun p hp => N4 p (List.mem_append_left _ hp)
  clear N4 N3 F3
  walk_at "gos"
  rename Fr g L _ _ => F6
  rename News g L _ _ => N6
  exact k fa fb us vs e1 e2 led _ _ _ _ _ _ F6 ⟨rfl, rfl, rfl, rfl, rfl, trivial⟩ (fun p hp => N6 p (.tail _ hp)) P1 P2
end

section
local macro_rules | `(tactic| walk_at "stopq") => `(tactic| (fail_if_success (with_reducible show wpAny _ _ (subscriptTail _ _ (Value.str _ _) _) _ _ _)))
def marksL : List Nat := [124, 48, 49, 50, 51, 52, 53, 54, 55, 56, 57, 33, 40, 58, 41, 120]
theorem law3 {w mean mg mb base g A₀ L m} {dp un : Nat} {gd cdv} {fl : Addr} {s : Shared} {Q : Flow → Shared → Prop}
    (U : UBase w mean mg mb [] A₀ base g) (hdp : dp + 200 < recursionLimit) (hu : un + 300 < cLine)
    {fa fb : Addr} {us vs : List Value} {e1 e2 : Nat} {led : List (Addr × Obj)} {tp tk th : Tok} {pl : Int} {host : Str} {ps qs : List (List Int)} (p0 : 0 ≤ pl) (p1 : pl < 16) (hho : PyData.strOk host = true)
    (F : Fr g L s.heap m) (hm : Ok [(Str.ofString "place", .int pl tp), (Str.ofString "host", .str host th), (Str.ofString "marks", .str (Str.ofString "|0123456789!(:)x") tk), (Str.ofString "first", .ref fa), (Str.ofString "second", .ref fb)] m)
    (N : News g L s.heap ((fa, listOf us.toArray e1) :: (fb, listOf vs.toArray e2) :: led)) (P1 : PortsIn led us ps) (P2 : PortsIn led vs qs)
    (hP : ∀ c ∈ marksL, UPure c ps qs)
    (ret : ∀ h' tk' m', Fr g L h' m' → Q (.ret (.bool true)) { s with heap := h', toks := tk' }) :
    wpAny (model PP w) (ktrTop dp un gd lName lawScope L fl cdv [] []) (execs (lawBody.drop 5) (envX lName lawScope L fl cdv [])) Q (fun _ _ => False) s := by
  have B := U.B
  have X := U.X
  have T := U.T
  rw [← ov_eq hm] at F
  obtain ⟨h0, gn, dr, tk0, os0⟩ := s
  dsimp only at F N ret
  rw [lit_marks] at F
  obtain ⟨i, rfl⟩ := Int.eq_ofNat_of_zero_le p0
  have hi : i < marksL.length := by simp [marksL]; omega
  refine wpAny_execs_cons ?_
  refine wpAny_For ?_
  walk_at "gosq"
  refine itemR (l := marksL) (i := i) rfl (by simp [marksL]) (List.getElem?_eq_getElem hi) ?_
  walk_at "gosq"
  have hj : (i + 5) % 16 < marksL.length := by show _ < 16; omega
  refine itemR (l := marksL) (i := (i + 5) % 16) (by rw [Int.fmod_eq_emod_of_nonneg _ (by decide)]; omega) (by simp [marksL]) (List.getElem?_eq_getElem hj) ?_
  have m1 : marksL[i] ∈ marksL := List.getElem_mem hi
  have m2 : marksL[(i + 5) % 16] ∈ marksL := List.getElem_mem hj
  generalize marksL[i] = c1 at *
  generalize marksL[(i + 5) % 16] = c2 at *
  walk_at "gosq"
  rename Fr g L _ _ => F1
  rename News g L _ _ => N1
  refine forG2 (σ := Unit) (L := L) (vs := [_, _]) (fun _ => g) (fun _ => (_, listOf #[_, _] 0) :: (fa, listOf us.toArray e1) :: (fb, listOf vs.toArray e2) :: led) (fun _ => [(Str.ofString "host", .str host th), (Str.ofString "first", .ref fa), (Str.ofString "second", .ref fb)])
    (fun _ _ => True) () rfl (N1.isList (.head _)) F1 N1 (fun p hp => hp) (fun _ _ h m _ F N => N.isList (.head _)) (fun _ _ _ => rfl) ⟨rfl, rfl, rfl, trivial⟩ trivial PassesOwn.never ?_ ?_
  · rintro _ k v m' h tk' I io hv _ F2 N2 hsep
    dsimp only at F2 N2 hsep ⊢
    clear F1 N1
    have hc : ∃ c t, v = .str (S [c]) t ∧ c ∈ marksL := by
      match k, hv with
      | 0, e => exact ⟨_, _, (Option.some.inj e).symm, m1⟩
      | 1, e => exact ⟨_, _, (Option.some.inj e).symm, m2⟩
      | n + 2, e => simp at e
    obtain ⟨c, t, rfl, hcm⟩ := hc
    walk_at "gosq"
    refine wpAny_execs_cons ?_
    walk_at "gosq"
    rename Fr g L _ _ => F3
    rename News g L _ _ => N3
    have NL : News g L _ led := fun p hp => N3 p (.tail _ (.tail _ (.tail _ (.tail _ hp))))
    refine under_ct ⟨B, F3, X, T, rfl⟩ U.XB U.TB U.D N3 (by omega) (by omega) (N3.isList (.tail _ (.tail _ (.head _)))) (P1.are NL) (N3.isList (.tail _ (.tail _ (.tail _ (.head _))))) (P2.are NL) hho (hP c hcm) ?_
    intro h4 tk4 g4 Tn F4 N4 B4
    obtain ⟨F5, N5⟩ := turnNil Tn F4 N4
    walk_at "gosq"
    refine wpAny_execs_nil ?_
    refine wpAny_execs_nil ?_
    exact TurnG.intro () F5 N5 (fun p hp => .tail _ hp) (.head _) ⟨rfl, rfl, rfl, trivial⟩ trivial
  · rintro _ m' h tk' _ F2 N2
    dsimp only at F2 N2 ⊢
    refine wpAny_execs_cons ?_
    walk_at "gosq"
    exact ret _ _ _ F2
end

section
theorem law_body {w mean mg mb base g A₀ L m} {dp un : Nat} {gd cdv} {fl : Addr} {s : Shared} {Q : Flow → Shared → Prop}
    (U : UBase w mean mg mb [] A₀ base g) (hdp : dp + 200 < recursionLimit) (hu : un + 300 < cLine)
    {a : Addr} {vals : List Value} {zs : List Int} (F : Fr g L s.heap m) (hm : m (Str.ofString "script") = some (.ref a)) (N : News g L s.heap []) (l : g.IsList a vals.toArray) (hI : IntsAre vals zs) (hlen : zs.length ≤ 63)
    (hP : ∀ c ∈ marksL, UPure c (shelvesP ((drawsP zs).take 6 ++ [157, 3150, 1015])).1 (shelvesP ((drawsP zs).take 6 ++ [157, 3150, 1015])).2)
    (ret : ∀ h' tk' m', Fr g L h' m' → Q (.ret (.bool true)) { s with heap := h', toks := tk' }) :
    wpAny (model PP w) (ktrTop dp un gd lName lawScope L fl cdv [] []) (execs lawBody (envX lName lawScope L fl cdv [])) Q (fun _ _ => False) s := by
  have hdl : (drawsP zs).length ≤ 63 := by unfold drawsP; simp; omega
  refine law1 (s := s) U hdp hu F ⟨hm, trivial⟩ N l hI hlen ?_
  intro rd ud ed h1 tk1 m1 F1 ok1 N1 I1
  refine law2 (s := ⟨h1, _, _, tk1, _⟩) U hdp hu F1 ok1 N1 I1 hdl ?_
  intro fa fb us vs e1 e2 led tp tk th h2 tk2 m2 F2 ok2 N2 P1 P2
  refine law3 (s := ⟨h2, _, _, tk2, _⟩) U hdp hu (Int.fmod_nonneg_of_pos _ (by decide)) (Int.fmod_lt_of_pos _ (by decide)) ?_ F2 ok2 N2 P1 P2 hP ?_
  · generalize hk : Int.fmod (List.map Int.ofNat (drawsP zs)).sum 7 = k
    have q0 : 0 ≤ k := by rw [← hk]; exact Int.fmod_nonneg_of_pos _ (by decide)
    have q1 : k < 7 := by rw [← hk]; exact Int.fmod_lt_of_pos _ (by decide)
    have : dcode k < 1114112 := by unfold dcode; omega
    simp [PyData.strOk, S, this]
  intro h3 tk3 m3 F3
  exact ret _ _ _ F3
theorem law_holds (hP : ∀ zs : List Int, ∀ c ∈ marksL, UPure c (shelvesP ((drawsP zs).take 6 ++ [157, 3150, 1015])).1 (shelvesP ((drawsP zs).take 6 ++ [157, 3150, 1015])).2) : PySem.Challenge.rw_om0020_01.Holds := by
  refine hd rfl rfl rfl ?_
  w_strict (
    (k_fill
     intro w s₀ s₁ mg mb G Y f fo pm cdv dc dv kv hf hdat hcod hdfl hm hgen args vals adrs h1 h2 h3 h4 h5
     have inK := kIn_of Y
     have inX := (Ground.X G).1
     refine Ground.open G ?_
     intro T _ D _ _
     refine guard_noD D (by decide +kernel) ?_
     clear D hm
     wrow_args h1 h2 h3 h4 h5
     refine enter_call ?_
     w_top on
     refine codeAny_mono ?_ (fun _ _ g => GoodW.toG g)
     have K0 := below_caller (Top.heap T)
     w_call any hf hdat hcod hdfl T F
     k_drop); (refine wpAny_mono (law_body (A₀ := callerA) ⟨by assumption, by assumption, by assumption, by intro b hb; cases hb⟩ (by decide) (by decide) (by assumption) rfl (by assumption) (by assumption) (by assumption) ?_ (hP _) ?_) (fun f s' h => h) (fun _ _ h => h.elim)); (· omega); (· intro h' tk' m' F'; refine goodW_bool F' (by assumption) (raisesW_false ?_) ?_; (· wrow_none_raised); (· wrow_post)))
end

section
theorem lt_irr (x : Str) : ¬ ltS x x := List.lt_irrefl _
theorem lt_tr {x y z : Str} (h : ltS x y) (h' : ltS y z) : ltS x z := List.lt_trans h h'
theorem lt_as {x y : Str} (h : ltS x y) : ¬ ltS y x := fun h' => lt_irr _ (lt_tr h h')
theorem lt_tri {x y : Str} (h : ¬ ltS x y) (h' : ¬ ltS y x) : x = y := by
  have e : x.cps.toList = y.cps.toList := List.le_antisymm h' h
  rw [← S_of x, ← S_of y, e]
/-- at most -/
abbrev leS (x y : Str) : Prop := ¬ ltS y x
theorem le_tr {x y z : Str} (h : leS x y) (h' : leS y z) : leS x z := fun q => by
  by_cases e : ltS x y
  · exact h' (lt_tr q e)
  · obtain rfl := lt_tri e h
    exact h' q
theorem lt_le {x y z : Str} (h : ltS x y) (h' : leS y z) : ltS x z := by
  by_cases e : ltS y z
  · exact lt_tr h e
  · obtain rfl := lt_tri e h'
    exact h
abbrev gt (xs : List Str) (i : Nat) : Str := xs.getD i default
theorem gt_set {xs : List Str} {i j : Nat} {v : Str} (h : i < xs.length) : gt (xs.set i v) j = if i = j then v else gt xs j := by
  simp only [gt, List.getD_eq_getElem?_getD, List.getElem?_set]
  split
  · rename_i e; subst e; simp [h]
  · rfl
theorem gt_self {xs : List Str} {i : Nat} {v : Str} (h : i < xs.length) : gt (xs.set i v) i = v := by rw [gt_set h, if_pos rfl]
theorem gt_ne {xs : List Str} {i j : Nat} {v : Str} (h : i < xs.length) (e : j ≠ i) : gt (xs.set i v) j = gt xs j := by rw [gt_set h, if_neg (Ne.symm e)]
theorem set_gt {xs : List Str} {i : Nat} (h : i < xs.length) : xs.set i (gt xs i) = xs := by
  have : gt xs i = xs[i] := by simp [gt, List.getD_eq_getElem?_getD, h]
  rw [this, List.set_getElem_self]
theorem swap_perm {xs : List Str} {p q : Nat} {v : Str} (hp : p < xs.length) (hq : q < xs.length) (h : p ≠ q) : ((xs.set p (gt xs q)).set q v).Perm (xs.set p v) := by
  have e : gt xs q = xs[q] := by simp [gt, List.getD_eq_getElem?_getD, hq]
  rw [e, List.perm_iff_count]
  intro b
  have c1 : (if xs[p] == b then 1 else 0) ≤ xs.count b := by
    split
    · rename_i q; exact List.count_pos_iff.mpr (by rw [← eq_of_beq q]; exact List.getElem_mem hp)
    · exact Nat.zero_le _
  rw [List.count_set (by simpa using hq), List.count_set hp, List.count_set hp, List.getElem_set_ne h]
  split <;> split <;> split <;> simp_all <;> omega
inductive Desc (s : Nat) : Nat → Prop
  | refl : Desc s s
  | step {p : Nat} : Desc s ((p - 1) / 2) → s < p → Desc s p
theorem Desc.le {s p : Nat} (h : Desc s p) : s ≤ p := by
  cases h with
  | refl => exact Nat.le_refl _
  | step _ h => exact Nat.le_of_lt h
theorem Desc.par {s p : Nat} (h : Desc s p) (hlt : s < p) : Desc s ((p - 1) / 2) := by
  cases h with
  | refl => exact absurd hlt (Nat.lt_irrefl _)
  | step h _ => exact h
theorem Desc.zero (p : Nat) : Desc 0 p := by
  induction p using Nat.strongRecOn with
  | ind p ih =>
    by_cases h : p = 0
    · subst h; exact .refl
    · exact .step (ih _ (by omega)) (by omega)
def HeapFrom (k : Nat) (xs : List Str) : Prop := ∀ i, 0 < i → i < xs.length → k ≤ (i - 1) / 2 → leS (gt xs ((i - 1) / 2)) (gt xs i)

theorem sd_ok (new : Str) (start : Nat) : ∀ (pos : Nat) (xs : List Str), pos < xs.length → Desc start pos →
    (∀ i, 0 < i → i < xs.length → start ≤ (i - 1) / 2 → i ≠ pos → (i - 1) / 2 ≠ pos → leS (gt xs ((i - 1) / 2)) (gt xs i)) →
    (∀ i, 0 < i → i < xs.length → (i - 1) / 2 = pos → leS new (gt xs i)) →
    (start < pos → ∀ i, 0 < i → i < xs.length → (i - 1) / 2 = pos → leS (gt xs ((pos - 1) / 2)) (gt xs i)) →
    HeapFrom start (sdGo new start xs pos) ∧ (sdGo new start xs pos).Perm (xs.set pos new) := by
  intro pos
  induction pos using Nat.strongRecOn with
  | ind pos ih =>
  intro xs hp hD I1 I2 I3
  rw [sdGo]
  by_cases hlt : start < pos
  · rw [dif_pos hlt]
    have hpar : (pos - 1) / 2 < pos := by omega
    have hg : xs.getD ((pos - 1) / 2) new = gt xs ((pos - 1) / 2) := by simp [gt, List.getD_eq_getElem?_getD, Nat.lt_trans hpar hp]
    rw [hg]
    have hsp : start ≤ (pos - 1) / 2 := (hD.par hlt).le
    by_cases hc : ltS new (gt xs ((pos - 1) / 2))
    · rw [if_pos hc]
      refine (fun (r : HeapFrom start (sdGo new start (xs.set pos (gt xs ((pos - 1) / 2))) ((pos - 1) / 2)) ∧ _) => ⟨r.1, r.2.trans (swap_perm hp (by omega) (by omega))⟩) (ih ((pos - 1) / 2) hpar (xs.set pos (gt xs ((pos - 1) / 2))) (by simp; omega) (hD.par hlt) ?_ ?_ ?_)
      · intro i i0 il ip n1 n2
        rw [List.length_set] at il
        have n3 : i ≠ pos := by rintro rfl; exact n2 rfl
        by_cases e : (i - 1) / 2 = pos
        · rw [e, gt_self hp, gt_ne hp n3]
          exact I3 hlt i i0 il e
        · rw [gt_ne hp e, gt_ne hp n3]
          exact I1 i i0 il ip n3 e
      · intro i i0 il ip
        rw [List.length_set] at il
        by_cases e : i = pos
        · subst e; rw [gt_self hp]; exact lt_as hc
        · rw [gt_ne hp e]
          have := I1 i i0 il (by omega) e (by omega)
          rw [ip] at this
          exact lt_as (lt_le hc this)
      · intro hs i i0 il ip
        rw [List.length_set] at il
        have h0 := I1 ((pos - 1) / 2) (by omega) (by omega) ((hD.par hlt).par hs).le (by omega) (by omega)
        rw [gt_ne hp (by omega : ((pos - 1) / 2 - 1) / 2 ≠ pos)]
        by_cases e : i = pos
        · subst e; rw [gt_self hp]; exact h0
        · rw [gt_ne hp e]
          have := I1 i i0 il (by omega) e (by omega)
          rw [ip] at this
          exact le_tr h0 this
    · rw [if_neg hc]
      refine ⟨fun i i0 il ip => ?_, .refl _⟩
      rw [List.length_set] at il
      by_cases e : i = pos
      · subst e; rw [gt_self hp, gt_ne hp (by omega)]; exact hc
      · rw [gt_ne hp e]
        by_cases e2 : (i - 1) / 2 = pos
        · rw [e2, gt_self hp]; exact I2 i i0 il e2
        · rw [gt_ne hp e2]; exact I1 i i0 il ip e e2
  · rw [dif_neg hlt]
    refine ⟨fun i i0 il ip => ?_, .refl _⟩
    rw [List.length_set] at il
    have := hD.le
    have e : i ≠ pos := by omega
    rw [gt_ne hp e]
    by_cases e2 : (i - 1) / 2 = pos
    · rw [e2, gt_self hp]; exact I2 i i0 il e2
    · rw [gt_ne hp e2]; exact I1 i i0 il ip e e2

def SuEnd (start : Nat) (v : Str) (xs : List Str) (pos : Nat) : Prop :=
    (suGo xs.length xs pos).2 < xs.length ∧ Desc start (suGo xs.length xs pos).2 ∧ ¬ 2 * (suGo xs.length xs pos).2 + 1 < xs.length ∧ ((suGo xs.length xs pos).1.set (suGo xs.length xs pos).2 v).Perm (xs.set pos v) ∧
    (∀ i, 0 < i → i < xs.length → start ≤ (i - 1) / 2 → i ≠ (suGo xs.length xs pos).2 → leS (gt (suGo xs.length xs pos).1 ((i - 1) / 2)) (gt (suGo xs.length xs pos).1 i))
theorem su_ok (start : Nat) (v : Str) : ∀ (m : Nat) (xs : List Str) (pos : Nat), xs.length - pos ≤ m → pos < xs.length → Desc start pos →
    (∀ i, 0 < i → i < xs.length → start ≤ (i - 1) / 2 → i ≠ pos → (i - 1) / 2 ≠ pos → leS (gt xs ((i - 1) / 2)) (gt xs i)) →
    (start < pos → ∀ i, 0 < i → i < xs.length → (i - 1) / 2 = pos → leS (gt xs ((pos - 1) / 2)) (gt xs i)) →
    SuEnd start v xs pos := by
  intro m
  induction m with
  | zero => intro xs pos h1 h2; omega
  | succ m ih =>
  intro xs pos hm hp hD I1 I3
  by_cases hch : 2 * pos + 1 < xs.length
  · have key : ∀ ch, (ch = 2 * pos + 1 ∨ ch = 2 * pos + 2) → ch < xs.length → (∀ i, i < xs.length → (i - 1) / 2 = pos → 0 < i → i ≠ ch → leS (gt xs ch) (gt xs i)) → suGo xs.length xs pos = suGo xs.length (xs.set pos (gt xs ch)) ch → SuEnd start v xs pos := by
      intro ch hc hcl hsib he
      unfold SuEnd
      rw [he]
      have hpc : (ch - 1) / 2 = pos := by omega
      have hl : (xs.set pos (gt xs ch)).length = xs.length := List.length_set ..
      have := ih (xs.set pos (gt xs ch)) ch (by rw [hl]; omega) (by rw [hl]; exact hcl) (.step (by rw [hpc]; exact hD) (by have := hD.le; omega)) ?_ ?_
      · unfold SuEnd at this
        rw [hl] at this
        obtain ⟨a, b, c, d, e⟩ := this
        exact ⟨a, b, c, d.trans (swap_perm hp hcl (by omega)), e⟩
      · intro i i0 il ip n1 n2
        rw [hl] at il
        by_cases e : i = pos
        · subst e
          rw [gt_self hp, gt_ne hp (by omega)]
          exact I3 (by omega) ch (by omega) hcl hpc
        · rw [gt_ne hp e]
          by_cases e2 : (i - 1) / 2 = pos
          · rw [e2, gt_self hp]; exact hsib i il e2 i0 n1
          · rw [gt_ne hp e2]; exact I1 i i0 il ip e e2
      · intro _ i i0 il ip
        rw [hl] at il
        rw [hpc, gt_self hp, gt_ne hp (by omega)]
        have := I1 i i0 il (by have := hD.le; omega) (by omega) (by omega)
        rw [ip] at this
        exact this
    by_cases hr : 2 * pos + 2 < xs.length ∧ ¬ ltS (xs.getD (2 * pos + 1) default) (xs.getD (2 * pos + 2) default)
    · refine key (2 * pos + 2) (.inr rfl) hr.1 (fun i il ip i0 n => ?_) (su2 hr.1 hr.2)
      have : i = 2 * pos + 1 := by omega
      subst this
      exact hr.2
    · refine key (2 * pos + 1) (.inl rfl) hch (fun i il ip i0 n => ?_) (su1 hch fun h => Classical.not_not.mp fun q => hr ⟨h, q⟩)
      have : i = 2 * pos + 2 := by omega
      subst this
      have : ltS (gt xs (2 * pos + 1)) (gt xs (2 * pos + 2)) := Classical.not_not.mp fun q => hr ⟨il, q⟩
      exact lt_as this
  · unfold SuEnd
    rw [su3 hch]
    refine ⟨hp, hD, hch, .refl _, fun i i0 il ip n => I1 i i0 il ip n ?_⟩
    show (i - 1) / 2 ≠ pos
    omega

theorem suP_ok {xs : List Str} {k : Nat} (hk : k < xs.length) (h : HeapFrom (k + 1) xs) : HeapFrom k (suP xs k) ∧ (suP xs k).Perm xs := by
  obtain ⟨a, b, c, d, e⟩ := su_ok k (gt xs k) (xs.length - k) xs k (Nat.le_refl _) hk .refl (fun i i0 il ip n1 n2 => h i i0 il (by omega)) (fun h => absurd h (Nat.lt_irrefl _))
  unfold suP
  generalize hp : (suGo xs.length xs k).2 = p at *
  generalize hy : (suGo xs.length xs k).1 = ys at *
  have hl : ys.length = xs.length := by rw [← hy]; exact len_suGo _ _ _
  have hpl : p < ys.length := by omega
  have := sd_ok (gt xs k) k p (ys.set p (gt xs k)) (by simp; omega) b (fun i i0 il ip n1 n2 => by
    rw [List.length_set, hl] at il
    rw [gt_ne hpl n2, gt_ne hpl n1]
    exact e i i0 il ip n1) (fun i i0 il ip => by rw [List.length_set, hl] at il; omega) (fun _ i i0 il ip => by rw [List.length_set, hl] at il; omega)
  refine ⟨this.1, this.2.trans ?_⟩
  rw [List.set_set]
  refine d.trans ?_
  rw [set_gt hk]
theorem hf_ok : ∀ (k : Nat) (xs : List Str), k ≤ xs.length → HeapFrom k xs → HeapFrom 0 (hfGo xs k) ∧ (hfGo xs k).Perm xs
  | 0, xs, _, h => ⟨h, .refl _⟩
  | k + 1, xs, hk, h => by
    obtain ⟨a, b⟩ := suP_ok hk h
    obtain ⟨c, d⟩ := hf_ok k (suP xs k) (by rw [len_suP]; omega) a
    exact ⟨c, d.trans b⟩
theorem heapify_ok (xs : List Str) : HeapFrom 0 (hfGo xs (xs.length / 2)) ∧ (hfGo xs (xs.length / 2)).Perm xs :=
  hf_ok _ xs (by omega) fun i i0 il ip => by omega
theorem push_ok {xs : List Str} (x : Str) (h : HeapFrom 0 xs) : HeapFrom 0 (pushP xs x) ∧ (pushP xs x).Perm (xs ++ [x]) := by
  unfold pushP
  have ge : ∀ i, i < xs.length → gt (xs ++ [x]) i = gt xs i := fun i hi => by simp [gt, List.getD_eq_getElem?_getD, List.getElem?_append_left hi]
  have := sd_ok x 0 xs.length (xs ++ [x]) (by simp) (.zero _) (fun i i0 il ip n1 n2 => by
    simp at il
    rw [ge i (by omega), ge _ (by omega)]
    exact h i i0 (by omega) ip) (fun i i0 il ip => by simp at il; omega) (fun _ i i0 il ip => by simp at il; omega)
  refine ⟨this.1, ?_⟩
  have e : (xs ++ [x]).set xs.length x = xs ++ [x] := by simp
  have h2 := this.2
  rw [e] at h2
  exact h2
theorem heap_min {xs : List Str} (h : HeapFrom 0 xs) : ∀ i, i < xs.length → leS (gt xs 0) (gt xs i) := by
  intro i
  induction i using Nat.strongRecOn with
  | ind i ih =>
    intro hi
    by_cases e : i = 0
    · subst e; exact lt_irr _
    · exact le_tr (ih ((i - 1) / 2) (by omega) (by omega)) (h i (by omega) hi (Nat.zero_le _))
theorem pop_ok {xs : List Str} (hn : xs ≠ []) (h : HeapFrom 0 xs) : HeapFrom 0 (popP xs).2 ∧ ((popP xs).1 :: (popP xs).2).Perm xs ∧ ∀ z ∈ xs, leS (popP xs).1 z := by
  obtain ⟨ys, y, rfl⟩ : ∃ ys y, xs = ys ++ [y] := ⟨xs.dropLast, xs.getLast hn, (List.dropLast_concat_getLast hn).symm⟩
  have hmin : ∀ z ∈ ys ++ [y], leS (gt (ys ++ [y]) 0) z := fun z hz => by
    obtain ⟨i, hi, rfl⟩ := List.getElem_of_mem hz
    have := heap_min h i hi
    rwa [show gt (ys ++ [y]) i = (ys ++ [y])[i] by simp only [gt, List.getD_eq_getElem?_getD, List.getElem?_eq_getElem hi, Option.getD_some]] at this
  unfold popP
  rw [List.dropLast_concat, List.getLast?_concat, Option.getD_some]
  cases ys with
  | nil =>
    rw [if_pos rfl]
    exact ⟨fun i i0 il => by simp at il, .refl _, hmin⟩
  | cons x t =>
    rw [if_neg (by simp)]
    have hH : HeapFrom 1 ((x :: t).set 0 y) := fun i i0 il ip => by
      rw [List.length_set] at il
      have i2 : (i - 1) / 2 ≠ 0 := by omega
      rw [gt_ne (by simp) i2, gt_ne (by simp) (by omega)]
      have := h i i0 (by simp at il ⊢; omega) (Nat.zero_le _)
      have ge : ∀ i, i < (x :: t).length → gt ((x :: t) ++ [y]) i = gt (x :: t) i := fun i hi => by simp only [gt, List.getD_eq_getElem?_getD, List.getElem?_append_left hi]
      rwa [ge i il, ge _ (by omega)] at this
    obtain ⟨a, b⟩ := suP_ok (k := 0) (by simp) hH
    refine ⟨a, ?_, hmin⟩
    show (x :: suP ((x :: t).set 0 y) 0).Perm (x :: (t ++ [y]))
    refine .cons _ (b.trans ?_)
    show (y :: t).Perm (t ++ [y])
    exact (List.perm_append_singleton y t).symm
abbrev SortedS (xs : List Str) : Prop := xs.Pairwise leS
theorem popSt_ok {xs : List Str} (h : HeapFrom 0 xs) : ∀ i, i ≤ xs.length → HeapFrom 0 (popSt xs i).2 ∧ ((popSt xs i).1 ++ (popSt xs i).2).Perm xs ∧ SortedS (popSt xs i).1 ∧ ∀ a ∈ (popSt xs i).1, ∀ b ∈ (popSt xs i).2, leS a b
  | 0, _ => ⟨h, .refl _, .nil, fun _ h => nomatch h⟩
  | i + 1, hi => by
    obtain ⟨h1, h2, h3, h4⟩ := popSt_ok h i (by omega)
    have hl := len_popSt xs i
    have hn : (popSt xs i).2 ≠ [] := by intro e; rw [e] at hl; simp at hl; omega
    obtain ⟨p1, p2, p3⟩ := pop_ok hn h1
    show HeapFrom 0 (popP (popSt xs i).2).2 ∧ (((popSt xs i).1 ++ [(popP (popSt xs i).2).1]) ++ (popP (popSt xs i).2).2).Perm xs ∧ SortedS ((popSt xs i).1 ++ [(popP (popSt xs i).2).1]) ∧ ∀ a ∈ (popSt xs i).1 ++ [(popP (popSt xs i).2).1], ∀ b ∈ (popP (popSt xs i).2).2, leS a b
    have m1 : (popP (popSt xs i).2).1 ∈ (popSt xs i).2 := p2.mem_iff.mp (.head _)
    have m2 : ∀ b ∈ (popP (popSt xs i).2).2, b ∈ (popSt xs i).2 := fun b hb => p2.mem_iff.mp (.tail _ hb)
    refine ⟨p1, ?_, ?_, ?_⟩
    · rw [List.append_assoc]
      exact (p2.append_left _).trans h2
    · rw [SortedS, List.pairwise_append]
      exact ⟨h3, List.pairwise_singleton _ _, fun a ha b hb => by rw [List.mem_singleton.mp hb]; exact h4 a ha _ m1⟩
    · intro a ha b hb
      rcases List.mem_append.mp ha with ha | ha
      · exact h4 a ha b (m2 b hb)
      · rw [List.mem_singleton.mp ha]; exact p3 b (m2 b hb)
theorem sorted_unique : ∀ {xs ys : List Str}, SortedS xs → SortedS ys → xs.Perm ys → xs = ys
  | [], ys, _, _, h => (List.nil_perm.mp h).symm
  | x :: xs, [], _, _, h => absurd (List.perm_nil.mp h) (by simp)
  | x :: xs, y :: ys, hx, hy, h => by
    have e : x = y := by
      rcases List.mem_cons.mp (h.mem_iff.mp (.head _)) with e | e
      · exact e
      · rcases List.mem_cons.mp (h.mem_iff.mpr (.head _)) with e' | e'
        · exact e'.symm
        · exact (lt_tri ((List.pairwise_cons.mp hx).1 y e') ((List.pairwise_cons.mp hy).1 x e)).symm
    subst e
    rw [sorted_unique (List.pairwise_cons.mp hx).2 (List.pairwise_cons.mp hy).2 ((List.perm_cons x).mp h)]
theorem popSt_sorted {xs ys : List Str} (h : HeapFrom 0 xs) (hp : xs.Perm ys) {n : Nat} (hn : ys.length = n) {zs : List Str} (hz : SortedS zs) (hzp : zs.Perm ys) : (popSt xs n).1 = zs := by
  have hl : xs.length = n := by rw [hp.length_eq, hn]
  obtain ⟨_, h2, h3, _⟩ := popSt_ok h n (by omega)
  have e : (popSt xs n).2 = [] := List.eq_nil_of_length_eq_zero (by rw [len_popSt, hl]; omega)
  rw [e, List.append_nil] at h2
  exact sorted_unique h3 hz ((h2.trans hp).trans hzp.symm)
end

section
theorem dcode_le {d : Int} (h : 0 ≤ d ∧ d < 10) : 48 ≤ dcode d ∧ dcode d ≤ 57 := by unfold dcode; omega
theorem dcode_lt {a b : Int} (ha : 0 ≤ a ∧ a < 10) (hb : 0 ≤ b ∧ b < 10) : dcode a < dcode b ↔ a < b := by unfold dcode; omega
theorem dcode_eq {a b : Int} (ha : 0 ≤ a ∧ a < 10) (hb : 0 ≤ b ∧ b < 10) : dcode a = dcode b ↔ a = b := by unfold dcode; omega
abbrev Digs (p : List Int) : Prop := ∀ d ∈ p, 0 ≤ d ∧ d < 10
theorem tail_lt (c : Nat) : ∀ {p q : List Int}, Digs p → Digs q → ((p.map dcode ++ [c, 41] < q.map dcode ++ [c, 41]) ↔ aheadP p q c = true)
  | [], [], _, _ => by simp [aheadP, List.lt_irrefl]
  | [], d :: q, _, hq => by
    have hd := hq d (.head _)
    have hd' := dcode_le hd
    have h2 : c = dcode d → ([41] : List Nat) < q.map dcode ++ [c, 41] := by
      intro e
      cases q with
      | nil => rw [List.map_nil, List.nil_append, List.cons_lt_cons_iff]; exact .inl (by omega)
      | cons x r =>
        have := dcode_le (hq x (.tail _ (.head _)))
        rw [List.map_cons, List.cons_append, List.cons_lt_cons_iff]; exact .inl (by omega)
    rw [List.map_nil, List.nil_append, List.map_cons, List.cons_append, List.cons_lt_cons_iff, aheadP, decide_eq_true_eq]
    constructor
    · rintro (h | ⟨h, _⟩) <;> (unfold dcode at h; omega)
    · intro h
      by_cases e : c = dcode d
      · exact .inr ⟨e, h2 e⟩
      · exact .inl (by unfold dcode at *; omega)
  | d :: p, [], hp, _ => by
    have hd := hp d (.head _)
    have hd' := dcode_le hd
    have h2 : dcode d = c → ¬ (p.map dcode ++ [c, 41] < ([41] : List Nat)) := by
      intro e
      cases p with
      | nil => rw [List.map_nil, List.nil_append, List.cons_lt_cons_iff]; rintro (h | ⟨h, _⟩) <;> omega
      | cons x r =>
        have := dcode_le (hp x (.tail _ (.head _)))
        rw [List.map_cons, List.cons_append, List.cons_lt_cons_iff]; rintro (h | ⟨h, _⟩) <;> omega
    rw [List.map_nil, List.nil_append, List.map_cons, List.cons_append, List.cons_lt_cons_iff, aheadP, decide_eq_true_eq]
    constructor
    · rintro (h | ⟨h, h'⟩)
      · unfold dcode at h; omega
      · exact absurd h' (h2 h)
    · intro h
      exact .inl (by unfold dcode; omega)
  | a :: p, b :: q, hp, hq => by
    have ha := hp a (.head _)
    have hb := hq b (.head _)
    have ih := tail_lt c (p := p) (q := q) (fun d h => hp d (.tail _ h)) (fun d h => hq d (.tail _ h))
    rw [List.map_cons, List.map_cons, List.cons_append, List.cons_append, List.cons_lt_cons_iff, aheadP, ih, dcode_lt ha hb, dcode_eq ha hb]
    by_cases e : a = b
    · rw [if_pos e]; constructor
      · rintro (h | h)
        · omega
        · exact h.2
      · exact fun h => .inr ⟨e, h⟩
    · rw [if_neg e, decide_eq_true_eq]; constructor
      · rintro (h | h)
        · exact h
        · exact absurd h.1 e
      · exact .inl
theorem lt_reply {c : Nat} {p q : List Int} (hp : Port p) (hq : Port q) : ltS (replyP p c) (replyP q c) ↔ aheadP p q c = true := by
  rw [← tail_lt c hp.2.2 hq.2.2]
  unfold ltS replyP
  rw [S_cps, S_cps]
  simp only [replyL, List.cons_append, List.nil_append, List.append_assoc, List.cons_lt_cons_iff, Nat.lt_irrefl, true_and, false_or]
theorem reply_inj {c : Nat} {p q : List Int} (hp : Port p) (hq : Port q) (h : replyP p c = replyP q c) : p = q := by
  have h1 := S_inj h
  unfold replyL at h1
  have h2 : p.map dcode = q.map dcode := by
    have := List.append_cancel_right h1
    exact List.append_cancel_left this
  have key : ∀ {p q : List Int}, Digs p → Digs q → p.map dcode = q.map dcode → p = q := by
    intro p
    induction p with
    | nil => intro q _ _ e; cases q with
      | nil => rfl
      | cons => cases e
    | cons a p ih =>
      intro q hp hq e
      cases q with
      | nil => cases e
      | cons b q =>
        rw [List.map_cons, List.map_cons] at e
        injection e with e1 e2
        rw [(dcode_eq (hp a (.head _)) (hq b (.head _))).mp e1, ih (fun d h => hp d (.tail _ h)) (fun d h => hq d (.tail _ h)) e2]
  exact key hp.2.2 hq.2.2 h2
abbrev AllP (ps : List (List Int)) : Prop := ∀ p ∈ ps, Port p
theorem insP_perm (c : Int) (p : List Int) : ∀ qs : List (List Int), (insP c p qs).Perm (p :: qs)
  | [] => .refl _
  | q :: r => by
    rw [insP]
    split
    · exact .refl _
    · exact ((insP_perm c p r).cons q).trans (.swap _ _ _)
theorem insP_sorted {c : Nat} {p : List Int} (hp : Port p) : ∀ {qs : List (List Int)}, AllP qs → SortedS (qs.map fun p => replyP p c) → SortedS ((insP c p qs).map fun p => replyP p c)
  | [], _, _ => List.pairwise_singleton _ _
  | q :: r, hq, hs => by
    have hq1 := hq q (.head _)
    have hs' := List.pairwise_cons.mp hs
    rw [insP]
    split
    · rename_i h
      have hl := (lt_reply (c := c) hp hq1).mpr h
      refine List.pairwise_cons.mpr ⟨fun x hx => ?_, hs⟩
      rcases List.mem_cons.mp hx with rfl | hx
      · exact lt_as hl
      · exact lt_as (lt_le hl (hs'.1 x hx))
    · rename_i h
      have hl : leS (replyP q c) (replyP p c) := fun z => h ((lt_reply hp hq1).mp z)
      refine List.pairwise_cons.mpr ⟨fun x hx => ?_, insP_sorted hp (fun p h => hq p (.tail _ h)) hs'.2⟩
      obtain ⟨y, hy, rfl⟩ := List.mem_map.mp hx
      rcases List.mem_cons.mp ((insP_perm c p r).mem_iff.mp hy) with rfl | hy
      · exact hl
      · exact hs'.1 _ (List.mem_map_of_mem hy)
theorem walk_ok (c : Nat) {ps : List (List Int)} (hp : AllP ps) : (walkP c ps).Perm ps ∧ SortedS ((walkP c ps).map fun p => replyP p c) := by
  unfold walkP
  suffices h : ∀ (ps row : List (List Int)), AllP ps → AllP row → SortedS (row.map fun p => replyP p c) → (ps.foldl (fun row one => insP c one row) row).Perm (row ++ ps) ∧ SortedS ((ps.foldl (fun row one => insP c one row) row).map fun p => replyP p c) by simpa using h ps [] hp (fun _ h => nomatch h) .nil
  intro ps
  induction ps with
  | nil => intro row _ _ hs; exact ⟨by simp, hs⟩
  | cons p ps ih =>
    intro row h1 h2 hs
    have hpp := h1 p (.head _)
    obtain ⟨a, b⟩ := ih (insP c p row) (fun p h => h1 p (.tail _ h)) (fun q hq => by
      rcases List.mem_cons.mp ((insP_perm c p row).mem_iff.mp hq) with rfl | hq
      · exact hpp
      · exact h2 q hq) (insP_sorted hpp h2 hs)
    refine ⟨a.trans (((insP_perm c p row).append_right ps).trans ?_), b⟩
    show (p :: row ++ ps).Perm (row ++ p :: ps)
    exact List.perm_middle.symm
/-- what a list has that the other lacks, plain -/
def lkS (ys : List Str) : List Str → List Str
  | [] => []
  | e :: xs => if e ∈ ys then lkS ys xs else if ∃ y ∈ ys, ltS e y then e :: lkS ys (xs.dropWhile fun z => decide (z = e)) else e :: lkS ys xs
termination_by xs => xs.length
decreasing_by
  all_goals simp only [List.length_cons]
  all_goals have hx := (List.dropWhile_sublist (fun z => decide (z = e)) (l := xs)).length_le
  all_goals omega
theorem dw_mem {x y : Str} {l : List Str} (h : y ∈ dw x l) : y ∈ l := (List.dropWhile_sublist _).subset h
theorem mem_dw {x y : Str} : ∀ {l : List Str}, y ≠ x → y ∈ l → y ∈ dw x l
  | a :: l, n, h => by
    unfold dw
    rw [List.dropWhile_cons]
    split
    · rename_i e
      rcases List.mem_cons.mp h with rfl | h
      · exact absurd (of_decide_eq_true e) n
      · exact mem_dw n h
    · exact h
theorem dw_sorted {x : Str} {l : List Str} (h : SortedS l) : SortedS (dw x l) := h.sublist (List.dropWhile_sublist _)
/-- behind the dropped ones all are greater -/
theorem dw_gt {x : Str} : ∀ {l : List Str}, SortedS (x :: l) → ∀ y ∈ dw x l, ltS x y
  | [], _, y, h => nomatch h
  | a :: l, hs, y, h => by
    have h1 := List.pairwise_cons.mp hs
    have h2 := List.pairwise_cons.mp h1.2
    unfold dw at h
    rw [List.dropWhile_cons] at h
    split at h
    · rename_i e
      obtain rfl := of_decide_eq_true e
      exact dw_gt (x := a) h1.2 y h
    · rename_i e
      have hne : a ≠ x := fun q => e (decide_eq_true q)
      have hxa : ltS x a := Classical.not_not.mp fun q => hne (lt_tri (h1.1 a (.head _)) q)
      rcases List.mem_cons.mp h with rfl | h
      · exact hxa
      · exact lt_le hxa (h2.1 y h)
theorem lk_congr {ys ys' : List Str} : ∀ (xs : List Str), (∀ x ∈ xs, (x ∈ ys ↔ x ∈ ys') ∧ ((∃ y ∈ ys, ltS x y) ↔ ∃ y ∈ ys', ltS x y)) → lkS ys xs = lkS ys' xs := by
  intro xs
  induction h : xs.length using Nat.strongRecOn generalizing xs with
  | ind n ih =>
  subst h
  intro hc
  cases xs with
  | nil => rw [lkS, lkS]
  | cons e xs =>
    obtain ⟨c1, c2⟩ := hc e (.head _)
    have hr : ∀ x ∈ xs, _ := fun x hx => hc x (.tail _ hx)
    have hd := (List.dropWhile_sublist (fun z => decide (z = e)) (l := xs)).length_le
    rw [lkS, lkS]
    simp only [c1, c2]
    rw [ih xs.length (by simp) xs rfl hr, ih _ (by simp; omega) (xs.dropWhile fun z => decide (z = e)) rfl (fun x hx => hr x (dw_mem hx))]
theorem lk_nil : ∀ xs : List Str, lkS [] xs = xs
  | [] => by rw [lkS]
  | e :: xs => by rw [lkS, if_neg (by simp), if_neg (by simp), lk_nil xs]
/-- of one that the other has nothing is told -/
theorem lk_dw {ys : List Str} {e : Str} (he : e ∈ ys) : ∀ xs : List Str, lkS ys xs = lkS ys (dw e xs)
  | [] => rfl
  | a :: xs => by
    unfold dw
    rw [List.dropWhile_cons]
    split
    · rename_i q
      obtain rfl := of_decide_eq_true q
      rw [lkS, if_pos he]
      exact lk_dw he xs
    · rfl
theorem sld_ok : ∀ (n : Nat) (xs ys : List Str), xs.length + ys.length ≤ n → SortedS xs → SortedS ys → sldP xs ys = (lkS ys xs, lkS xs ys) := by
  intro n
  induction n with
  | zero =>
    intro xs ys h _ _
    have e1 : xs = [] := List.eq_nil_of_length_eq_zero (by omega)
    have e2 : ys = [] := List.eq_nil_of_length_eq_zero (by omega)
    subst e1 e2
    rw [sld_nil1, lkS]
  | succ n ih =>
  intro xs ys hn hx hy
  cases xs with
  | nil => rw [sld_nil1, lk_nil, lkS]
  | cons e xs =>
  cases ys with
  | nil => rw [sld_nil2, lk_nil, lkS]
  | cons a ys =>
    have hx' := List.pairwise_cons.mp hx
    have hy' := List.pairwise_cons.mp hy
    have dl : ∀ (x : Str) (l : List Str), (dw x l).length ≤ l.length := fun x l => (List.dropWhile_sublist _).length_le
    have l1 := dl e xs
    have l2 := dl a ys
    simp only [List.length_cons] at hn
    by_cases h1 : ltS e a
    · rw [sld_lt h1, ih (dw e xs) (a :: ys) (by simp only [List.length_cons]; omega) (dw_sorted hx'.2) hy]
      have hlt : ∀ y ∈ a :: ys, ltS e y := fun y hm => by
        rcases List.mem_cons.mp hm with rfl | hm
        · exact h1
        · exact lt_le h1 (hy'.1 y hm)
      refine Prod.ext ?_ ?_
      · show e :: lkS (a :: ys) (dw e xs) = lkS (a :: ys) (e :: xs)
        rw [lkS, if_neg (fun hm => lt_irr _ (hlt e hm)), if_pos ⟨a, .head _, h1⟩]
      · show lkS (dw e xs) (a :: ys) = lkS (e :: xs) (a :: ys)
        refine lk_congr _ fun y hm => ⟨⟨fun h => .tail _ (dw_mem h), fun h => ?_⟩, ⟨fun ⟨z, hz, q⟩ => ⟨z, .tail _ (dw_mem hz), q⟩, fun ⟨z, hz, q⟩ => ?_⟩⟩
        · rcases List.mem_cons.mp h with rfl | h
          · exact absurd (hlt y hm) (lt_irr _)
          · exact mem_dw (fun z => lt_irr e (z ▸ hlt y hm)) h
        · rcases List.mem_cons.mp hz with rfl | hz
          · exact absurd q (lt_as (hlt y hm))
          · refine ⟨z, mem_dw (fun r => ?_) hz, q⟩
            subst r
            exact lt_as (hlt y hm) q
    · by_cases h2 : ltS a e
      · rw [sld_gt h1 h2, ih (e :: xs) (dw a ys) (by simp only [List.length_cons]; omega) hx (dw_sorted hy'.2)]
        have hlt : ∀ y ∈ e :: xs, ltS a y := fun y hm => by
          rcases List.mem_cons.mp hm with rfl | hm
          · exact h2
          · exact lt_le h2 (hx'.1 y hm)
        refine Prod.ext ?_ ?_
        · show lkS (dw a ys) (e :: xs) = lkS (a :: ys) (e :: xs)
          refine lk_congr _ fun y hm => ⟨⟨fun h => .tail _ (dw_mem h), fun h => ?_⟩, ⟨fun ⟨z, hz, q⟩ => ⟨z, .tail _ (dw_mem hz), q⟩, fun ⟨z, hz, q⟩ => ?_⟩⟩
          · rcases List.mem_cons.mp h with rfl | h
            · exact absurd (hlt y hm) (lt_irr _)
            · exact mem_dw (fun z => lt_irr a (z ▸ hlt y hm)) h
          · rcases List.mem_cons.mp hz with rfl | hz
            · exact absurd q (lt_as (hlt y hm))
            · refine ⟨z, mem_dw (fun r => ?_) hz, q⟩
              subst r
              exact lt_as (hlt y hm) q
        · show a :: lkS (e :: xs) (dw a ys) = lkS (e :: xs) (a :: ys)
          rw [lkS, if_neg (fun hm => lt_irr _ (hlt a hm)), if_pos ⟨e, .head _, h2⟩]
      · obtain rfl := lt_tri h1 h2
        rw [sld_eq h1 h2, ih (dw e xs) (dw e ys) (by omega) (dw_sorted hx'.2) (dw_sorted hy'.2)]
        have gx := dw_gt hx
        have gy := dw_gt hy
        have cg : ∀ (us vs : List Str), (∀ y ∈ dw e us, ltS e y) → lkS (dw e vs) (dw e us) = lkS (e :: vs) (e :: us) := by
          intro us vs hu
          rw [lk_dw (.head _) (e :: us)]
          have e1 : dw e (e :: us) = dw e us := by simp [dw, List.dropWhile]
          rw [e1]
          refine lk_congr _ fun y hm => ⟨⟨fun h => .tail _ (dw_mem h), fun h => ?_⟩, ⟨fun ⟨z, hz, q⟩ => ⟨z, .tail _ (dw_mem hz), q⟩, fun ⟨z, hz, q⟩ => ?_⟩⟩
          · rcases List.mem_cons.mp h with rfl | h
            · exact absurd (hu y hm) (lt_irr _)
            · exact mem_dw (fun z => lt_irr e (z ▸ hu y hm)) h
          · rcases List.mem_cons.mp hz with rfl | hz
            · exact absurd q (lt_as (hu y hm))
            · refine ⟨z, mem_dw (fun r => ?_) hz, q⟩
              subst r
              exact lt_as (hu y hm) q
        exact Prod.ext (cg xs ys gx) (cg ys xs gy)
end

section
open Classical in
noncomputable def restS (c : Nat) (Y : List Str) (o : Option (List Int)) (l : List Str) : List Str :=
  match o with
  | none => l
  | some d => if ∃ y ∈ Y, ltS (replyP d c) y then dw (replyP d c) l else l
theorem dw_cons_ne {x y : Str} {l : List Str} (h : y ≠ x) : dw x (y :: l) = y :: l := by simp [dw, List.dropWhile, h]
theorem dw_cons_eq {x : Str} {l : List Str} : dw x (x :: l) = dw x l := by simp [dw, List.dropWhile]
theorem mem_map_reply {c : Nat} {p : List Int} {qs : List (List Int)} (hp : Port p) (hq : AllP qs) : replyP p c ∈ qs.map (fun p => replyP p c) ↔ p ∈ qs := by
  constructor
  · intro h
    obtain ⟨q, hm, e⟩ := List.mem_map.mp h
    rw [← reply_inj (hq q hm) hp e]; exact hm
  · exact fun h => List.mem_map_of_mem (f := fun p => replyP p c) h
theorem filter_reply {c : Nat} {p : List Int} {qs : List (List Int)} (hp : Port p) (hq : AllP qs) : (qs.filter fun two => aheadP p two c) = [] ↔ ¬ ∃ y ∈ qs.map (fun p => replyP p c), ltS (replyP p c) y := by
  rw [List.filter_eq_nil_iff]
  constructor
  · rintro h ⟨y, hy, hl⟩
    obtain ⟨q, hm, rfl⟩ := List.mem_map.mp hy
    exact h q hm ((lt_reply hp (hq q hm)).mp hl)
  · intro h q hm ha
    exact h ⟨_, List.mem_map_of_mem (f := fun p => replyP p c) hm, (lt_reply hp (hq q hm)).mpr ha⟩
theorem lacks_go {c : Nat} {qs : List (List Int)} (hq : AllP qs) : ∀ (ps due : List (List Int)), AllP ps → AllP due → SortedS (ps.map fun p => replyP p c) →
    (∀ d, due.getLast? = some d → d ∉ qs ∧ ∀ p ∈ ps, leS (replyP d c) (replyP p c)) →
    (ps.foldl (lackStep c qs) due).map (fun p => replyP p c) = due.map (fun p => replyP p c) ++ lkS (qs.map fun p => replyP p c) (restS c (qs.map fun p => replyP p c) due.getLast? (ps.map fun p => replyP p c)) := by
  intro ps
  induction ps with
  | nil =>
    intro due _ _ _ _
    have : restS c (qs.map fun p => replyP p c) due.getLast? [] = [] := by
      unfold restS
      split
      · rfl
      · split <;> rfl
    rw [List.map_nil, this, lkS, List.append_nil, List.foldl_nil]
  | cons p ps ih =>
    intro due hp hd hs hl
    have hpp := hp p (.head _)
    have hs' := List.pairwise_cons.mp hs
    have hle : ∀ q ∈ ps, leS (replyP p c) (replyP q c) := fun q hm => hs'.1 _ (List.mem_map_of_mem (f := fun p => replyP p c) hm)
    have hps : AllP ps := fun q h => hp q (.tail _ h)
    rw [List.foldl_cons, List.map_cons]
    by_cases hin : p ∈ qs
    · rw [lackStep, if_pos hin, ih due hps hd hs'.2 (fun d h => ⟨(hl d h).1, fun q hm => (hl d h).2 q (.tail _ hm)⟩)]
      congr 1
      have hY := (mem_map_reply (c := c) hpp hq).mpr hin
      unfold restS
      split
      · rw [lkS, if_pos hY]
      · rename_i d he
        obtain ⟨hdn, hdl⟩ := hl d he
        have hdp : Port d := hd d (List.mem_of_getLast? he)
        have hne : replyP p c ≠ replyP d c := fun e => hdn (reply_inj hpp hdp e ▸ hin)
        have hlt : ltS (replyP d c) (replyP p c) := Classical.not_not.mp fun q => hne (lt_tri (hdl p (.head _)) q)
        split
        · rw [dw_cons_ne hne, lkS, if_pos hY]
          congr 1
          cases ps with
          | nil => rfl
          | cons p2 ps =>
            rw [List.map_cons]
            refine dw_cons_ne fun e => ?_
            have := lt_le hlt (hle p2 (.head _))
            rw [e] at this
            exact lt_irr _ this
        · rw [lkS, if_pos hY]
    · have hY : replyP p c ∉ qs.map (fun p => replyP p c) := fun h => hin ((mem_map_reply hpp hq).mp h)
      by_cases hC : due = [] ∨ due.getLast? ≠ some p ∨ (qs.filter fun two => aheadP p two c) = []
      · rw [lackStep, if_neg hin, if_pos hC, ih (due ++ [p]) hps (fun q h => by
          rcases List.mem_append.mp h with h | h
          · exact hd q h
          · rw [List.mem_singleton.mp h]; exact hpp) hs'.2 (fun d h => by
          rw [List.getLast?_concat] at h
          cases h
          exact ⟨hin, hle⟩)]
        have e1 : restS c (qs.map fun p => replyP p c) due.getLast? (replyP p c :: ps.map fun p => replyP p c) = replyP p c :: ps.map fun p => replyP p c := by
          unfold restS
          split
          · rfl
          · rename_i d he
            split
            · rename_i hex
              have hdp : Port d := hd d (List.mem_of_getLast? he)
              refine dw_cons_ne fun e => ?_
              obtain rfl := reply_inj hpp hdp e
              rcases hC with h | h | h
              · rw [h] at he; cases he
              · exact h he
              · exact (filter_reply hpp hq).mp h hex
            · rfl
        rw [e1, List.getLast?_concat, List.map_append, List.append_assoc]
        congr 1
        rw [lkS, if_neg hY]
        unfold restS
        dsimp only
        split
        · rfl
        · rfl
      · have h1 : due.getLast? = some p := Classical.not_not.mp fun q => hC (.inr (.inl q))
        have h2 : ∃ y ∈ qs.map (fun p => replyP p c), ltS (replyP p c) y := Classical.not_not.mp fun q => hC (.inr (.inr ((filter_reply hpp hq).mpr q)))
        rw [lackStep, if_neg hin, if_neg hC, ih due hps hd hs'.2 (fun d h => ⟨(hl d h).1, fun q hm => (hl d h).2 q (.tail _ hm)⟩), h1]
        unfold restS
        dsimp only
        rw [if_pos h2, if_pos h2, dw_cons_eq]
theorem lacks_ok {c : Nat} {ps qs : List (List Int)} (hp : AllP ps) (hq : AllP qs) (hs : SortedS (ps.map fun p => replyP p c)) : (lacksP c ps qs).map (fun p => replyP p c) = lkS (qs.map fun p => replyP p c) (ps.map fun p => replyP p c) := by
  unfold lacksP
  rw [lacks_go hq ps [] hp (fun _ h => nomatch h) hs (fun _ h => nomatch h)]
  rfl
theorem sign_ok (c : Nat) (p q : List Int) (hp : Port p) (hq : Port q) : Str.ofString (toString (cmp3 (replyP p c) (replyP q c))) = signP p q c := by
  unfold cmp3 signP
  by_cases h1 : aheadP p q c = true
  · have l1 := (lt_reply hp hq).mpr h1
    rw [if_pos h1, decide_eq_true (show (replyP p c).cps.toList < (replyP q c).cps.toList from l1), decide_eq_false (lt_as l1)]
    rfl
  · have l1 : ¬ ltS (replyP p c) (replyP q c) := fun h => h1 ((lt_reply hp hq).mp h)
    by_cases h2 : aheadP q p c = true
    · have l2 := (lt_reply hq hp).mpr h2
      rw [if_neg h1, if_pos h2, decide_eq_false l1, decide_eq_true (show (replyP q c).cps.toList < (replyP p c).cps.toList from l2)]
      rfl
    · have l2 : ¬ ltS (replyP q c) (replyP p c) := fun h => h2 ((lt_reply hq hp).mp h)
      rw [if_neg h1, if_neg h2, decide_eq_false l1, decide_eq_false l2]
      rfl
end

section
theorem posS_first {l : List Nat} {c lo a : Nat} (h1 : lo ≤ a) (h2 : l[a]? = some c) (h3 : ∀ i, lo ≤ i → i < a → l[i]? ≠ some c) : ∃ r, posS l c lo = a :: r := by
  have hl : a < l.length := (List.getElem?_eq_some_iff.mp h2).1
  unfold posS
  have e : List.range' lo (l.length + 1 - lo) = List.range' lo (a - lo) ++ (a :: List.range' (a + 1) (l.length - a)) := by
    obtain ⟨k, rfl⟩ := Nat.exists_eq_add_of_le h1
    rw [show (lo + k) :: List.range' (lo + k + 1) (l.length - (lo + k)) = List.range' (lo + k) (l.length - (lo + k) + 1) from (List.range'_succ ..).symm, Nat.add_sub_cancel_left, List.range'_append_1]
    congr 1; omega
  rw [e, List.filter_append, List.filter_cons_of_pos (by rw [h2]; simp)]
  have e2 : (List.range' lo (a - lo)).filter (fun i => l[i]? == some c) = [] := by
    rw [List.filter_eq_nil_iff]
    intro i hi
    rw [List.mem_range'_1] at hi
    have := h3 i hi.1 (by omega)
    simpa using this
  rw [e2]
  exact ⟨_, rfl⟩
theorem posS_none {l : List Nat} {c lo : Nat} (h : ∀ i, lo ≤ i → l[i]? ≠ some c) : posS l c lo = [] := by
  unfold posS
  rw [List.filter_eq_nil_iff]
  intro i hi
  rw [List.mem_range'_1] at hi
  simpa using h i hi.1
theorem posS_count (l : List Nat) (c : Nat) : (posS l c 0).length = l.count c := by
  have key : ∀ (n lo : Nat), ((List.range' lo n).filter fun i => l[i]? == some c).length = ((l.drop lo).take n).count c := by
    intro n
    induction n with
    | zero => intro lo; simp
    | succ n ih =>
      intro lo
      rw [List.range'_succ, List.filter_cons]
      by_cases h : lo < l.length
      · rw [List.drop_eq_getElem_cons h, List.take_succ_cons, List.count_cons, List.getElem?_eq_getElem h]
        by_cases e : l[lo] = c
        · simp [e, ih]
        · simp [e, ih]
      · have e1 : l[lo]? = none := List.getElem?_eq_none (by omega)
        rw [e1, if_neg (by simp), ih, List.drop_eq_nil_of_le (by omega), List.drop_eq_nil_of_le (by omega)]
        simp
  unfold posS
  rw [key, List.drop_zero, List.take_of_length_le (by omega)]
abbrev pre8 (c : Nat) : List Nat := [50, 50, 57, 32, 40, c, c, c]
theorem left_at (c : Nat) (r : List Nat) : ∃ q, posS (pre8 c ++ r) 40 0 = 4 :: q :=
  posS_first (Nat.zero_le _) rfl fun i _ hi => by
    match i, hi with
    | 0, _ => simp
    | 1, _ => simp
    | 2, _ => simp
    | 3, _ => simp
theorem rd_close (r : List Nat) : Rd (pre8 41 ++ r) (some none) := by
  obtain ⟨q, h⟩ := left_at 41 r
  obtain ⟨q', h'⟩ := posS_first (l := pre8 41 ++ r) (c := 41) (lo := 5) (a := 5) (Nat.le_refl _) rfl (fun i h1 h2 => by omega)
  exact .differ (x := 41) (y := 40) rfl h h' (by omega) rfl rfl (by decide)
theorem drop5 (c : Nat) (r : List Nat) (i : Nat) (h : 5 ≤ i) : (pre8 c ++ r)[i]? = ([c, c, c] ++ r)[i - 5]? := by
  obtain ⟨k, rfl⟩ := Nat.exists_eq_add_of_le h
  rw [Nat.add_sub_cancel_left, Nat.add_comm]
  rfl
theorem right_at {c : Nat} {r s : List Nat} (h : ∀ x ∈ [c, c, c] ++ r, x ≠ 41) : ∃ q, posS (pre8 c ++ (r ++ 41 :: s)) 41 5 = (8 + r.length) :: q := by
  have e : [c, c, c] ++ (r ++ 41 :: s) = ([c, c, c] ++ r) ++ 41 :: s := by simp
  refine posS_first (by omega) ?_ ?_
  · rw [drop5 _ _ _ (by omega), e, List.getElem?_append_right (by simp; omega)]
    have : 8 + r.length - 5 - ([c, c, c] ++ r).length = 0 := by simp; omega
    rw [this]; rfl
  · intro i h1 h2 hc
    rw [drop5 _ _ _ h1, e, List.getElem?_append_left (by simp; omega)] at hc
    exact h 41 (List.mem_of_getElem? hc) rfl
theorem right_no {c : Nat} {r : List Nat} (h : ∀ x ∈ [c, c, c] ++ r, x ≠ 41) : posS (pre8 c ++ r) 41 5 = [] :=
  posS_none fun i h1 hc => by
    rw [drop5 _ _ _ h1] at hc
    exact h 41 (List.mem_of_getElem? hc) rfl
theorem no41 {c : Nat} {p : List Int} (hp : Port p) (hc : c ≠ 41) : ∀ x ∈ [c, c, c] ++ (p.map dcode ++ [c]), x ≠ 41 := by
  intro x hx
  simp only [List.cons_append, List.nil_append, List.mem_cons, List.mem_append, List.mem_map, List.not_mem_nil, or_false] at hx
  rcases hx with h | h | h | ⟨d, hd, h⟩ | h
  · omega
  · omega
  · omega
  · have := dcode_le (hp.2.2 d hd); omega
  · omega
theorem reply_pre (p : List Int) (c : Nat) : replyL p c = pre8 c ++ (p.map dcode ++ [c] ++ 41 :: []) := by simp [replyL]
theorem reply_cut (p : List Int) (c : Nat) : (replyL p c).dropLast = pre8 c ++ (p.map dcode ++ [c]) := by
  rw [reply_pre, show pre8 c ++ (p.map dcode ++ [c] ++ 41 :: []) = (pre8 c ++ (p.map dcode ++ [c])) ++ [41] by simp, List.dropLast_concat]
theorem digits_num (p : List Int) (hp : Digs p) : ((PySem.NumText.digitsVal (p.map dcode) : Nat) : Int) = numP p := by
  unfold PySem.NumText.digitsVal numP
  suffices h : ∀ (p : List Int) (a : Nat), Digs p → (((p.map dcode).foldl (fun acc c => acc * 10 + (c - 48)) a : Nat) : Int) = p.foldl (fun a d => 10 * a + d) (a : Int) by exact h p 0 hp
  intro p
  induction p with
  | nil => intro a _; rfl
  | cons d p ih =>
    intro a h
    have hd := h d (.head _)
    rw [List.map_cons, List.foldl_cons, List.foldl_cons, ih _ fun x hx => h x (.tail _ hx)]
    congr 1
    unfold dcode
    omega
theorem int_reads {p : List Int} (hp : Port p) : PySem.intText? (S (p.map dcode)) = some (numP p) := by
  rw [PySem.intText_digits (x := S (p.map dcode)), S_cps, digits_num p hp.2.2]
  · rw [S_cps]
    intro x hx
    obtain ⟨d, hd, rfl⟩ := List.mem_map.mp hx
    exact dcode_le (hp.2.2 d hd)
  · rw [S_cps]; simpa using hp.2.1
  · rw [S_length, List.length_map]; have := hp.1; omega
theorem mid_eq (p : List Int) (c : Nat) : ((replyL p c).drop 5).take (8 + (p.map dcode ++ [c]).length - 5) = [c, c, c] ++ p.map dcode ++ [c] := by
  rw [reply_pre]
  show (([c, c, c] ++ (p.map dcode ++ [c] ++ [41]))).take _ = _
  rw [show [c, c, c] ++ (p.map dcode ++ [c] ++ [41]) = ([c, c, c] ++ p.map dcode ++ [c]) ++ [41] by simp, List.take_append_of_le_length (by simp; omega), List.take_of_length_le (by simp; omega)]
open PySem.Builtin.Str in
theorem split_good {p : List Int} {c : Nat} (hp : Port p) (hc : c < 256) (h : c ∉ p.map dcode) : Txt.split (S ([c, c, c] ++ p.map dcode ++ [c])) (S [c]) = [S [], S [], S [], S (p.map dcode), S []] := by
  rw [split_S hc (by simp)]
  obtain ⟨h1, h2, _⟩ := hp
  match p, h1, h2, h with
  | [d], _, _, h =>
    have n1 : dcode d ≠ c := fun e => h (by simp [e])
    have e : posS ([c, c, c] ++ [d].map dcode ++ [c]) c 0 = [0, 1, 2, 4] := by simp [posS, List.range', n1]
    rw [e, if_neg (by simp)]
    rfl
  | [d, d2], _, _, h =>
    have n1 : dcode d ≠ c := fun e => h (by simp [e])
    have n2 : dcode d2 ≠ c := fun e => h (by simp [e])
    have e : posS ([c, c, c] ++ [d, d2].map dcode ++ [c]) c 0 = [0, 1, 2, 5] := by simp [posS, List.range', n1, n2]
    rw [e, if_neg (by simp)]
    rfl
  | [d, d2, d3], _, _, h =>
    have n1 : dcode d ≠ c := fun e => h (by simp [e])
    have n2 : dcode d2 ≠ c := fun e => h (by simp [e])
    have n3 : dcode d3 ≠ c := fun e => h (by simp [e])
    have e : posS ([c, c, c] ++ [d, d2, d3].map dcode ++ [c]) c 0 = [0, 1, 2, 6] := by simp [posS, List.range', n1, n2, n3]
    rw [e, if_neg (by simp)]
    rfl
  | d :: d2 :: d3 :: d4 :: r, h1, _, _ => simp at h1
section
variable {c : Nat} {p : List Int}
theorem reply_at5 (p : List Int) (c : Nat) : (replyL p c)[4 + 1]? = some c := by rw [reply_pre]; rfl
theorem reply_atb (p : List Int) (c : Nat) : (replyL p c)[8 + (p.map dcode ++ [c]).length - 1]? = some c := by
  rw [reply_pre, drop5 _ _ _ (by simp; omega), show [c, c, c] ++ (p.map dcode ++ [c] ++ 41 :: []) = ([c, c, c] ++ p.map dcode) ++ [c, 41] by simp, List.getElem?_append_right (by simp; omega)]
  have : 8 + (p.map dcode ++ [c]).length - 1 - 5 - ([c, c, c] ++ p.map dcode).length = 0 := by simp; omega
  rw [this]; rfl
theorem rd_bad (hc : c < 256) (hp : Port p) (h : c = 41 ∨ c ∈ p.map dcode) : Rd (replyL p c) (some none) := by
  by_cases e : c = 41
  · subst e; rw [reply_pre]; exact rd_close _
  · have h' := h.resolve_left e
    obtain ⟨q, hl⟩ := left_at c (p.map dcode ++ [c] ++ 41 :: [])
    obtain ⟨q', hr⟩ := right_at (s := []) (no41 hp e)
    rw [← reply_pre] at hl hr
    refine .parts (a := 4) (b := 8 + (p.map dcode ++ [c]).length) (x := c) (by rw [reply_pre]; rfl) hl hr (by omega) (by omega) ?_ (reply_at5 p c) (reply_atb p c) hc ?_
    · rw [reply_pre]; simp; omega
    · rw [mid_eq, split_len hc (by simp), posS_count]
      have : 0 < (p.map dcode).count c := List.count_pos_iff.mpr h'
      simp only [List.count_append, List.count_cons, List.count_nil, beq_self_eq_true, if_true]
      omega
theorem rd_good (hc : c < 256) (hp : Port p) (h : ¬ (c = 41 ∨ c ∈ p.map dcode)) : Rd (replyL p c) (some (some (numP p))) := by
  have e : c ≠ 41 := fun q => h (.inl q)
  have h' : c ∉ p.map dcode := fun q => h (.inr q)
  obtain ⟨q, hl⟩ := left_at c (p.map dcode ++ [c] ++ 41 :: [])
  obtain ⟨q', hr⟩ := right_at (s := []) (no41 hp e)
  rw [← reply_pre] at hl hr
  refine .ok (a := 4) (b := 8 + (p.map dcode ++ [c]).length) (x := c) (p0 := S []) (p1 := S []) (p2 := S []) (p3 := S (p.map dcode)) (p4 := S []) (by rw [reply_pre]; rfl) hl hr (by omega) (by omega) ?_ (reply_at5 p c) (reply_atb p c) hc ?_ (int_reads hp) ?_
  · rw [reply_pre]; simp; omega
  · rw [mid_eq]; exact split_good hp hc h'
  · rw [S_length, List.length_map]; have := hp.1; omega
theorem rd_cut1 (p : List Int) (c : Nat) : Rd ([50, 50, 56] ++ (replyL p c).drop 3) none := .reply (by simp)
theorem rd_cut2 (p : List Int) (c : Nat) : Rd ((replyL p c).take 4) (some none) := by
  have e : (replyL p c).take 4 = [50, 50, 57, 32] := by rw [reply_pre]; rfl
  rw [e]
  exact .noleft rfl (by decide)
theorem rd_cut3 (hp : Port p) : Rd (replyL p c).dropLast (some none) := by
  rw [reply_cut]
  by_cases e : c = 41
  · subst e; exact rd_close _
  · obtain ⟨q, hl⟩ := left_at c (p.map dcode ++ [c])
    exact .noright rfl hl (right_no (no41 hp e))
theorem rd_cut4 (hp : Port p) (hz : c ≠ 122) : Rd ((replyL p c).dropLast ++ [122, 41]) (some none) := by
  rw [reply_cut]
  by_cases e : c = 41
  · subst e; rw [List.append_assoc]; exact rd_close _
  · have e1 : pre8 c ++ (p.map dcode ++ [c]) ++ [122, 41] = pre8 c ++ ((p.map dcode ++ [c, 122]) ++ 41 :: []) := by simp
    rw [e1]
    obtain ⟨q, hl⟩ := left_at c ((p.map dcode ++ [c, 122]) ++ 41 :: [])
    obtain ⟨q', hr⟩ := right_at (c := c) (r := p.map dcode ++ [c, 122]) (s := []) (fun x hx => by
      have := no41 hp e x
      simp only [List.cons_append, List.nil_append, List.mem_cons, List.mem_append, List.not_mem_nil, or_false] at hx this
      rcases hx with h | h | h | h | h | h
      · exact this (.inl h)
      · exact this (.inl h)
      · exact this (.inl h)
      · exact this (.inr (.inr (.inr (.inl h))))
      · exact this (.inl h)
      · omega)
    refine .differ (x := c) (y := 122) rfl hl hr (by omega) rfl ?_ hz
    rw [drop5 _ _ _ (by simp; omega), show [c, c, c] ++ ((p.map dcode ++ [c, 122]) ++ 41 :: []) = ([c, c, c] ++ p.map dcode ++ [c]) ++ [122, 41] by simp, List.getElem?_append_right (by simp; omega)]
    have : 8 + (p.map dcode ++ [c, 122]).length - 1 - 5 - ([c, c, c] ++ p.map dcode ++ [c]).length = 0 := by simp; omega
    rw [this]; rfl
end
theorem upure {c : Nat} {ps qs : List (List Int)} (hc : c < 256) (hz : c ≠ 122) (hp : AllP ps) (hq : AllP qs) (z1 : ps.length < 100) (z2 : qs.length < 100) (hn : ps ≠ []) : UPure c ps qs := by
  obtain ⟨a1, s1⟩ := walk_ok c hp
  obtain ⟨a2, s2⟩ := walk_ok c hq
  have p1 : AllP (walkP c ps) := fun p h => hp p (a1.mem_iff.mp h)
  have p2 : AllP (walkP c qs) := fun p h => hq p (a2.mem_iff.mp h)
  have m1 : ((walkP c ps).map fun p => replyP p c).Perm (ps.map fun p => replyP p c) := a1.map _
  have m2 : ((walkP c qs).map fun p => replyP p c).Perm (qs.map fun p => replyP p c) := a2.map _
  have hpush : HeapFrom 0 (pushAll c ps) ∧ (pushAll c ps).Perm (ps.map fun p => replyP p c) := by
    unfold pushAll
    suffices h : ∀ (ps : List (List Int)) (xs : List Str), HeapFrom 0 xs → HeapFrom 0 (ps.foldl (fun h p => pushP h (replyP p c)) xs) ∧ (ps.foldl (fun h p => pushP h (replyP p c)) xs).Perm (xs ++ ps.map fun p => replyP p c) by simpa using h ps [] (fun i _ il => by simp at il)
    intro ps
    induction ps with
    | nil => intro xs h; exact ⟨h, by simp⟩
    | cons p ps ih =>
      intro xs h
      obtain ⟨b1, b2⟩ := push_ok (replyP p c) h
      obtain ⟨c1, c2⟩ := ih _ b1
      refine ⟨c1, c2.trans ?_⟩
      rw [List.map_cons, show xs ++ replyP p c :: ps.map (fun p => replyP p c) = (xs ++ [replyP p c]) ++ ps.map (fun p => replyP p c) by simp]
      exact b2.append_right _
  have hf := heapify_ok (qs.map fun p => replyP p c)
  rw [List.length_map] at hf
  refine ⟨hc, z1, z2, by rw [a1.length_eq]; exact z1, by rw [a2.length_eq]; exact z2, popSt_sorted hpush.1 hpush.2 (by simp) s1 m1, popSt_sorted hf.1 hf.2 (by simp) s2 m2, ?_, sign_ok c, fun p hp h => rd_bad hc hp h, fun p hp h => rd_good hc hp h, ?_, fun p _ => rd_cut1 p c, fun p _ => rd_cut2 p c, fun p hp => rd_cut3 hp, fun p hp => rd_cut4 hp hz⟩
  · rw [sld_ok _ _ _ (Nat.le_refl _) s1 s2, lacks_ok p1 p2 s1, lacks_ok p2 p1 s2]
  · cases h : walkP c ps with
    | nil => rw [h] at a1; exact absurd (List.nil_perm.mp a1) hn
    | cons p r => exact ⟨p, r, rfl, p1 p (by rw [h]; exact .head _)⟩
end

section
theorem shelves_ok : ∀ (ns : List Nat) (acc : List (List Int) × List (List Int)), AllP acc.1 → AllP acc.2 →
    AllP (ns.foldl shStep acc).1 ∧ AllP (ns.foldl shStep acc).2 ∧ acc.1.length + ns.length ≤ (ns.foldl shStep acc).1.length ∧ (ns.foldl shStep acc).1.length ≤ acc.1.length + 2 * ns.length ∧ (ns.foldl shStep acc).2.length ≤ acc.2.length + 2 * ns.length
  | [], acc, h1, h2 => ⟨h1, h2, by simp, by simp, by simp⟩
  | n :: ns, acc, h1, h2 => by
    have f1 : Port (figs (n % 1000)) := figs_port (by omega)
    have f2 : Port (figs (n % 1000 / 10)) := figs_port (by omega)
    have f3 : Port (figs (n % 1000 / 100)) := figs_port (by omega)
    have app : ∀ {l l' : List (List Int)}, AllP l → AllP l' → AllP (l ++ l') := fun a b p hp => (List.mem_append.mp hp).elim (a p) (b p)
    have one : ∀ {p : List Int}, Port p → AllP [p] := fun h q hq => by rw [List.mem_singleton.mp hq]; exact h
    have two : ∀ {p : List Int}, Port p → AllP [p, p] := fun h q hq => by
      rcases List.mem_cons.mp hq with rfl | hq
      · exact h
      · rw [List.mem_singleton.mp hq]; exact h
    have key : AllP (shStep acc n).1 ∧ AllP (shStep acc n).2 ∧ acc.1.length + 1 ≤ (shStep acc n).1.length ∧ (shStep acc n).1.length ≤ acc.1.length + 2 ∧ (shStep acc n).2.length ≤ acc.2.length + 2 := by
      unfold shStep
      split
      · exact ⟨app h1 (one f1), app h2 (one f2), by simp, by simp, by simp⟩
      · split
        · exact ⟨app h1 (one f2), app h2 (one f1), by simp, by simp, by simp⟩
        · split
          · exact ⟨app h1 (one f1), app h2 (one f1), by simp, by simp, by simp⟩
          · exact ⟨app h1 (two f1), app h2 (one f3), by simp, by simp, by simp⟩
    obtain ⟨k1, k2, k3, k4, k5⟩ := key
    obtain ⟨g1, g2, g3, g4, g5⟩ := shelves_ok ns (shStep acc n) k1 k2
    rw [List.foldl_cons]
    exact ⟨g1, g2, by simp; omega, by simp; omega, by simp; omega⟩
theorem all_pure (zs : List Int) : ∀ c ∈ marksL, UPure c (shelvesP ((drawsP zs).take 6 ++ [157, 3150, 1015])).1 (shelvesP ((drawsP zs).take 6 ++ [157, 3150, 1015])).2 := by
  intro c hc
  obtain ⟨g1, g2, g3, g4, g5⟩ := shelves_ok ((drawsP zs).take 6 ++ [157, 3150, 1015]) ([], []) (fun _ h => nomatch h) (fun _ h => nomatch h)
  have hl : ((drawsP zs).take 6 ++ [157, 3150, 1015]).length ≤ 9 := by simp; omega
  have hl3 : 3 ≤ ((drawsP zs).take 6 ++ [157, 3150, 1015]).length := by simp
  simp only [List.length_nil, Nat.zero_add] at g3 g4 g5
  have hm : ∀ c ∈ marksL, c < 256 ∧ c ≠ 122 := by unfold marksL; decide
  unfold shelvesP
  refine upure (hm c hc).1 (hm c hc).2 g1 g2 (by omega) (by omega) fun e => ?_
  rw [e] at g3
  simp only [List.length_nil] at g3
  omega
theorem holds : PySem.Challenge.rw_om0020_01.Holds := law_holds all_pure
end

end Mine
theorem PySem.Challenge.cw_om0020_01_holds : PySem.Challenge.rw_om0020_01.Holds :=
  Mine.holds
