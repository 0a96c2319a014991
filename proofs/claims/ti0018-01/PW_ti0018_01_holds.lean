import PyProof.Rows.All
import Wide.All
import OpenK.AllK
import Wide.FinOn
import Lean
import PySem.Challenge.RW_ti0018_01
open PySem PySem.W PyProof.Rows
set_option Elab.async false
set_option linter.all false
set_option maxRecDepth 100000
set_option maxHeartbeats 8000000
namespace Mine
/-! the head, by hand: the states of the text's top, piece by piece -/
noncomputable abbrev PW : Program := PySem.Challenge.rw_ti0018_01.row.toRowW.1
/-- a statement of the text, or one of a class of it -/
noncomputable def stAt (i : Nat) (j : Option Nat) : Option Stmt := match PW.main.body[i]?, j with
  | some s, none => some s
  | some (.ClassDef _ _ _ b _ _ _ _ _ _ _), some j => b[j]?
  | _, _ => none
/-- the object that a def of the text makes -/
noncomputable abbrev fnO (i : Nat) (j : Option Nat) (cls : Value) (dict : Option Addr) (slots : Array (Option Value)) (qual : Str) (globals : Addr) (closure : List (Str × Addr)) (defaults kwdefaults doc pyModule : Value) (annotations : Option Addr) (code closureTuple : Value) (builtins : Addr)
    {name : Str} {args : Arguments} {body : List Stmt} {decs : List Expr} {ret : Option Expr} {tps : List TypeParam} {scope : Scope} {tscope : Option Scope} {bind : Str} {pos : Pos} (_ : stAt i j = some (.FunctionDef name args body decs ret tps scope tscope bind pos)) : Obj :=
  ⟨cls, dict, .func ⟨name, qual, args, .stmts body, scope, globals, closure, defaults, kwdefaults, doc, pyModule, annotations, code, closureTuple, builtins⟩, slots⟩
noncomputable abbrev o_43 (P : Params) : Obj := { cls := Value.type "tuple", data := Data.seq #[] }
noncomputable abbrev o_44 (P : Params) : Obj := { cls := Value.none, data := Data.fields #[] }
noncomputable abbrev o_45 (P : Params) : Obj := { cls := Value.type "code", data := Data.fields #[Value.str (Str.ofString "<module>") 182, Value.str (Str.ofString "<module>") 183, Value.str (Str.ofString "/claim/cut.py") 184, Value.int 1 0, Value.int 0 0, Value.int 0 0, Value.int 0 0, Value.int 0 0, Value.ref 11, Value.bool false, Value.int 181 0, Value.ref 12, Value.none, Value.none, Value.none, Value.none, Value.int 185 0, Value.int 1 0, Value.str (Str.ofString "/claim/cut.py") 186] }
noncomputable abbrev o_46 (P : Params) : Obj := { cls := Value.type "frame", slots := #[some (Value.ref 13), some (Value.ref 3), some (Value.ref 3), none, some (Value.str (Str.ofString "__main__") 164), none, some (Value.ref 0)] }
noncomputable abbrev o_49 (P : Params) : Obj := { cls := Value.type "dict", data := Data.dict #[{ hash := PyData.keyHash P (Str.ofString "__name__"), key := Value.str (Str.ofString "__name__") 165, val := Value.str (Str.ofString "cpy313.email.header") 254 }, { hash := PyData.keyHash P (Str.ofString "__doc__"), key := Value.str (Str.ofString "__doc__") 166, val := Value.none }, { hash := PyData.keyHash P (Str.ofString "__package__"), key := Value.str (Str.ofString "__package__") 167, val := Value.none }, { hash := PyData.keyHash P (Str.ofString "__loader__"), key := Value.str (Str.ofString "__loader__") 168, val := Value.builtin "__main__.__loader__#opaque" }, { hash := PyData.keyHash P (Str.ofString "__spec__"), key := Value.str (Str.ofString "__spec__") 169, val := Value.none }, { hash := PyData.keyHash P (Str.ofString "__annotations__"), key := Value.str (Str.ofString "__annotations__") 170, val := Value.ref 6 }, { hash := PyData.keyHash P (Str.ofString "__builtins__"), key := Value.str (Str.ofString "__builtins__") 171, val := Value.ref 4 }, { hash := PyData.keyHash P (Str.ofString "__file__"), key := Value.str (Str.ofString "__file__") 173, val := Value.str (Str.ofString "/claim/cut.py") 172 }, { hash := PyData.keyHash P (Str.ofString "__cached__"), key := Value.str (Str.ofString "__cached__") 174, val := Value.none }, { hash := PyData.keyHash P (Str.ofString "_wall"), key := Value.str (Str.ofString "_wall") 193, val := Value.ref 21 }, { hash := PyData.keyHash P (Str.ofString "_netrclex"), key := Value.str (Str.ofString "_netrclex") 253, val := Value.ref 59 }, { hash := PyData.keyHash P (Str.ofString "EMPTYSTRING"), key := Value.str (Str.ofString "EMPTYSTRING") 257, val := Value.str (Str.ofString "") 256 }] 12 }
noncomputable abbrev o_50 (P : Params) : Obj := { cls := Value.none, data := Data.fields #[Value.int 1 0, Value.int 0 0, Value.ref 20, Value.int 5 0, Value.int 0 0, Value.ref 27] }
noncomputable abbrev o_51 (P : Params) : Obj := { cls := Value.type "tuple", data := Data.seq #[] }
noncomputable abbrev o_52 (P : Params) : Obj := { cls := Value.none, data := Data.fields #[] }
noncomputable abbrev o_53 (P : Params) : Obj := { cls := Value.type "tuple", data := Data.seq #[Value.str (Str.ofString "k") 190] }
noncomputable abbrev o_54 (P : Params) : Obj := { cls := Value.type "tuple", data := Data.seq #[] }
noncomputable abbrev o_55 (P : Params) : Obj := fnO 0 none (Value.none) (none) (#[]) (Str.ofString "_wall") (0) ([]) (Value.none) (Value.none) (Value.none) (Value.none) (none) (Value.none) (Value.none) (0) rfl
noncomputable abbrev o_56 (P : Params) : Obj := { cls := Value.type "code", data := Data.fields #[Value.str (Str.ofString "_wall") 187, Value.str (Str.ofString "_wall") 188, Value.str (Str.ofString "/claim/cut.py") 189, Value.int 1 0, Value.int 1 0, Value.int 0 0, Value.int 0 0, Value.int 3 0, Value.ref 15, Value.bool true, Value.int 181 0, Value.ref 16, Value.none, Value.ref 17, Value.ref 18, Value.ref 19, Value.int 191 0, Value.int 1 0, Value.str (Str.ofString "/claim/cut.py") 192] }
noncomputable abbrev o_57 (P : Params) : Obj := fnO 0 none (Value.type "function") (none) (#[]) (Str.ofString "_wall") (3) ([]) (Value.none) (Value.none) (Value.none) (Value.str (Str.ofString "__main__") 164) (none) (Value.ref 20) (Value.none) (0) rfl
noncomputable abbrev o_58 (P : Params) : Obj := { cls := Value.type "tuple", data := Data.seq #[] }
noncomputable abbrev o_59 (P : Params) : Obj := { cls := Value.type "builtin_function_or_method", data := Data.fields #[Value.builtin "type.__prepare__", Value.type "type"] }
noncomputable abbrev o_60 (P : Params) : Obj := { cls := Value.type "dict", data := Data.dict #[{ hash := PyData.keyHash P (Str.ofString "__module__"), key := Value.str (Str.ofString "__module__") 203, val := Value.str (Str.ofString "cpy313.netrc") 194 }, { hash := PyData.keyHash P (Str.ofString "__qualname__"), key := Value.str (Str.ofString "__qualname__") 205, val := Value.str (Str.ofString "_netrclex") 204 }, { hash := PyData.keyHash P (Str.ofString "__firstlineno__"), key := Value.str (Str.ofString "__firstlineno__") 207, val := Value.int 5 206 }, { hash := PyData.keyHash P (Str.ofString "__init__"), key := Value.str (Str.ofString "__init__") 215, val := Value.ref 35 }, { hash := PyData.keyHash P (Str.ofString "_read_char"), key := Value.str (Str.ofString "_read_char") 223, val := Value.ref 42 }, { hash := PyData.keyHash P (Str.ofString "get_token"), key := Value.str (Str.ofString "get_token") 233, val := Value.ref 49 }, { hash := PyData.keyHash P (Str.ofString "push_token"), key := Value.str (Str.ofString "push_token") 241, val := Value.ref 56 }, { hash := PyData.keyHash P (Str.ofString "__static_attributes__"), key := Value.str (Str.ofString "__static_attributes__") 246, val := Value.ref 57 }] 8 }
noncomputable abbrev o_61 (P : Params) : Obj := { cls := Value.type "tuple", data := Data.seq #[] }
noncomputable abbrev o_62 (P : Params) : Obj := { cls := Value.none, data := Data.fields #[Value.int 7 0, Value.int 4 0, Value.ref 34, Value.int 13 0, Value.int 4 0, Value.ref 41, Value.int 19 0, Value.int 4 0, Value.ref 48, Value.int 46 0, Value.int 4 0, Value.ref 55] }
noncomputable abbrev o_63 (P : Params) : Obj := { cls := Value.type "code", data := Data.fields #[Value.str (Str.ofString "_netrclex") 198, Value.str (Str.ofString "_netrclex") 199, Value.str (Str.ofString "/claim/cut.py") 200, Value.int 5 0, Value.int 0 0, Value.int 0 0, Value.int 0 0, Value.int 0 0, Value.ref 25, Value.bool false, Value.int 181 0, Value.ref 26, Value.none, Value.none, Value.none, Value.none, Value.int 201 0, Value.int 5 0, Value.str (Str.ofString "/claim/cut.py") 202] }
noncomputable abbrev o_64 (P : Params) : Obj := { cls := Value.type "frame", slots := #[some (Value.ref 27), some (Value.ref 3), some (Value.ref 24), none, some (Value.str (Str.ofString "cpy313.netrc") 194), none, some (Value.ref 0)] }
noncomputable abbrev o_65 (P : Params) : Obj := { cls := Value.type "tuple", data := Data.seq #[] }
noncomputable abbrev o_66 (P : Params) : Obj := { cls := Value.none, data := Data.fields #[] }
noncomputable abbrev o_67 (P : Params) : Obj := { cls := Value.type "tuple", data := Data.seq #[Value.str (Str.ofString "self") 211, Value.str (Str.ofString "fp") 212] }
noncomputable abbrev o_68 (P : Params) : Obj := { cls := Value.type "tuple", data := Data.seq #[] }
noncomputable abbrev o_69 (P : Params) : Obj := fnO 2 (some 0) (Value.none) (none) (#[]) (Str.ofString "_netrclex.__init__") (0) ([]) (Value.none) (Value.none) (Value.none) (Value.none) (none) (Value.none) (Value.none) (0) rfl
noncomputable abbrev o_70 (P : Params) : Obj := { cls := Value.type "code", data := Data.fields #[Value.str (Str.ofString "__init__") 208, Value.str (Str.ofString "_netrclex.__init__") 209, Value.str (Str.ofString "/claim/cut.py") 210, Value.int 7 0, Value.int 2 0, Value.int 0 0, Value.int 0 0, Value.int 3 0, Value.ref 29, Value.bool true, Value.int 181 0, Value.ref 30, Value.none, Value.ref 31, Value.ref 32, Value.ref 33, Value.int 213 0, Value.int 7 0, Value.str (Str.ofString "/claim/cut.py") 214] }
noncomputable abbrev o_71 (P : Params) : Obj := fnO 2 (some 0) (Value.type "function") (none) (#[]) (Str.ofString "_netrclex.__init__") (3) ([]) (Value.none) (Value.none) (Value.none) (Value.str (Str.ofString "cpy313.netrc") 194) (none) (Value.ref 34) (Value.none) (0) rfl
noncomputable abbrev o_72 (P : Params) : Obj := { cls := Value.type "tuple", data := Data.seq #[] }
noncomputable abbrev o_73 (P : Params) : Obj := { cls := Value.none, data := Data.fields #[] }
noncomputable abbrev o_74 (P : Params) : Obj := { cls := Value.type "tuple", data := Data.seq #[Value.str (Str.ofString "self") 219, Value.str (Str.ofString "ch") 220] }
noncomputable abbrev o_75 (P : Params) : Obj := { cls := Value.type "tuple", data := Data.seq #[] }
noncomputable abbrev o_76 (P : Params) : Obj := fnO 2 (some 1) (Value.none) (none) (#[]) (Str.ofString "_netrclex._read_char") (0) ([]) (Value.none) (Value.none) (Value.none) (Value.none) (none) (Value.none) (Value.none) (0) rfl
noncomputable abbrev o_77 (P : Params) : Obj := { cls := Value.type "code", data := Data.fields #[Value.str (Str.ofString "_read_char") 216, Value.str (Str.ofString "_netrclex._read_char") 217, Value.str (Str.ofString "/claim/cut.py") 218, Value.int 13 0, Value.int 1 0, Value.int 0 0, Value.int 0 0, Value.int 3 0, Value.ref 36, Value.bool true, Value.int 181 0, Value.ref 37, Value.none, Value.ref 38, Value.ref 39, Value.ref 40, Value.int 221 0, Value.int 13 0, Value.str (Str.ofString "/claim/cut.py") 222] }
noncomputable abbrev o_78 (P : Params) : Obj := fnO 2 (some 1) (Value.type "function") (none) (#[]) (Str.ofString "_netrclex._read_char") (3) ([]) (Value.none) (Value.none) (Value.none) (Value.str (Str.ofString "cpy313.netrc") 194) (none) (Value.ref 41) (Value.none) (0) rfl
noncomputable abbrev o_79 (P : Params) : Obj := { cls := Value.type "tuple", data := Data.seq #[] }
noncomputable abbrev o_80 (P : Params) : Obj := { cls := Value.none, data := Data.fields #[] }
noncomputable abbrev o_81 (P : Params) : Obj := { cls := Value.type "tuple", data := Data.seq #[Value.str (Str.ofString "self") 227, Value.str (Str.ofString "token") 228, Value.str (Str.ofString "fiter") 229, Value.str (Str.ofString "ch") 230] }
noncomputable abbrev o_82 (P : Params) : Obj := { cls := Value.type "tuple", data := Data.seq #[] }
noncomputable abbrev o_83 (P : Params) : Obj := fnO 2 (some 2) (Value.none) (none) (#[]) (Str.ofString "_netrclex.get_token") (0) ([]) (Value.none) (Value.none) (Value.none) (Value.none) (none) (Value.none) (Value.none) (0) rfl
noncomputable abbrev o_84 (P : Params) : Obj := { cls := Value.type "code", data := Data.fields #[Value.str (Str.ofString "get_token") 224, Value.str (Str.ofString "_netrclex.get_token") 225, Value.str (Str.ofString "/claim/cut.py") 226, Value.int 19 0, Value.int 1 0, Value.int 0 0, Value.int 0 0, Value.int 3 0, Value.ref 43, Value.bool true, Value.int 181 0, Value.ref 44, Value.none, Value.ref 45, Value.ref 46, Value.ref 47, Value.int 231 0, Value.int 19 0, Value.str (Str.ofString "/claim/cut.py") 232] }
noncomputable abbrev o_85 (P : Params) : Obj := fnO 2 (some 2) (Value.type "function") (none) (#[]) (Str.ofString "_netrclex.get_token") (3) ([]) (Value.none) (Value.none) (Value.none) (Value.str (Str.ofString "cpy313.netrc") 194) (none) (Value.ref 48) (Value.none) (0) rfl
noncomputable abbrev o_86 (P : Params) : Obj := { cls := Value.type "tuple", data := Data.seq #[] }
noncomputable abbrev o_87 (P : Params) : Obj := { cls := Value.none, data := Data.fields #[] }
noncomputable abbrev o_88 (P : Params) : Obj := { cls := Value.type "tuple", data := Data.seq #[Value.str (Str.ofString "self") 237, Value.str (Str.ofString "token") 238] }
noncomputable abbrev o_89 (P : Params) : Obj := { cls := Value.type "tuple", data := Data.seq #[] }
noncomputable abbrev o_90 (P : Params) : Obj := fnO 2 (some 3) (Value.none) (none) (#[]) (Str.ofString "_netrclex.push_token") (0) ([]) (Value.none) (Value.none) (Value.none) (Value.none) (none) (Value.none) (Value.none) (0) rfl
noncomputable abbrev o_91 (P : Params) : Obj := { cls := Value.type "code", data := Data.fields #[Value.str (Str.ofString "push_token") 234, Value.str (Str.ofString "_netrclex.push_token") 235, Value.str (Str.ofString "/claim/cut.py") 236, Value.int 46 0, Value.int 2 0, Value.int 0 0, Value.int 0 0, Value.int 3 0, Value.ref 50, Value.bool true, Value.int 181 0, Value.ref 51, Value.none, Value.ref 52, Value.ref 53, Value.ref 54, Value.int 239 0, Value.int 46 0, Value.str (Str.ofString "/claim/cut.py") 240] }
noncomputable abbrev o_92 (P : Params) : Obj := fnO 2 (some 3) (Value.type "function") (none) (#[]) (Str.ofString "_netrclex.push_token") (3) ([]) (Value.none) (Value.none) (Value.none) (Value.str (Str.ofString "cpy313.netrc") 194) (none) (Value.ref 55) (Value.none) (0) rfl
noncomputable abbrev o_93 (P : Params) : Obj := { cls := Value.type "tuple", data := Data.seq #[Value.str (Str.ofString "instream") 242, Value.str (Str.ofString "lineno") 243, Value.str (Str.ofString "pushback") 244, Value.str (Str.ofString "whitespace") 245] }
noncomputable abbrev o_94 (P : Params) : Obj := { cls := Value.type "dict", data := Data.dict #[{ hash := PyData.keyHash P (Str.ofString "__module__"), key := Value.str (Str.ofString "__module__") 203, val := Value.str (Str.ofString "cpy313.netrc") 194 }, { hash := PyData.keyHash P (Str.ofString "__firstlineno__"), key := Value.str (Str.ofString "__firstlineno__") 207, val := Value.int 5 206 }, { hash := PyData.keyHash P (Str.ofString "__init__"), key := Value.str (Str.ofString "__init__") 215, val := Value.ref 35 }, { hash := PyData.keyHash P (Str.ofString "_read_char"), key := Value.str (Str.ofString "_read_char") 223, val := Value.ref 42 }, { hash := PyData.keyHash P (Str.ofString "get_token"), key := Value.str (Str.ofString "get_token") 233, val := Value.ref 49 }, { hash := PyData.keyHash P (Str.ofString "push_token"), key := Value.str (Str.ofString "push_token") 241, val := Value.ref 56 }, { hash := PyData.keyHash P (Str.ofString "__static_attributes__"), key := Value.str (Str.ofString "__static_attributes__") 246, val := Value.ref 57 }, { hash := PyData.keyHash P (Str.ofString "__dict__"), key := Value.str (Str.ofString "__dict__") 248, val := Value.ref 60 }, { hash := PyData.keyHash P (Str.ofString "__weakref__"), key := Value.str (Str.ofString "__weakref__") 250, val := Value.ref 61 }, { hash := PyData.keyHash P (Str.ofString "__doc__"), key := Value.str (Str.ofString "__doc__") 251, val := Value.none }] 4 }
noncomputable abbrev o_95 (P : Params) : Obj := { cls := Value.type "type", data := Data.cls { name := Str.ofString "_netrclex", bases := [Value.type "object"], mro := [Value.ref 59, Value.type "object"], ns := 58, qualname := Str.ofString "_netrclex" }, slots := #[none, none, some (Value.str (Str.ofString "_netrclex") 196), some (Value.str (Str.ofString "_netrclex") 204), some (Value.builtin "object.__new__"), some (Value.bool true)] }
noncomputable abbrev o_96 (P : Params) : Obj := { cls := Value.type "getset_descriptor", data := Data.fields #[Value.str (Str.ofString "__dict__") 247, Value.ref 59, Value.builtin "function.__dict__", Value.builtin "function.__dict__#set"] }
noncomputable abbrev o_97 (P : Params) : Obj := { cls := Value.type "getset_descriptor", data := Data.fields #[Value.str (Str.ofString "__weakref__") 249, Value.ref 59, Value.builtin "ExceptionGroup.__weakref__", Value.none] }
noncomputable abbrev o_98 (P : Params) : Obj := { cls := Value.type "super", data := Data.fields #[Value.ref 59, Value.ref 59, Value.ref 59] }
noncomputable abbrev o_99 (P : Params) : Obj := { cls := Value.type "builtin_function_or_method", data := Data.fields #[Value.builtin "object.__init_subclass__", Value.ref 59] }
noncomputable abbrev o_100 (P : Params) : Obj := { cls := Value.type "dict", data := Data.dict #[{ hash := PyData.keyHash P (Str.ofString "__name__"), key := Value.str (Str.ofString "__name__") 165, val := Value.str (Str.ofString "cpy313.email.header") 254 }, { hash := PyData.keyHash P (Str.ofString "__doc__"), key := Value.str (Str.ofString "__doc__") 166, val := Value.none }, { hash := PyData.keyHash P (Str.ofString "__package__"), key := Value.str (Str.ofString "__package__") 167, val := Value.none }, { hash := PyData.keyHash P (Str.ofString "__loader__"), key := Value.str (Str.ofString "__loader__") 168, val := Value.builtin "__main__.__loader__#opaque" }, { hash := PyData.keyHash P (Str.ofString "__spec__"), key := Value.str (Str.ofString "__spec__") 169, val := Value.none }, { hash := PyData.keyHash P (Str.ofString "__annotations__"), key := Value.str (Str.ofString "__annotations__") 170, val := Value.ref 6 }, { hash := PyData.keyHash P (Str.ofString "__builtins__"), key := Value.str (Str.ofString "__builtins__") 171, val := Value.ref 4 }, { hash := PyData.keyHash P (Str.ofString "__file__"), key := Value.str (Str.ofString "__file__") 173, val := Value.str (Str.ofString "/claim/cut.py") 172 }, { hash := PyData.keyHash P (Str.ofString "__cached__"), key := Value.str (Str.ofString "__cached__") 174, val := Value.none }, { hash := PyData.keyHash P (Str.ofString "_wall"), key := Value.str (Str.ofString "_wall") 193, val := Value.ref 21 }, { hash := PyData.keyHash P (Str.ofString "_netrclex"), key := Value.str (Str.ofString "_netrclex") 253, val := Value.ref 59 }, { hash := PyData.keyHash P (Str.ofString "EMPTYSTRING"), key := Value.str (Str.ofString "EMPTYSTRING") 257, val := Value.str (Str.ofString "") 256 }, { hash := PyData.keyHash P (Str.ofString "_Accumulator"), key := Value.str (Str.ofString "_Accumulator") 353, val := Value.ref 143 }] 13 }
noncomputable abbrev o_101 (P : Params) : Obj := { cls := Value.none, data := Data.fields #[Value.int 1 0, Value.int 0 0, Value.ref 20, Value.int 5 0, Value.int 0 0, Value.ref 27, Value.int 50 0, Value.int 0 0, Value.ref 70] }
noncomputable abbrev o_102 (P : Params) : Obj := { cls := Value.type "tuple", data := Data.seq #[Value.type "list"] }
noncomputable abbrev o_103 (P : Params) : Obj := { cls := Value.type "builtin_function_or_method", data := Data.fields #[Value.builtin "type.__prepare__", Value.type "type"] }
noncomputable abbrev o_104 (P : Params) : Obj := { cls := Value.type "dict", data := Data.dict #[{ hash := PyData.keyHash P (Str.ofString "__module__"), key := Value.str (Str.ofString "__module__") 265, val := Value.str (Str.ofString "cpy313.email.header") 254 }, { hash := PyData.keyHash P (Str.ofString "__qualname__"), key := Value.str (Str.ofString "__qualname__") 267, val := Value.str (Str.ofString "_Accumulator") 266 }, { hash := PyData.keyHash P (Str.ofString "__firstlineno__"), key := Value.str (Str.ofString "__firstlineno__") 269, val := Value.int 50 268 }, { hash := PyData.keyHash P (Str.ofString "__init__"), key := Value.str (Str.ofString "__init__") 279, val := Value.ref 80 }, { hash := PyData.keyHash P (Str.ofString "push"), key := Value.str (Str.ofString "push") 288, val := Value.ref 87 }, { hash := PyData.keyHash P (Str.ofString "pop_from"), key := Value.str (Str.ofString "pop_from") 298, val := Value.ref 95 }, { hash := PyData.keyHash P (Str.ofString "pop"), key := Value.str (Str.ofString "pop") 306, val := Value.ref 103 }, { hash := PyData.keyHash P (Str.ofString "__len__"), key := Value.str (Str.ofString "__len__") 313, val := Value.ref 110 }, { hash := PyData.keyHash P (Str.ofString "__str__"), key := Value.str (Str.ofString "__str__") 320, val := Value.ref 117 }, { hash := PyData.keyHash P (Str.ofString "reset"), key := Value.str (Str.ofString "reset") 328, val := Value.ref 125 }, { hash := PyData.keyHash P (Str.ofString "is_onlyws"), key := Value.str (Str.ofString "is_onlyws") 335, val := Value.ref 132 }, { hash := PyData.keyHash P (Str.ofString "part_count"), key := Value.str (Str.ofString "part_count") 343, val := Value.ref 140 }, { hash := PyData.keyHash P (Str.ofString "__static_attributes__"), key := Value.str (Str.ofString "__static_attributes__") 345, val := Value.ref 141 }, { hash := PyData.keyHash P (Str.ofString "__classcell__"), key := Value.str (Str.ofString "__classcell__") 346, val := Value.ref 67 }] 14 }
noncomputable abbrev o_105 (P : Params) : Obj := { cls := Value.type "cell", data := Data.cell (some (Value.ref 143)) }
noncomputable abbrev o_106 (P : Params) : Obj := { cls := Value.type "tuple", data := Data.seq #[] }
noncomputable abbrev o_107 (P : Params) : Obj := { cls := Value.none, data := Data.fields #[Value.int 52 0, Value.int 4 0, Value.ref 79, Value.int 56 0, Value.int 4 0, Value.ref 86, Value.int 59 0, Value.int 4 0, Value.ref 94, Value.int 64 0, Value.int 4 0, Value.ref 102, Value.int 69 0, Value.int 4 0, Value.ref 109, Value.int 72 0, Value.int 4 0, Value.ref 116, Value.int 75 0, Value.int 4 0, Value.ref 124, Value.int 81 0, Value.int 4 0, Value.ref 131, Value.int 84 0, Value.int 4 0, Value.ref 139] }
noncomputable abbrev o_108 (P : Params) : Obj := { cls := Value.type "code", data := Data.fields #[Value.str (Str.ofString "_Accumulator") 260, Value.str (Str.ofString "_Accumulator") 261, Value.str (Str.ofString "/claim/cut.py") 262, Value.int 50 0, Value.int 0 0, Value.int 0 0, Value.int 0 0, Value.int 0 0, Value.ref 68, Value.bool false, Value.int 181 0, Value.ref 69, Value.none, Value.none, Value.none, Value.none, Value.int 263 0, Value.int 50 0, Value.str (Str.ofString "/claim/cut.py") 264] }
noncomputable abbrev o_109 (P : Params) : Obj := { cls := Value.type "frame", slots := #[some (Value.ref 70), some (Value.ref 3), some (Value.ref 66), none, some (Value.str (Str.ofString "cpy313.email.header") 254), none, some (Value.ref 0)] }
noncomputable abbrev o_110 (P : Params) : Obj := { cls := Value.type "tuple", data := Data.seq #[Value.int 0 270] }
noncomputable abbrev o_111 (P : Params) : Obj := { cls := Value.type "tuple", data := Data.seq #[Value.ref 67] }
noncomputable abbrev o_112 (P : Params) : Obj := { cls := Value.type "tuple", data := Data.seq #[Value.str (Str.ofString "__class__") 274] }
noncomputable abbrev o_113 (P : Params) : Obj := { cls := Value.none, data := Data.fields #[] }
noncomputable abbrev o_114 (P : Params) : Obj := { cls := Value.type "tuple", data := Data.seq #[Value.str (Str.ofString "self") 275, Value.str (Str.ofString "initial_size") 276] }
noncomputable abbrev o_115 (P : Params) : Obj := { cls := Value.type "tuple", data := Data.seq #[] }
noncomputable abbrev o_116 (P : Params) : Obj := fnO 5 (some 0) (Value.none) (none) (#[]) (Str.ofString "_Accumulator.__init__") (0) ([]) (Value.none) (Value.none) (Value.none) (Value.none) (none) (Value.none) (Value.none) (0) rfl
noncomputable abbrev o_117 (P : Params) : Obj := { cls := Value.type "code", data := Data.fields #[Value.str (Str.ofString "__init__") 271, Value.str (Str.ofString "_Accumulator.__init__") 272, Value.str (Str.ofString "/claim/cut.py") 273, Value.int 52 0, Value.int 2 0, Value.int 0 0, Value.int 0 0, Value.int 3 0, Value.ref 74, Value.bool true, Value.int 181 0, Value.ref 75, Value.none, Value.ref 76, Value.ref 77, Value.ref 78, Value.int 277 0, Value.int 52 0, Value.str (Str.ofString "/claim/cut.py") 278] }
noncomputable abbrev o_118 (P : Params) : Obj := fnO 5 (some 0) (Value.type "function") (none) (#[]) (Str.ofString "_Accumulator.__init__") (3) ([(Str.ofString "__class__", 67)]) (Value.ref 72) (Value.none) (Value.none) (Value.str (Str.ofString "cpy313.email.header") 254) (none) (Value.ref 79) (Value.ref 73) (0) rfl
noncomputable abbrev o_119 (P : Params) : Obj := { cls := Value.type "tuple", data := Data.seq #[] }
noncomputable abbrev o_120 (P : Params) : Obj := { cls := Value.none, data := Data.fields #[] }
noncomputable abbrev o_121 (P : Params) : Obj := { cls := Value.type "tuple", data := Data.seq #[Value.str (Str.ofString "self") 283, Value.str (Str.ofString "fws") 284, Value.str (Str.ofString "string") 285] }
noncomputable abbrev o_122 (P : Params) : Obj := { cls := Value.type "tuple", data := Data.seq #[] }
noncomputable abbrev o_123 (P : Params) : Obj := fnO 5 (some 1) (Value.none) (none) (#[]) (Str.ofString "_Accumulator.push") (0) ([]) (Value.none) (Value.none) (Value.none) (Value.none) (none) (Value.none) (Value.none) (0) rfl
noncomputable abbrev o_124 (P : Params) : Obj := { cls := Value.type "code", data := Data.fields #[Value.str (Str.ofString "push") 280, Value.str (Str.ofString "_Accumulator.push") 281, Value.str (Str.ofString "/claim/cut.py") 282, Value.int 56 0, Value.int 3 0, Value.int 0 0, Value.int 0 0, Value.int 3 0, Value.ref 81, Value.bool true, Value.int 181 0, Value.ref 82, Value.none, Value.ref 83, Value.ref 84, Value.ref 85, Value.int 286 0, Value.int 56 0, Value.str (Str.ofString "/claim/cut.py") 287] }
noncomputable abbrev o_125 (P : Params) : Obj := fnO 5 (some 1) (Value.type "function") (none) (#[]) (Str.ofString "_Accumulator.push") (3) ([]) (Value.none) (Value.none) (Value.none) (Value.str (Str.ofString "cpy313.email.header") 254) (none) (Value.ref 86) (Value.none) (0) rfl
noncomputable abbrev o_126 (P : Params) : Obj := { cls := Value.type "tuple", data := Data.seq #[Value.int 0 289] }
noncomputable abbrev o_127 (P : Params) : Obj := { cls := Value.type "tuple", data := Data.seq #[] }
noncomputable abbrev o_128 (P : Params) : Obj := { cls := Value.none, data := Data.fields #[] }
noncomputable abbrev o_129 (P : Params) : Obj := { cls := Value.type "tuple", data := Data.seq #[Value.str (Str.ofString "self") 293, Value.str (Str.ofString "i") 294, Value.str (Str.ofString "popped") 295] }
noncomputable abbrev o_130 (P : Params) : Obj := { cls := Value.type "tuple", data := Data.seq #[] }
noncomputable abbrev o_131 (P : Params) : Obj := fnO 5 (some 2) (Value.none) (none) (#[]) (Str.ofString "_Accumulator.pop_from") (0) ([]) (Value.none) (Value.none) (Value.none) (Value.none) (none) (Value.none) (Value.none) (0) rfl
noncomputable abbrev o_132 (P : Params) : Obj := { cls := Value.type "code", data := Data.fields #[Value.str (Str.ofString "pop_from") 290, Value.str (Str.ofString "_Accumulator.pop_from") 291, Value.str (Str.ofString "/claim/cut.py") 292, Value.int 59 0, Value.int 2 0, Value.int 0 0, Value.int 0 0, Value.int 3 0, Value.ref 89, Value.bool true, Value.int 181 0, Value.ref 90, Value.none, Value.ref 91, Value.ref 92, Value.ref 93, Value.int 296 0, Value.int 59 0, Value.str (Str.ofString "/claim/cut.py") 297] }
noncomputable abbrev o_133 (P : Params) : Obj := fnO 5 (some 2) (Value.type "function") (none) (#[]) (Str.ofString "_Accumulator.pop_from") (3) ([]) (Value.ref 88) (Value.none) (Value.none) (Value.str (Str.ofString "cpy313.email.header") 254) (none) (Value.ref 94) (Value.none) (0) rfl
noncomputable abbrev o_134 (P : Params) : Obj := { cls := Value.type "tuple", data := Data.seq #[Value.ref 67] }
noncomputable abbrev o_135 (P : Params) : Obj := { cls := Value.type "tuple", data := Data.seq #[Value.str (Str.ofString "__class__") 302] }
noncomputable abbrev o_136 (P : Params) : Obj := { cls := Value.none, data := Data.fields #[] }
noncomputable abbrev o_137 (P : Params) : Obj := { cls := Value.type "tuple", data := Data.seq #[Value.str (Str.ofString "self") 303] }
noncomputable abbrev o_138 (P : Params) : Obj := { cls := Value.type "tuple", data := Data.seq #[] }
noncomputable abbrev o_139 (P : Params) : Obj := fnO 5 (some 3) (Value.none) (none) (#[]) (Str.ofString "_Accumulator.pop") (0) ([]) (Value.none) (Value.none) (Value.none) (Value.none) (none) (Value.none) (Value.none) (0) rfl
noncomputable abbrev o_140 (P : Params) : Obj := { cls := Value.type "code", data := Data.fields #[Value.str (Str.ofString "pop") 299, Value.str (Str.ofString "_Accumulator.pop") 300, Value.str (Str.ofString "/claim/cut.py") 301, Value.int 64 0, Value.int 1 0, Value.int 0 0, Value.int 0 0, Value.int 3 0, Value.ref 97, Value.bool true, Value.int 181 0, Value.ref 98, Value.none, Value.ref 99, Value.ref 100, Value.ref 101, Value.int 304 0, Value.int 64 0, Value.str (Str.ofString "/claim/cut.py") 305] }
noncomputable abbrev o_141 (P : Params) : Obj := fnO 5 (some 3) (Value.type "function") (none) (#[]) (Str.ofString "_Accumulator.pop") (3) ([(Str.ofString "__class__", 67)]) (Value.none) (Value.none) (Value.none) (Value.str (Str.ofString "cpy313.email.header") 254) (none) (Value.ref 102) (Value.ref 96) (0) rfl
noncomputable abbrev o_142 (P : Params) : Obj := { cls := Value.type "tuple", data := Data.seq #[] }
noncomputable abbrev o_143 (P : Params) : Obj := { cls := Value.none, data := Data.fields #[] }
noncomputable abbrev o_144 (P : Params) : Obj := { cls := Value.type "tuple", data := Data.seq #[Value.str (Str.ofString "self") 310] }
noncomputable abbrev o_145 (P : Params) : Obj := { cls := Value.type "tuple", data := Data.seq #[] }
noncomputable abbrev o_146 (P : Params) : Obj := fnO 5 (some 4) (Value.none) (none) (#[]) (Str.ofString "_Accumulator.__len__") (0) ([]) (Value.none) (Value.none) (Value.none) (Value.none) (none) (Value.none) (Value.none) (0) rfl
noncomputable abbrev o_147 (P : Params) : Obj := { cls := Value.type "code", data := Data.fields #[Value.str (Str.ofString "__len__") 307, Value.str (Str.ofString "_Accumulator.__len__") 308, Value.str (Str.ofString "/claim/cut.py") 309, Value.int 69 0, Value.int 1 0, Value.int 0 0, Value.int 0 0, Value.int 3 0, Value.ref 104, Value.bool true, Value.int 181 0, Value.ref 105, Value.none, Value.ref 106, Value.ref 107, Value.ref 108, Value.int 311 0, Value.int 69 0, Value.str (Str.ofString "/claim/cut.py") 312] }
noncomputable abbrev o_148 (P : Params) : Obj := fnO 5 (some 4) (Value.type "function") (none) (#[]) (Str.ofString "_Accumulator.__len__") (3) ([]) (Value.none) (Value.none) (Value.none) (Value.str (Str.ofString "cpy313.email.header") 254) (none) (Value.ref 109) (Value.none) (0) rfl
noncomputable abbrev o_149 (P : Params) : Obj := { cls := Value.type "tuple", data := Data.seq #[] }
noncomputable abbrev o_150 (P : Params) : Obj := { cls := Value.none, data := Data.fields #[] }
noncomputable abbrev o_151 (P : Params) : Obj := { cls := Value.type "tuple", data := Data.seq #[Value.str (Str.ofString "self") 317] }
noncomputable abbrev o_152 (P : Params) : Obj := { cls := Value.type "tuple", data := Data.seq #[] }
noncomputable abbrev o_153 (P : Params) : Obj := fnO 5 (some 5) (Value.none) (none) (#[]) (Str.ofString "_Accumulator.__str__") (0) ([]) (Value.none) (Value.none) (Value.none) (Value.none) (none) (Value.none) (Value.none) (0) rfl
noncomputable abbrev o_154 (P : Params) : Obj := { cls := Value.type "code", data := Data.fields #[Value.str (Str.ofString "__str__") 314, Value.str (Str.ofString "_Accumulator.__str__") 315, Value.str (Str.ofString "/claim/cut.py") 316, Value.int 72 0, Value.int 1 0, Value.int 0 0, Value.int 0 0, Value.int 3 0, Value.ref 111, Value.bool true, Value.int 181 0, Value.ref 112, Value.none, Value.ref 113, Value.ref 114, Value.ref 115, Value.int 318 0, Value.int 72 0, Value.str (Str.ofString "/claim/cut.py") 319] }
noncomputable abbrev o_155 (P : Params) : Obj := fnO 5 (some 5) (Value.type "function") (none) (#[]) (Str.ofString "_Accumulator.__str__") (3) ([]) (Value.none) (Value.none) (Value.none) (Value.str (Str.ofString "cpy313.email.header") 254) (none) (Value.ref 116) (Value.none) (0) rfl
noncomputable abbrev o_156 (P : Params) : Obj := { cls := Value.type "tuple", data := Data.seq #[Value.none] }
noncomputable abbrev o_157 (P : Params) : Obj := { cls := Value.type "tuple", data := Data.seq #[] }
noncomputable abbrev o_158 (P : Params) : Obj := { cls := Value.none, data := Data.fields #[] }
noncomputable abbrev o_159 (P : Params) : Obj := { cls := Value.type "tuple", data := Data.seq #[Value.str (Str.ofString "self") 324, Value.str (Str.ofString "startval") 325] }
noncomputable abbrev o_160 (P : Params) : Obj := { cls := Value.type "tuple", data := Data.seq #[] }
noncomputable abbrev o_161 (P : Params) : Obj := fnO 5 (some 6) (Value.none) (none) (#[]) (Str.ofString "_Accumulator.reset") (0) ([]) (Value.none) (Value.none) (Value.none) (Value.none) (none) (Value.none) (Value.none) (0) rfl
noncomputable abbrev o_162 (P : Params) : Obj := { cls := Value.type "code", data := Data.fields #[Value.str (Str.ofString "reset") 321, Value.str (Str.ofString "_Accumulator.reset") 322, Value.str (Str.ofString "/claim/cut.py") 323, Value.int 75 0, Value.int 2 0, Value.int 0 0, Value.int 0 0, Value.int 3 0, Value.ref 119, Value.bool true, Value.int 181 0, Value.ref 120, Value.none, Value.ref 121, Value.ref 122, Value.ref 123, Value.int 326 0, Value.int 75 0, Value.str (Str.ofString "/claim/cut.py") 327] }
noncomputable abbrev o_163 (P : Params) : Obj := fnO 5 (some 6) (Value.type "function") (none) (#[]) (Str.ofString "_Accumulator.reset") (3) ([]) (Value.ref 118) (Value.none) (Value.none) (Value.str (Str.ofString "cpy313.email.header") 254) (none) (Value.ref 124) (Value.none) (0) rfl
noncomputable abbrev o_164 (P : Params) : Obj := { cls := Value.type "tuple", data := Data.seq #[] }
noncomputable abbrev o_165 (P : Params) : Obj := { cls := Value.none, data := Data.fields #[] }
noncomputable abbrev o_166 (P : Params) : Obj := { cls := Value.type "tuple", data := Data.seq #[Value.str (Str.ofString "self") 332] }
noncomputable abbrev o_167 (P : Params) : Obj := { cls := Value.type "tuple", data := Data.seq #[] }
noncomputable abbrev o_168 (P : Params) : Obj := fnO 5 (some 7) (Value.none) (none) (#[]) (Str.ofString "_Accumulator.is_onlyws") (0) ([]) (Value.none) (Value.none) (Value.none) (Value.none) (none) (Value.none) (Value.none) (0) rfl
noncomputable abbrev o_169 (P : Params) : Obj := { cls := Value.type "code", data := Data.fields #[Value.str (Str.ofString "is_onlyws") 329, Value.str (Str.ofString "_Accumulator.is_onlyws") 330, Value.str (Str.ofString "/claim/cut.py") 331, Value.int 81 0, Value.int 1 0, Value.int 0 0, Value.int 0 0, Value.int 3 0, Value.ref 126, Value.bool true, Value.int 181 0, Value.ref 127, Value.none, Value.ref 128, Value.ref 129, Value.ref 130, Value.int 333 0, Value.int 81 0, Value.str (Str.ofString "/claim/cut.py") 334] }
noncomputable abbrev o_170 (P : Params) : Obj := fnO 5 (some 7) (Value.type "function") (none) (#[]) (Str.ofString "_Accumulator.is_onlyws") (3) ([]) (Value.none) (Value.none) (Value.none) (Value.str (Str.ofString "cpy313.email.header") 254) (none) (Value.ref 131) (Value.none) (0) rfl
noncomputable abbrev o_171 (P : Params) : Obj := { cls := Value.type "tuple", data := Data.seq #[Value.ref 67] }
noncomputable abbrev o_172 (P : Params) : Obj := { cls := Value.type "tuple", data := Data.seq #[Value.str (Str.ofString "__class__") 339] }
noncomputable abbrev o_173 (P : Params) : Obj := { cls := Value.none, data := Data.fields #[] }
noncomputable abbrev o_174 (P : Params) : Obj := { cls := Value.type "tuple", data := Data.seq #[Value.str (Str.ofString "self") 340] }
noncomputable abbrev o_175 (P : Params) : Obj := { cls := Value.type "tuple", data := Data.seq #[] }
noncomputable abbrev o_176 (P : Params) : Obj := fnO 5 (some 8) (Value.none) (none) (#[]) (Str.ofString "_Accumulator.part_count") (0) ([]) (Value.none) (Value.none) (Value.none) (Value.none) (none) (Value.none) (Value.none) (0) rfl
noncomputable abbrev o_177 (P : Params) : Obj := { cls := Value.type "code", data := Data.fields #[Value.str (Str.ofString "part_count") 336, Value.str (Str.ofString "_Accumulator.part_count") 337, Value.str (Str.ofString "/claim/cut.py") 338, Value.int 84 0, Value.int 1 0, Value.int 0 0, Value.int 0 0, Value.int 3 0, Value.ref 134, Value.bool true, Value.int 181 0, Value.ref 135, Value.none, Value.ref 136, Value.ref 137, Value.ref 138, Value.int 341 0, Value.int 84 0, Value.str (Str.ofString "/claim/cut.py") 342] }
noncomputable abbrev o_178 (P : Params) : Obj := fnO 5 (some 8) (Value.type "function") (none) (#[]) (Str.ofString "_Accumulator.part_count") (3) ([(Str.ofString "__class__", 67)]) (Value.none) (Value.none) (Value.none) (Value.str (Str.ofString "cpy313.email.header") 254) (none) (Value.ref 139) (Value.ref 133) (0) rfl
noncomputable abbrev o_179 (P : Params) : Obj := { cls := Value.type "tuple", data := Data.seq #[Value.str (Str.ofString "_initial_size") 344] }
noncomputable abbrev o_180 (P : Params) : Obj := { cls := Value.type "dict", data := Data.dict #[{ hash := PyData.keyHash P (Str.ofString "__module__"), key := Value.str (Str.ofString "__module__") 265, val := Value.str (Str.ofString "cpy313.email.header") 254 }, { hash := PyData.keyHash P (Str.ofString "__firstlineno__"), key := Value.str (Str.ofString "__firstlineno__") 269, val := Value.int 50 268 }, { hash := PyData.keyHash P (Str.ofString "__init__"), key := Value.str (Str.ofString "__init__") 279, val := Value.ref 80 }, { hash := PyData.keyHash P (Str.ofString "push"), key := Value.str (Str.ofString "push") 288, val := Value.ref 87 }, { hash := PyData.keyHash P (Str.ofString "pop_from"), key := Value.str (Str.ofString "pop_from") 298, val := Value.ref 95 }, { hash := PyData.keyHash P (Str.ofString "pop"), key := Value.str (Str.ofString "pop") 306, val := Value.ref 103 }, { hash := PyData.keyHash P (Str.ofString "__len__"), key := Value.str (Str.ofString "__len__") 313, val := Value.ref 110 }, { hash := PyData.keyHash P (Str.ofString "__str__"), key := Value.str (Str.ofString "__str__") 320, val := Value.ref 117 }, { hash := PyData.keyHash P (Str.ofString "reset"), key := Value.str (Str.ofString "reset") 328, val := Value.ref 125 }, { hash := PyData.keyHash P (Str.ofString "is_onlyws"), key := Value.str (Str.ofString "is_onlyws") 335, val := Value.ref 132 }, { hash := PyData.keyHash P (Str.ofString "part_count"), key := Value.str (Str.ofString "part_count") 343, val := Value.ref 140 }, { hash := PyData.keyHash P (Str.ofString "__static_attributes__"), key := Value.str (Str.ofString "__static_attributes__") 345, val := Value.ref 141 }, { hash := PyData.keyHash P (Str.ofString "__dict__"), key := Value.str (Str.ofString "__dict__") 348, val := Value.ref 144 }, { hash := PyData.keyHash P (Str.ofString "__weakref__"), key := Value.str (Str.ofString "__weakref__") 350, val := Value.ref 145 }, { hash := PyData.keyHash P (Str.ofString "__doc__"), key := Value.str (Str.ofString "__doc__") 351, val := Value.none }] 5 }
noncomputable abbrev o_181 (P : Params) : Obj := { cls := Value.type "type", data := Data.cls { name := Str.ofString "_Accumulator", bases := [Value.type "list"], mro := [Value.ref 143, Value.type "list", Value.type "object"], ns := 142, qualname := Str.ofString "_Accumulator" }, slots := #[some (Value.ref 64), none, some (Value.str (Str.ofString "_Accumulator") 258), some (Value.str (Str.ofString "_Accumulator") 266), some (Value.builtin "list.__new__"), some (Value.bool true)] }
noncomputable abbrev o_182 (P : Params) : Obj := { cls := Value.type "getset_descriptor", data := Data.fields #[Value.str (Str.ofString "__dict__") 347, Value.ref 143, Value.builtin "function.__dict__", Value.builtin "function.__dict__#set"] }
noncomputable abbrev o_183 (P : Params) : Obj := { cls := Value.type "getset_descriptor", data := Data.fields #[Value.str (Str.ofString "__weakref__") 349, Value.ref 143, Value.builtin "ExceptionGroup.__weakref__", Value.none] }
noncomputable abbrev o_184 (P : Params) : Obj := { cls := Value.type "super", data := Data.fields #[Value.ref 143, Value.ref 143, Value.ref 143] }
noncomputable abbrev o_185 (P : Params) : Obj := { cls := Value.type "builtin_function_or_method", data := Data.fields #[Value.builtin "object.__init_subclass__", Value.ref 143] }
noncomputable abbrev o_186 (P : Params) : Obj := { cls := Value.type "dict", data := Data.dict #[{ hash := PyData.keyHash P (Str.ofString "__name__"), key := Value.str (Str.ofString "__name__") 165, val := Value.str (Str.ofString "cpy313.token") 354 }, { hash := PyData.keyHash P (Str.ofString "__doc__"), key := Value.str (Str.ofString "__doc__") 166, val := Value.none }, { hash := PyData.keyHash P (Str.ofString "__package__"), key := Value.str (Str.ofString "__package__") 167, val := Value.none }, { hash := PyData.keyHash P (Str.ofString "__loader__"), key := Value.str (Str.ofString "__loader__") 168, val := Value.builtin "__main__.__loader__#opaque" }, { hash := PyData.keyHash P (Str.ofString "__spec__"), key := Value.str (Str.ofString "__spec__") 169, val := Value.none }, { hash := PyData.keyHash P (Str.ofString "__annotations__"), key := Value.str (Str.ofString "__annotations__") 170, val := Value.ref 6 }, { hash := PyData.keyHash P (Str.ofString "__builtins__"), key := Value.str (Str.ofString "__builtins__") 171, val := Value.ref 4 }, { hash := PyData.keyHash P (Str.ofString "__file__"), key := Value.str (Str.ofString "__file__") 173, val := Value.str (Str.ofString "/claim/cut.py") 172 }, { hash := PyData.keyHash P (Str.ofString "__cached__"), key := Value.str (Str.ofString "__cached__") 174, val := Value.none }, { hash := PyData.keyHash P (Str.ofString "_wall"), key := Value.str (Str.ofString "_wall") 193, val := Value.ref 21 }, { hash := PyData.keyHash P (Str.ofString "_netrclex"), key := Value.str (Str.ofString "_netrclex") 253, val := Value.ref 59 }, { hash := PyData.keyHash P (Str.ofString "EMPTYSTRING"), key := Value.str (Str.ofString "EMPTYSTRING") 257, val := Value.str (Str.ofString "") 256 }, { hash := PyData.keyHash P (Str.ofString "_Accumulator"), key := Value.str (Str.ofString "_Accumulator") 353, val := Value.ref 143 }, { hash := PyData.keyHash P (Str.ofString "LPAR"), key := Value.str (Str.ofString "LPAR") 357, val := Value.int 7 356 }, { hash := PyData.keyHash P (Str.ofString "RPAR"), key := Value.str (Str.ofString "RPAR") 359, val := Value.int 8 358 }, { hash := PyData.keyHash P (Str.ofString "LSQB"), key := Value.str (Str.ofString "LSQB") 361, val := Value.int 9 360 }, { hash := PyData.keyHash P (Str.ofString "RSQB"), key := Value.str (Str.ofString "RSQB") 363, val := Value.int 10 362 }, { hash := PyData.keyHash P (Str.ofString "COLON"), key := Value.str (Str.ofString "COLON") 365, val := Value.int 11 364 }, { hash := PyData.keyHash P (Str.ofString "COMMA"), key := Value.str (Str.ofString "COMMA") 367, val := Value.int 12 366 }, { hash := PyData.keyHash P (Str.ofString "SEMI"), key := Value.str (Str.ofString "SEMI") 369, val := Value.int 13 368 }, { hash := PyData.keyHash P (Str.ofString "PLUS"), key := Value.str (Str.ofString "PLUS") 371, val := Value.int 14 370 }, { hash := PyData.keyHash P (Str.ofString "MINUS"), key := Value.str (Str.ofString "MINUS") 373, val := Value.int 15 372 }, { hash := PyData.keyHash P (Str.ofString "STAR"), key := Value.str (Str.ofString "STAR") 375, val := Value.int 16 374 }, { hash := PyData.keyHash P (Str.ofString "SLASH"), key := Value.str (Str.ofString "SLASH") 377, val := Value.int 17 376 }, { hash := PyData.keyHash P (Str.ofString "VBAR"), key := Value.str (Str.ofString "VBAR") 379, val := Value.int 18 378 }, { hash := PyData.keyHash P (Str.ofString "AMPER"), key := Value.str (Str.ofString "AMPER") 381, val := Value.int 19 380 }, { hash := PyData.keyHash P (Str.ofString "LESS"), key := Value.str (Str.ofString "LESS") 383, val := Value.int 20 382 }, { hash := PyData.keyHash P (Str.ofString "GREATER"), key := Value.str (Str.ofString "GREATER") 385, val := Value.int 21 384 }, { hash := PyData.keyHash P (Str.ofString "EQUAL"), key := Value.str (Str.ofString "EQUAL") 387, val := Value.int 22 386 }, { hash := PyData.keyHash P (Str.ofString "DOT"), key := Value.str (Str.ofString "DOT") 389, val := Value.int 23 388 }, { hash := PyData.keyHash P (Str.ofString "PERCENT"), key := Value.str (Str.ofString "PERCENT") 391, val := Value.int 24 390 }, { hash := PyData.keyHash P (Str.ofString "LBRACE"), key := Value.str (Str.ofString "LBRACE") 393, val := Value.int 25 392 }, { hash := PyData.keyHash P (Str.ofString "RBRACE"), key := Value.str (Str.ofString "RBRACE") 395, val := Value.int 26 394 }, { hash := PyData.keyHash P (Str.ofString "EQEQUAL"), key := Value.str (Str.ofString "EQEQUAL") 397, val := Value.int 27 396 }, { hash := PyData.keyHash P (Str.ofString "NOTEQUAL"), key := Value.str (Str.ofString "NOTEQUAL") 399, val := Value.int 28 398 }, { hash := PyData.keyHash P (Str.ofString "LESSEQUAL"), key := Value.str (Str.ofString "LESSEQUAL") 401, val := Value.int 29 400 }, { hash := PyData.keyHash P (Str.ofString "GREATEREQUAL"), key := Value.str (Str.ofString "GREATEREQUAL") 403, val := Value.int 30 402 }, { hash := PyData.keyHash P (Str.ofString "TILDE"), key := Value.str (Str.ofString "TILDE") 405, val := Value.int 31 404 }, { hash := PyData.keyHash P (Str.ofString "CIRCUMFLEX"), key := Value.str (Str.ofString "CIRCUMFLEX") 407, val := Value.int 32 406 }, { hash := PyData.keyHash P (Str.ofString "LEFTSHIFT"), key := Value.str (Str.ofString "LEFTSHIFT") 409, val := Value.int 33 408 }, { hash := PyData.keyHash P (Str.ofString "RIGHTSHIFT"), key := Value.str (Str.ofString "RIGHTSHIFT") 411, val := Value.int 34 410 }, { hash := PyData.keyHash P (Str.ofString "DOUBLESTAR"), key := Value.str (Str.ofString "DOUBLESTAR") 413, val := Value.int 35 412 }, { hash := PyData.keyHash P (Str.ofString "PLUSEQUAL"), key := Value.str (Str.ofString "PLUSEQUAL") 415, val := Value.int 36 414 }, { hash := PyData.keyHash P (Str.ofString "MINEQUAL"), key := Value.str (Str.ofString "MINEQUAL") 417, val := Value.int 37 416 }, { hash := PyData.keyHash P (Str.ofString "STAREQUAL"), key := Value.str (Str.ofString "STAREQUAL") 419, val := Value.int 38 418 }, { hash := PyData.keyHash P (Str.ofString "SLASHEQUAL"), key := Value.str (Str.ofString "SLASHEQUAL") 421, val := Value.int 39 420 }, { hash := PyData.keyHash P (Str.ofString "PERCENTEQUAL"), key := Value.str (Str.ofString "PERCENTEQUAL") 423, val := Value.int 40 422 }, { hash := PyData.keyHash P (Str.ofString "AMPEREQUAL"), key := Value.str (Str.ofString "AMPEREQUAL") 425, val := Value.int 41 424 }, { hash := PyData.keyHash P (Str.ofString "VBAREQUAL"), key := Value.str (Str.ofString "VBAREQUAL") 427, val := Value.int 42 426 }, { hash := PyData.keyHash P (Str.ofString "CIRCUMFLEXEQUAL"), key := Value.str (Str.ofString "CIRCUMFLEXEQUAL") 429, val := Value.int 43 428 }, { hash := PyData.keyHash P (Str.ofString "LEFTSHIFTEQUAL"), key := Value.str (Str.ofString "LEFTSHIFTEQUAL") 431, val := Value.int 44 430 }, { hash := PyData.keyHash P (Str.ofString "RIGHTSHIFTEQUAL"), key := Value.str (Str.ofString "RIGHTSHIFTEQUAL") 433, val := Value.int 45 432 }, { hash := PyData.keyHash P (Str.ofString "DOUBLESTAREQUAL"), key := Value.str (Str.ofString "DOUBLESTAREQUAL") 435, val := Value.int 46 434 }, { hash := PyData.keyHash P (Str.ofString "DOUBLESLASH"), key := Value.str (Str.ofString "DOUBLESLASH") 437, val := Value.int 47 436 }, { hash := PyData.keyHash P (Str.ofString "DOUBLESLASHEQUAL"), key := Value.str (Str.ofString "DOUBLESLASHEQUAL") 439, val := Value.int 48 438 }, { hash := PyData.keyHash P (Str.ofString "AT"), key := Value.str (Str.ofString "AT") 441, val := Value.int 49 440 }] 56 }
noncomputable abbrev o_188 (P : Params) : Obj := { cls := Value.type "dict", data := Data.dict #[{ hash := PyData.keyHash P (Str.ofString "__name__"), key := Value.str (Str.ofString "__name__") 165, val := Value.str (Str.ofString "cpy313.token") 354 }, { hash := PyData.keyHash P (Str.ofString "__doc__"), key := Value.str (Str.ofString "__doc__") 166, val := Value.none }, { hash := PyData.keyHash P (Str.ofString "__package__"), key := Value.str (Str.ofString "__package__") 167, val := Value.none }, { hash := PyData.keyHash P (Str.ofString "__loader__"), key := Value.str (Str.ofString "__loader__") 168, val := Value.builtin "__main__.__loader__#opaque" }, { hash := PyData.keyHash P (Str.ofString "__spec__"), key := Value.str (Str.ofString "__spec__") 169, val := Value.none }, { hash := PyData.keyHash P (Str.ofString "__annotations__"), key := Value.str (Str.ofString "__annotations__") 170, val := Value.ref 6 }, { hash := PyData.keyHash P (Str.ofString "__builtins__"), key := Value.str (Str.ofString "__builtins__") 171, val := Value.ref 4 }, { hash := PyData.keyHash P (Str.ofString "__file__"), key := Value.str (Str.ofString "__file__") 173, val := Value.str (Str.ofString "/claim/cut.py") 172 }, { hash := PyData.keyHash P (Str.ofString "__cached__"), key := Value.str (Str.ofString "__cached__") 174, val := Value.none }, { hash := PyData.keyHash P (Str.ofString "_wall"), key := Value.str (Str.ofString "_wall") 193, val := Value.ref 21 }, { hash := PyData.keyHash P (Str.ofString "_netrclex"), key := Value.str (Str.ofString "_netrclex") 253, val := Value.ref 59 }, { hash := PyData.keyHash P (Str.ofString "EMPTYSTRING"), key := Value.str (Str.ofString "EMPTYSTRING") 257, val := Value.str (Str.ofString "") 256 }, { hash := PyData.keyHash P (Str.ofString "_Accumulator"), key := Value.str (Str.ofString "_Accumulator") 353, val := Value.ref 143 }, { hash := PyData.keyHash P (Str.ofString "LPAR"), key := Value.str (Str.ofString "LPAR") 357, val := Value.int 7 356 }, { hash := PyData.keyHash P (Str.ofString "RPAR"), key := Value.str (Str.ofString "RPAR") 359, val := Value.int 8 358 }, { hash := PyData.keyHash P (Str.ofString "LSQB"), key := Value.str (Str.ofString "LSQB") 361, val := Value.int 9 360 }, { hash := PyData.keyHash P (Str.ofString "RSQB"), key := Value.str (Str.ofString "RSQB") 363, val := Value.int 10 362 }, { hash := PyData.keyHash P (Str.ofString "COLON"), key := Value.str (Str.ofString "COLON") 365, val := Value.int 11 364 }, { hash := PyData.keyHash P (Str.ofString "COMMA"), key := Value.str (Str.ofString "COMMA") 367, val := Value.int 12 366 }, { hash := PyData.keyHash P (Str.ofString "SEMI"), key := Value.str (Str.ofString "SEMI") 369, val := Value.int 13 368 }, { hash := PyData.keyHash P (Str.ofString "PLUS"), key := Value.str (Str.ofString "PLUS") 371, val := Value.int 14 370 }, { hash := PyData.keyHash P (Str.ofString "MINUS"), key := Value.str (Str.ofString "MINUS") 373, val := Value.int 15 372 }, { hash := PyData.keyHash P (Str.ofString "STAR"), key := Value.str (Str.ofString "STAR") 375, val := Value.int 16 374 }, { hash := PyData.keyHash P (Str.ofString "SLASH"), key := Value.str (Str.ofString "SLASH") 377, val := Value.int 17 376 }, { hash := PyData.keyHash P (Str.ofString "VBAR"), key := Value.str (Str.ofString "VBAR") 379, val := Value.int 18 378 }, { hash := PyData.keyHash P (Str.ofString "AMPER"), key := Value.str (Str.ofString "AMPER") 381, val := Value.int 19 380 }, { hash := PyData.keyHash P (Str.ofString "LESS"), key := Value.str (Str.ofString "LESS") 383, val := Value.int 20 382 }, { hash := PyData.keyHash P (Str.ofString "GREATER"), key := Value.str (Str.ofString "GREATER") 385, val := Value.int 21 384 }, { hash := PyData.keyHash P (Str.ofString "EQUAL"), key := Value.str (Str.ofString "EQUAL") 387, val := Value.int 22 386 }, { hash := PyData.keyHash P (Str.ofString "DOT"), key := Value.str (Str.ofString "DOT") 389, val := Value.int 23 388 }, { hash := PyData.keyHash P (Str.ofString "PERCENT"), key := Value.str (Str.ofString "PERCENT") 391, val := Value.int 24 390 }, { hash := PyData.keyHash P (Str.ofString "LBRACE"), key := Value.str (Str.ofString "LBRACE") 393, val := Value.int 25 392 }, { hash := PyData.keyHash P (Str.ofString "RBRACE"), key := Value.str (Str.ofString "RBRACE") 395, val := Value.int 26 394 }, { hash := PyData.keyHash P (Str.ofString "EQEQUAL"), key := Value.str (Str.ofString "EQEQUAL") 397, val := Value.int 27 396 }, { hash := PyData.keyHash P (Str.ofString "NOTEQUAL"), key := Value.str (Str.ofString "NOTEQUAL") 399, val := Value.int 28 398 }, { hash := PyData.keyHash P (Str.ofString "LESSEQUAL"), key := Value.str (Str.ofString "LESSEQUAL") 401, val := Value.int 29 400 }, { hash := PyData.keyHash P (Str.ofString "GREATEREQUAL"), key := Value.str (Str.ofString "GREATEREQUAL") 403, val := Value.int 30 402 }, { hash := PyData.keyHash P (Str.ofString "TILDE"), key := Value.str (Str.ofString "TILDE") 405, val := Value.int 31 404 }, { hash := PyData.keyHash P (Str.ofString "CIRCUMFLEX"), key := Value.str (Str.ofString "CIRCUMFLEX") 407, val := Value.int 32 406 }, { hash := PyData.keyHash P (Str.ofString "LEFTSHIFT"), key := Value.str (Str.ofString "LEFTSHIFT") 409, val := Value.int 33 408 }, { hash := PyData.keyHash P (Str.ofString "RIGHTSHIFT"), key := Value.str (Str.ofString "RIGHTSHIFT") 411, val := Value.int 34 410 }, { hash := PyData.keyHash P (Str.ofString "DOUBLESTAR"), key := Value.str (Str.ofString "DOUBLESTAR") 413, val := Value.int 35 412 }, { hash := PyData.keyHash P (Str.ofString "PLUSEQUAL"), key := Value.str (Str.ofString "PLUSEQUAL") 415, val := Value.int 36 414 }, { hash := PyData.keyHash P (Str.ofString "MINEQUAL"), key := Value.str (Str.ofString "MINEQUAL") 417, val := Value.int 37 416 }, { hash := PyData.keyHash P (Str.ofString "STAREQUAL"), key := Value.str (Str.ofString "STAREQUAL") 419, val := Value.int 38 418 }, { hash := PyData.keyHash P (Str.ofString "SLASHEQUAL"), key := Value.str (Str.ofString "SLASHEQUAL") 421, val := Value.int 39 420 }, { hash := PyData.keyHash P (Str.ofString "PERCENTEQUAL"), key := Value.str (Str.ofString "PERCENTEQUAL") 423, val := Value.int 40 422 }, { hash := PyData.keyHash P (Str.ofString "AMPEREQUAL"), key := Value.str (Str.ofString "AMPEREQUAL") 425, val := Value.int 41 424 }, { hash := PyData.keyHash P (Str.ofString "VBAREQUAL"), key := Value.str (Str.ofString "VBAREQUAL") 427, val := Value.int 42 426 }, { hash := PyData.keyHash P (Str.ofString "CIRCUMFLEXEQUAL"), key := Value.str (Str.ofString "CIRCUMFLEXEQUAL") 429, val := Value.int 43 428 }, { hash := PyData.keyHash P (Str.ofString "LEFTSHIFTEQUAL"), key := Value.str (Str.ofString "LEFTSHIFTEQUAL") 431, val := Value.int 44 430 }, { hash := PyData.keyHash P (Str.ofString "RIGHTSHIFTEQUAL"), key := Value.str (Str.ofString "RIGHTSHIFTEQUAL") 433, val := Value.int 45 432 }, { hash := PyData.keyHash P (Str.ofString "DOUBLESTAREQUAL"), key := Value.str (Str.ofString "DOUBLESTAREQUAL") 435, val := Value.int 46 434 }, { hash := PyData.keyHash P (Str.ofString "DOUBLESLASH"), key := Value.str (Str.ofString "DOUBLESLASH") 437, val := Value.int 47 436 }, { hash := PyData.keyHash P (Str.ofString "DOUBLESLASHEQUAL"), key := Value.str (Str.ofString "DOUBLESLASHEQUAL") 439, val := Value.int 48 438 }, { hash := PyData.keyHash P (Str.ofString "AT"), key := Value.str (Str.ofString "AT") 441, val := Value.int 49 440 }, { hash := PyData.keyHash P (Str.ofString "ATEQUAL"), key := Value.str (Str.ofString "ATEQUAL") 443, val := Value.int 50 442 }, { hash := PyData.keyHash P (Str.ofString "RARROW"), key := Value.str (Str.ofString "RARROW") 445, val := Value.int 51 444 }, { hash := PyData.keyHash P (Str.ofString "ELLIPSIS"), key := Value.str (Str.ofString "ELLIPSIS") 447, val := Value.int 52 446 }, { hash := PyData.keyHash P (Str.ofString "COLONEQUAL"), key := Value.str (Str.ofString "COLONEQUAL") 449, val := Value.int 53 448 }, { hash := PyData.keyHash P (Str.ofString "EXCLAMATION"), key := Value.str (Str.ofString "EXCLAMATION") 451, val := Value.int 54 450 }, { hash := PyData.keyHash P (Str.ofString "NT_OFFSET"), key := Value.str (Str.ofString "NT_OFFSET") 453, val := Value.int 256 452 }] 62 }
noncomputable abbrev o_190 (P : Params) : Obj := { cls := Value.type "dict", data := Data.dict #[{ hash := PyData.keyHash P (Str.ofString "__name__"), key := Value.str (Str.ofString "__name__") 165, val := Value.str (Str.ofString "cpy313.token") 354 }, { hash := PyData.keyHash P (Str.ofString "__doc__"), key := Value.str (Str.ofString "__doc__") 166, val := Value.none }, { hash := PyData.keyHash P (Str.ofString "__package__"), key := Value.str (Str.ofString "__package__") 167, val := Value.none }, { hash := PyData.keyHash P (Str.ofString "__loader__"), key := Value.str (Str.ofString "__loader__") 168, val := Value.builtin "__main__.__loader__#opaque" }, { hash := PyData.keyHash P (Str.ofString "__spec__"), key := Value.str (Str.ofString "__spec__") 169, val := Value.none }, { hash := PyData.keyHash P (Str.ofString "__annotations__"), key := Value.str (Str.ofString "__annotations__") 170, val := Value.ref 6 }, { hash := PyData.keyHash P (Str.ofString "__builtins__"), key := Value.str (Str.ofString "__builtins__") 171, val := Value.ref 4 }, { hash := PyData.keyHash P (Str.ofString "__file__"), key := Value.str (Str.ofString "__file__") 173, val := Value.str (Str.ofString "/claim/cut.py") 172 }, { hash := PyData.keyHash P (Str.ofString "__cached__"), key := Value.str (Str.ofString "__cached__") 174, val := Value.none }, { hash := PyData.keyHash P (Str.ofString "_wall"), key := Value.str (Str.ofString "_wall") 193, val := Value.ref 21 }, { hash := PyData.keyHash P (Str.ofString "_netrclex"), key := Value.str (Str.ofString "_netrclex") 253, val := Value.ref 59 }, { hash := PyData.keyHash P (Str.ofString "EMPTYSTRING"), key := Value.str (Str.ofString "EMPTYSTRING") 257, val := Value.str (Str.ofString "") 256 }, { hash := PyData.keyHash P (Str.ofString "_Accumulator"), key := Value.str (Str.ofString "_Accumulator") 353, val := Value.ref 143 }, { hash := PyData.keyHash P (Str.ofString "LPAR"), key := Value.str (Str.ofString "LPAR") 357, val := Value.int 7 356 }, { hash := PyData.keyHash P (Str.ofString "RPAR"), key := Value.str (Str.ofString "RPAR") 359, val := Value.int 8 358 }, { hash := PyData.keyHash P (Str.ofString "LSQB"), key := Value.str (Str.ofString "LSQB") 361, val := Value.int 9 360 }, { hash := PyData.keyHash P (Str.ofString "RSQB"), key := Value.str (Str.ofString "RSQB") 363, val := Value.int 10 362 }, { hash := PyData.keyHash P (Str.ofString "COLON"), key := Value.str (Str.ofString "COLON") 365, val := Value.int 11 364 }, { hash := PyData.keyHash P (Str.ofString "COMMA"), key := Value.str (Str.ofString "COMMA") 367, val := Value.int 12 366 }, { hash := PyData.keyHash P (Str.ofString "SEMI"), key := Value.str (Str.ofString "SEMI") 369, val := Value.int 13 368 }, { hash := PyData.keyHash P (Str.ofString "PLUS"), key := Value.str (Str.ofString "PLUS") 371, val := Value.int 14 370 }, { hash := PyData.keyHash P (Str.ofString "MINUS"), key := Value.str (Str.ofString "MINUS") 373, val := Value.int 15 372 }, { hash := PyData.keyHash P (Str.ofString "STAR"), key := Value.str (Str.ofString "STAR") 375, val := Value.int 16 374 }, { hash := PyData.keyHash P (Str.ofString "SLASH"), key := Value.str (Str.ofString "SLASH") 377, val := Value.int 17 376 }, { hash := PyData.keyHash P (Str.ofString "VBAR"), key := Value.str (Str.ofString "VBAR") 379, val := Value.int 18 378 }, { hash := PyData.keyHash P (Str.ofString "AMPER"), key := Value.str (Str.ofString "AMPER") 381, val := Value.int 19 380 }, { hash := PyData.keyHash P (Str.ofString "LESS"), key := Value.str (Str.ofString "LESS") 383, val := Value.int 20 382 }, { hash := PyData.keyHash P (Str.ofString "GREATER"), key := Value.str (Str.ofString "GREATER") 385, val := Value.int 21 384 }, { hash := PyData.keyHash P (Str.ofString "EQUAL"), key := Value.str (Str.ofString "EQUAL") 387, val := Value.int 22 386 }, { hash := PyData.keyHash P (Str.ofString "DOT"), key := Value.str (Str.ofString "DOT") 389, val := Value.int 23 388 }, { hash := PyData.keyHash P (Str.ofString "PERCENT"), key := Value.str (Str.ofString "PERCENT") 391, val := Value.int 24 390 }, { hash := PyData.keyHash P (Str.ofString "LBRACE"), key := Value.str (Str.ofString "LBRACE") 393, val := Value.int 25 392 }, { hash := PyData.keyHash P (Str.ofString "RBRACE"), key := Value.str (Str.ofString "RBRACE") 395, val := Value.int 26 394 }, { hash := PyData.keyHash P (Str.ofString "EQEQUAL"), key := Value.str (Str.ofString "EQEQUAL") 397, val := Value.int 27 396 }, { hash := PyData.keyHash P (Str.ofString "NOTEQUAL"), key := Value.str (Str.ofString "NOTEQUAL") 399, val := Value.int 28 398 }, { hash := PyData.keyHash P (Str.ofString "LESSEQUAL"), key := Value.str (Str.ofString "LESSEQUAL") 401, val := Value.int 29 400 }, { hash := PyData.keyHash P (Str.ofString "GREATEREQUAL"), key := Value.str (Str.ofString "GREATEREQUAL") 403, val := Value.int 30 402 }, { hash := PyData.keyHash P (Str.ofString "TILDE"), key := Value.str (Str.ofString "TILDE") 405, val := Value.int 31 404 }, { hash := PyData.keyHash P (Str.ofString "CIRCUMFLEX"), key := Value.str (Str.ofString "CIRCUMFLEX") 407, val := Value.int 32 406 }, { hash := PyData.keyHash P (Str.ofString "LEFTSHIFT"), key := Value.str (Str.ofString "LEFTSHIFT") 409, val := Value.int 33 408 }, { hash := PyData.keyHash P (Str.ofString "RIGHTSHIFT"), key := Value.str (Str.ofString "RIGHTSHIFT") 411, val := Value.int 34 410 }, { hash := PyData.keyHash P (Str.ofString "DOUBLESTAR"), key := Value.str (Str.ofString "DOUBLESTAR") 413, val := Value.int 35 412 }, { hash := PyData.keyHash P (Str.ofString "PLUSEQUAL"), key := Value.str (Str.ofString "PLUSEQUAL") 415, val := Value.int 36 414 }, { hash := PyData.keyHash P (Str.ofString "MINEQUAL"), key := Value.str (Str.ofString "MINEQUAL") 417, val := Value.int 37 416 }, { hash := PyData.keyHash P (Str.ofString "STAREQUAL"), key := Value.str (Str.ofString "STAREQUAL") 419, val := Value.int 38 418 }, { hash := PyData.keyHash P (Str.ofString "SLASHEQUAL"), key := Value.str (Str.ofString "SLASHEQUAL") 421, val := Value.int 39 420 }, { hash := PyData.keyHash P (Str.ofString "PERCENTEQUAL"), key := Value.str (Str.ofString "PERCENTEQUAL") 423, val := Value.int 40 422 }, { hash := PyData.keyHash P (Str.ofString "AMPEREQUAL"), key := Value.str (Str.ofString "AMPEREQUAL") 425, val := Value.int 41 424 }, { hash := PyData.keyHash P (Str.ofString "VBAREQUAL"), key := Value.str (Str.ofString "VBAREQUAL") 427, val := Value.int 42 426 }, { hash := PyData.keyHash P (Str.ofString "CIRCUMFLEXEQUAL"), key := Value.str (Str.ofString "CIRCUMFLEXEQUAL") 429, val := Value.int 43 428 }, { hash := PyData.keyHash P (Str.ofString "LEFTSHIFTEQUAL"), key := Value.str (Str.ofString "LEFTSHIFTEQUAL") 431, val := Value.int 44 430 }, { hash := PyData.keyHash P (Str.ofString "RIGHTSHIFTEQUAL"), key := Value.str (Str.ofString "RIGHTSHIFTEQUAL") 433, val := Value.int 45 432 }, { hash := PyData.keyHash P (Str.ofString "DOUBLESTAREQUAL"), key := Value.str (Str.ofString "DOUBLESTAREQUAL") 435, val := Value.int 46 434 }, { hash := PyData.keyHash P (Str.ofString "DOUBLESLASH"), key := Value.str (Str.ofString "DOUBLESLASH") 437, val := Value.int 47 436 }, { hash := PyData.keyHash P (Str.ofString "DOUBLESLASHEQUAL"), key := Value.str (Str.ofString "DOUBLESLASHEQUAL") 439, val := Value.int 48 438 }, { hash := PyData.keyHash P (Str.ofString "AT"), key := Value.str (Str.ofString "AT") 441, val := Value.int 49 440 }, { hash := PyData.keyHash P (Str.ofString "ATEQUAL"), key := Value.str (Str.ofString "ATEQUAL") 443, val := Value.int 50 442 }, { hash := PyData.keyHash P (Str.ofString "RARROW"), key := Value.str (Str.ofString "RARROW") 445, val := Value.int 51 444 }, { hash := PyData.keyHash P (Str.ofString "ELLIPSIS"), key := Value.str (Str.ofString "ELLIPSIS") 447, val := Value.int 52 446 }, { hash := PyData.keyHash P (Str.ofString "COLONEQUAL"), key := Value.str (Str.ofString "COLONEQUAL") 449, val := Value.int 53 448 }, { hash := PyData.keyHash P (Str.ofString "EXCLAMATION"), key := Value.str (Str.ofString "EXCLAMATION") 451, val := Value.int 54 450 }, { hash := PyData.keyHash P (Str.ofString "NT_OFFSET"), key := Value.str (Str.ofString "NT_OFFSET") 453, val := Value.int 256 452 }, { hash := PyData.keyHash P (Str.ofString "EXACT_TOKEN_TYPES"), key := Value.str (Str.ofString "EXACT_TOKEN_TYPES") 550, val := Value.ref 148 }] 63 }
noncomputable abbrev o_191 (P : Params) : Obj := { cls := Value.type "dict", data := Data.dict #[{ hash := PyData.keyHash P (Str.ofString "!"), key := Value.str (Str.ofString "!") 454, val := Value.int 54 450 }, { hash := PyData.keyHash P (Str.ofString "!="), key := Value.str (Str.ofString "!=") 456, val := Value.int 28 398 }, { hash := PyData.keyHash P (Str.ofString "%"), key := Value.str (Str.ofString "%") 458, val := Value.int 24 390 }, { hash := PyData.keyHash P (Str.ofString "%="), key := Value.str (Str.ofString "%=") 460, val := Value.int 40 422 }, { hash := PyData.keyHash P (Str.ofString "&"), key := Value.str (Str.ofString "&") 462, val := Value.int 19 380 }, { hash := PyData.keyHash P (Str.ofString "&="), key := Value.str (Str.ofString "&=") 464, val := Value.int 41 424 }, { hash := PyData.keyHash P (Str.ofString "("), key := Value.str (Str.ofString "(") 466, val := Value.int 7 356 }, { hash := PyData.keyHash P (Str.ofString ")"), key := Value.str (Str.ofString ")") 468, val := Value.int 8 358 }, { hash := PyData.keyHash P (Str.ofString "*"), key := Value.str (Str.ofString "*") 470, val := Value.int 16 374 }, { hash := PyData.keyHash P (Str.ofString "**"), key := Value.str (Str.ofString "**") 472, val := Value.int 35 412 }, { hash := PyData.keyHash P (Str.ofString "**="), key := Value.str (Str.ofString "**=") 474, val := Value.int 46 434 }, { hash := PyData.keyHash P (Str.ofString "*="), key := Value.str (Str.ofString "*=") 476, val := Value.int 38 418 }, { hash := PyData.keyHash P (Str.ofString "+"), key := Value.str (Str.ofString "+") 478, val := Value.int 14 370 }, { hash := PyData.keyHash P (Str.ofString "+="), key := Value.str (Str.ofString "+=") 480, val := Value.int 36 414 }, { hash := PyData.keyHash P (Str.ofString ","), key := Value.str (Str.ofString ",") 482, val := Value.int 12 366 }, { hash := PyData.keyHash P (Str.ofString "-"), key := Value.str (Str.ofString "-") 484, val := Value.int 15 372 }, { hash := PyData.keyHash P (Str.ofString "-="), key := Value.str (Str.ofString "-=") 486, val := Value.int 37 416 }, { hash := PyData.keyHash P (Str.ofString "->"), key := Value.str (Str.ofString "->") 488, val := Value.int 51 444 }, { hash := PyData.keyHash P (Str.ofString "."), key := Value.str (Str.ofString ".") 490, val := Value.int 23 388 }, { hash := PyData.keyHash P (Str.ofString "..."), key := Value.str (Str.ofString "...") 492, val := Value.int 52 446 }, { hash := PyData.keyHash P (Str.ofString "/"), key := Value.str (Str.ofString "/") 494, val := Value.int 17 376 }, { hash := PyData.keyHash P (Str.ofString "//"), key := Value.str (Str.ofString "//") 496, val := Value.int 47 436 }, { hash := PyData.keyHash P (Str.ofString "//="), key := Value.str (Str.ofString "//=") 498, val := Value.int 48 438 }, { hash := PyData.keyHash P (Str.ofString "/="), key := Value.str (Str.ofString "/=") 500, val := Value.int 39 420 }, { hash := PyData.keyHash P (Str.ofString ":"), key := Value.str (Str.ofString ":") 502, val := Value.int 11 364 }, { hash := PyData.keyHash P (Str.ofString ":="), key := Value.str (Str.ofString ":=") 504, val := Value.int 53 448 }, { hash := PyData.keyHash P (Str.ofString ";"), key := Value.str (Str.ofString ";") 506, val := Value.int 13 368 }, { hash := PyData.keyHash P (Str.ofString "<"), key := Value.str (Str.ofString "<") 508, val := Value.int 20 382 }, { hash := PyData.keyHash P (Str.ofString "<<"), key := Value.str (Str.ofString "<<") 510, val := Value.int 33 408 }, { hash := PyData.keyHash P (Str.ofString "<<="), key := Value.str (Str.ofString "<<=") 512, val := Value.int 44 430 }, { hash := PyData.keyHash P (Str.ofString "<="), key := Value.str (Str.ofString "<=") 514, val := Value.int 29 400 }, { hash := PyData.keyHash P (Str.ofString "="), key := Value.str (Str.ofString "=") 516, val := Value.int 22 386 }, { hash := PyData.keyHash P (Str.ofString "=="), key := Value.str (Str.ofString "==") 518, val := Value.int 27 396 }, { hash := PyData.keyHash P (Str.ofString ">"), key := Value.str (Str.ofString ">") 520, val := Value.int 21 384 }, { hash := PyData.keyHash P (Str.ofString ">="), key := Value.str (Str.ofString ">=") 522, val := Value.int 30 402 }, { hash := PyData.keyHash P (Str.ofString ">>"), key := Value.str (Str.ofString ">>") 523, val := Value.int 34 410 }, { hash := PyData.keyHash P (Str.ofString ">>="), key := Value.str (Str.ofString ">>=") 524, val := Value.int 45 432 }, { hash := PyData.keyHash P (Str.ofString "@"), key := Value.str (Str.ofString "@") 525, val := Value.int 49 440 }, { hash := PyData.keyHash P (Str.ofString "@="), key := Value.str (Str.ofString "@=") 526, val := Value.int 50 442 }, { hash := PyData.keyHash P (Str.ofString "["), key := Value.str (Str.ofString "[") 527, val := Value.int 9 360 }, { hash := PyData.keyHash P (Str.ofString "]"), key := Value.str (Str.ofString "]") 528, val := Value.int 10 362 }, { hash := PyData.keyHash P (Str.ofString "^"), key := Value.str (Str.ofString "^") 529, val := Value.int 32 406 }, { hash := PyData.keyHash P (Str.ofString "^="), key := Value.str (Str.ofString "^=") 530, val := Value.int 43 428 }, { hash := PyData.keyHash P (Str.ofString "{"), key := Value.str (Str.ofString "{") 531, val := Value.int 25 392 }, { hash := PyData.keyHash P (Str.ofString "|"), key := Value.str (Str.ofString "|") 532, val := Value.int 18 378 }, { hash := PyData.keyHash P (Str.ofString "|="), key := Value.str (Str.ofString "|=") 533, val := Value.int 42 426 }, { hash := PyData.keyHash P (Str.ofString "}"), key := Value.str (Str.ofString "}") 534, val := Value.int 26 394 }, { hash := PyData.keyHash P (Str.ofString "~"), key := Value.str (Str.ofString "~") 535, val := Value.int 31 404 }] 48 }
noncomputable abbrev o_192 (P : Params) : Obj := { cls := Value.type "dict", data := Data.dict #[{ hash := PyData.keyHash P (Str.ofString "->"), key := Value.str (Str.ofString "->") 488, val := Value.int 51 444 }, { hash := PyData.keyHash P (Str.ofString "."), key := Value.str (Str.ofString ".") 490, val := Value.int 23 388 }, { hash := PyData.keyHash P (Str.ofString "..."), key := Value.str (Str.ofString "...") 492, val := Value.int 52 446 }, { hash := PyData.keyHash P (Str.ofString "/"), key := Value.str (Str.ofString "/") 494, val := Value.int 17 376 }, { hash := PyData.keyHash P (Str.ofString "//"), key := Value.str (Str.ofString "//") 496, val := Value.int 47 436 }, { hash := PyData.keyHash P (Str.ofString "//="), key := Value.str (Str.ofString "//=") 498, val := Value.int 48 438 }, { hash := PyData.keyHash P (Str.ofString "/="), key := Value.str (Str.ofString "/=") 500, val := Value.int 39 420 }, { hash := PyData.keyHash P (Str.ofString ":"), key := Value.str (Str.ofString ":") 502, val := Value.int 11 364 }, { hash := PyData.keyHash P (Str.ofString ":="), key := Value.str (Str.ofString ":=") 504, val := Value.int 53 448 }, { hash := PyData.keyHash P (Str.ofString ";"), key := Value.str (Str.ofString ";") 506, val := Value.int 13 368 }, { hash := PyData.keyHash P (Str.ofString "<"), key := Value.str (Str.ofString "<") 508, val := Value.int 20 382 }, { hash := PyData.keyHash P (Str.ofString "<<"), key := Value.str (Str.ofString "<<") 510, val := Value.int 33 408 }, { hash := PyData.keyHash P (Str.ofString "<<="), key := Value.str (Str.ofString "<<=") 512, val := Value.int 44 430 }, { hash := PyData.keyHash P (Str.ofString "<="), key := Value.str (Str.ofString "<=") 514, val := Value.int 29 400 }, { hash := PyData.keyHash P (Str.ofString "="), key := Value.str (Str.ofString "=") 516, val := Value.int 22 386 }, { hash := PyData.keyHash P (Str.ofString "=="), key := Value.str (Str.ofString "==") 518, val := Value.int 27 396 }, { hash := PyData.keyHash P (Str.ofString ">"), key := Value.str (Str.ofString ">") 520, val := Value.int 21 384 }] 17 }
noncomputable abbrev o_193 (P : Params) : Obj := { cls := Value.type "dict", data := Data.dict #[{ hash := PyData.keyHash P (Str.ofString ">="), key := Value.str (Str.ofString ">=") 522, val := Value.int 30 402 }, { hash := PyData.keyHash P (Str.ofString ">>"), key := Value.str (Str.ofString ">>") 523, val := Value.int 34 410 }, { hash := PyData.keyHash P (Str.ofString ">>="), key := Value.str (Str.ofString ">>=") 524, val := Value.int 45 432 }, { hash := PyData.keyHash P (Str.ofString "@"), key := Value.str (Str.ofString "@") 525, val := Value.int 49 440 }, { hash := PyData.keyHash P (Str.ofString "@="), key := Value.str (Str.ofString "@=") 526, val := Value.int 50 442 }, { hash := PyData.keyHash P (Str.ofString "["), key := Value.str (Str.ofString "[") 527, val := Value.int 9 360 }, { hash := PyData.keyHash P (Str.ofString "]"), key := Value.str (Str.ofString "]") 528, val := Value.int 10 362 }, { hash := PyData.keyHash P (Str.ofString "^"), key := Value.str (Str.ofString "^") 529, val := Value.int 32 406 }, { hash := PyData.keyHash P (Str.ofString "^="), key := Value.str (Str.ofString "^=") 530, val := Value.int 43 428 }, { hash := PyData.keyHash P (Str.ofString "{"), key := Value.str (Str.ofString "{") 531, val := Value.int 25 392 }, { hash := PyData.keyHash P (Str.ofString "|"), key := Value.str (Str.ofString "|") 532, val := Value.int 18 378 }, { hash := PyData.keyHash P (Str.ofString "|="), key := Value.str (Str.ofString "|=") 533, val := Value.int 42 426 }, { hash := PyData.keyHash P (Str.ofString "}"), key := Value.str (Str.ofString "}") 534, val := Value.int 26 394 }, { hash := PyData.keyHash P (Str.ofString "~"), key := Value.str (Str.ofString "~") 535, val := Value.int 31 404 }] 14 }
noncomputable abbrev o_197 (P : Params) : Obj := { cls := Value.type "dict", data := Data.dict #[{ hash := PyData.keyHash P (Str.ofString "__name__"), key := Value.str (Str.ofString "__name__") 165, val := Value.str (Str.ofString "law_ti0018_01") 558 }, { hash := PyData.keyHash P (Str.ofString "__doc__"), key := Value.str (Str.ofString "__doc__") 166, val := Value.none }, { hash := PyData.keyHash P (Str.ofString "__package__"), key := Value.str (Str.ofString "__package__") 167, val := Value.none }, { hash := PyData.keyHash P (Str.ofString "__loader__"), key := Value.str (Str.ofString "__loader__") 168, val := Value.builtin "__main__.__loader__#opaque" }, { hash := PyData.keyHash P (Str.ofString "__spec__"), key := Value.str (Str.ofString "__spec__") 169, val := Value.none }, { hash := PyData.keyHash P (Str.ofString "__annotations__"), key := Value.str (Str.ofString "__annotations__") 170, val := Value.ref 6 }, { hash := PyData.keyHash P (Str.ofString "__builtins__"), key := Value.str (Str.ofString "__builtins__") 171, val := Value.ref 4 }, { hash := PyData.keyHash P (Str.ofString "__file__"), key := Value.str (Str.ofString "__file__") 173, val := Value.str (Str.ofString "/claim/cut.py") 172 }, { hash := PyData.keyHash P (Str.ofString "__cached__"), key := Value.str (Str.ofString "__cached__") 174, val := Value.none }, { hash := PyData.keyHash P (Str.ofString "_wall"), key := Value.str (Str.ofString "_wall") 193, val := Value.ref 21 }, { hash := PyData.keyHash P (Str.ofString "_netrclex"), key := Value.str (Str.ofString "_netrclex") 253, val := Value.ref 59 }, { hash := PyData.keyHash P (Str.ofString "EMPTYSTRING"), key := Value.str (Str.ofString "EMPTYSTRING") 257, val := Value.str (Str.ofString "") 256 }, { hash := PyData.keyHash P (Str.ofString "_Accumulator"), key := Value.str (Str.ofString "_Accumulator") 353, val := Value.ref 143 }, { hash := PyData.keyHash P (Str.ofString "LPAR"), key := Value.str (Str.ofString "LPAR") 357, val := Value.int 7 356 }, { hash := PyData.keyHash P (Str.ofString "RPAR"), key := Value.str (Str.ofString "RPAR") 359, val := Value.int 8 358 }, { hash := PyData.keyHash P (Str.ofString "LSQB"), key := Value.str (Str.ofString "LSQB") 361, val := Value.int 9 360 }, { hash := PyData.keyHash P (Str.ofString "RSQB"), key := Value.str (Str.ofString "RSQB") 363, val := Value.int 10 362 }, { hash := PyData.keyHash P (Str.ofString "COLON"), key := Value.str (Str.ofString "COLON") 365, val := Value.int 11 364 }, { hash := PyData.keyHash P (Str.ofString "COMMA"), key := Value.str (Str.ofString "COMMA") 367, val := Value.int 12 366 }, { hash := PyData.keyHash P (Str.ofString "SEMI"), key := Value.str (Str.ofString "SEMI") 369, val := Value.int 13 368 }, { hash := PyData.keyHash P (Str.ofString "PLUS"), key := Value.str (Str.ofString "PLUS") 371, val := Value.int 14 370 }, { hash := PyData.keyHash P (Str.ofString "MINUS"), key := Value.str (Str.ofString "MINUS") 373, val := Value.int 15 372 }, { hash := PyData.keyHash P (Str.ofString "STAR"), key := Value.str (Str.ofString "STAR") 375, val := Value.int 16 374 }, { hash := PyData.keyHash P (Str.ofString "SLASH"), key := Value.str (Str.ofString "SLASH") 377, val := Value.int 17 376 }, { hash := PyData.keyHash P (Str.ofString "VBAR"), key := Value.str (Str.ofString "VBAR") 379, val := Value.int 18 378 }, { hash := PyData.keyHash P (Str.ofString "AMPER"), key := Value.str (Str.ofString "AMPER") 381, val := Value.int 19 380 }, { hash := PyData.keyHash P (Str.ofString "LESS"), key := Value.str (Str.ofString "LESS") 383, val := Value.int 20 382 }, { hash := PyData.keyHash P (Str.ofString "GREATER"), key := Value.str (Str.ofString "GREATER") 385, val := Value.int 21 384 }, { hash := PyData.keyHash P (Str.ofString "EQUAL"), key := Value.str (Str.ofString "EQUAL") 387, val := Value.int 22 386 }, { hash := PyData.keyHash P (Str.ofString "DOT"), key := Value.str (Str.ofString "DOT") 389, val := Value.int 23 388 }, { hash := PyData.keyHash P (Str.ofString "PERCENT"), key := Value.str (Str.ofString "PERCENT") 391, val := Value.int 24 390 }, { hash := PyData.keyHash P (Str.ofString "LBRACE"), key := Value.str (Str.ofString "LBRACE") 393, val := Value.int 25 392 }, { hash := PyData.keyHash P (Str.ofString "RBRACE"), key := Value.str (Str.ofString "RBRACE") 395, val := Value.int 26 394 }, { hash := PyData.keyHash P (Str.ofString "EQEQUAL"), key := Value.str (Str.ofString "EQEQUAL") 397, val := Value.int 27 396 }, { hash := PyData.keyHash P (Str.ofString "NOTEQUAL"), key := Value.str (Str.ofString "NOTEQUAL") 399, val := Value.int 28 398 }, { hash := PyData.keyHash P (Str.ofString "LESSEQUAL"), key := Value.str (Str.ofString "LESSEQUAL") 401, val := Value.int 29 400 }, { hash := PyData.keyHash P (Str.ofString "GREATEREQUAL"), key := Value.str (Str.ofString "GREATEREQUAL") 403, val := Value.int 30 402 }, { hash := PyData.keyHash P (Str.ofString "TILDE"), key := Value.str (Str.ofString "TILDE") 405, val := Value.int 31 404 }, { hash := PyData.keyHash P (Str.ofString "CIRCUMFLEX"), key := Value.str (Str.ofString "CIRCUMFLEX") 407, val := Value.int 32 406 }, { hash := PyData.keyHash P (Str.ofString "LEFTSHIFT"), key := Value.str (Str.ofString "LEFTSHIFT") 409, val := Value.int 33 408 }, { hash := PyData.keyHash P (Str.ofString "RIGHTSHIFT"), key := Value.str (Str.ofString "RIGHTSHIFT") 411, val := Value.int 34 410 }, { hash := PyData.keyHash P (Str.ofString "DOUBLESTAR"), key := Value.str (Str.ofString "DOUBLESTAR") 413, val := Value.int 35 412 }, { hash := PyData.keyHash P (Str.ofString "PLUSEQUAL"), key := Value.str (Str.ofString "PLUSEQUAL") 415, val := Value.int 36 414 }, { hash := PyData.keyHash P (Str.ofString "MINEQUAL"), key := Value.str (Str.ofString "MINEQUAL") 417, val := Value.int 37 416 }, { hash := PyData.keyHash P (Str.ofString "STAREQUAL"), key := Value.str (Str.ofString "STAREQUAL") 419, val := Value.int 38 418 }, { hash := PyData.keyHash P (Str.ofString "SLASHEQUAL"), key := Value.str (Str.ofString "SLASHEQUAL") 421, val := Value.int 39 420 }, { hash := PyData.keyHash P (Str.ofString "PERCENTEQUAL"), key := Value.str (Str.ofString "PERCENTEQUAL") 423, val := Value.int 40 422 }, { hash := PyData.keyHash P (Str.ofString "AMPEREQUAL"), key := Value.str (Str.ofString "AMPEREQUAL") 425, val := Value.int 41 424 }, { hash := PyData.keyHash P (Str.ofString "VBAREQUAL"), key := Value.str (Str.ofString "VBAREQUAL") 427, val := Value.int 42 426 }, { hash := PyData.keyHash P (Str.ofString "CIRCUMFLEXEQUAL"), key := Value.str (Str.ofString "CIRCUMFLEXEQUAL") 429, val := Value.int 43 428 }, { hash := PyData.keyHash P (Str.ofString "LEFTSHIFTEQUAL"), key := Value.str (Str.ofString "LEFTSHIFTEQUAL") 431, val := Value.int 44 430 }, { hash := PyData.keyHash P (Str.ofString "RIGHTSHIFTEQUAL"), key := Value.str (Str.ofString "RIGHTSHIFTEQUAL") 433, val := Value.int 45 432 }, { hash := PyData.keyHash P (Str.ofString "DOUBLESTAREQUAL"), key := Value.str (Str.ofString "DOUBLESTAREQUAL") 435, val := Value.int 46 434 }, { hash := PyData.keyHash P (Str.ofString "DOUBLESLASH"), key := Value.str (Str.ofString "DOUBLESLASH") 437, val := Value.int 47 436 }, { hash := PyData.keyHash P (Str.ofString "DOUBLESLASHEQUAL"), key := Value.str (Str.ofString "DOUBLESLASHEQUAL") 439, val := Value.int 48 438 }, { hash := PyData.keyHash P (Str.ofString "AT"), key := Value.str (Str.ofString "AT") 441, val := Value.int 49 440 }, { hash := PyData.keyHash P (Str.ofString "ATEQUAL"), key := Value.str (Str.ofString "ATEQUAL") 443, val := Value.int 50 442 }, { hash := PyData.keyHash P (Str.ofString "RARROW"), key := Value.str (Str.ofString "RARROW") 445, val := Value.int 51 444 }, { hash := PyData.keyHash P (Str.ofString "ELLIPSIS"), key := Value.str (Str.ofString "ELLIPSIS") 447, val := Value.int 52 446 }, { hash := PyData.keyHash P (Str.ofString "COLONEQUAL"), key := Value.str (Str.ofString "COLONEQUAL") 449, val := Value.int 53 448 }, { hash := PyData.keyHash P (Str.ofString "EXCLAMATION"), key := Value.str (Str.ofString "EXCLAMATION") 451, val := Value.int 54 450 }, { hash := PyData.keyHash P (Str.ofString "NT_OFFSET"), key := Value.str (Str.ofString "NT_OFFSET") 453, val := Value.int 256 452 }, { hash := PyData.keyHash P (Str.ofString "EXACT_TOKEN_TYPES"), key := Value.str (Str.ofString "EXACT_TOKEN_TYPES") 550, val := Value.ref 148 }, { hash := PyData.keyHash P (Str.ofString "ISTERMINAL"), key := Value.str (Str.ofString "ISTERMINAL") 557, val := Value.ref 157 }, { hash := PyData.keyHash P (Str.ofString "_law_lexer"), key := Value.str (Str.ofString "_law_lexer") 569, val := Value.ref 164 }, { hash := PyData.keyHash P (Str.ofString "_law_term"), key := Value.str (Str.ofString "_law_term") 575, val := Value.ref 169 }, { hash := PyData.keyHash P (Str.ofString "_law_written"), key := Value.str (Str.ofString "_law_written") 586, val := Value.ref 176 }, { hash := PyData.keyHash P (Str.ofString "_law_behind"), key := Value.str (Str.ofString "_law_behind") 595, val := Value.ref 183 }, { hash := PyData.keyHash P (Str.ofString "_law_met"), key := Value.str (Str.ofString "_law_met") 601, val := Value.ref 188 }, { hash := PyData.keyHash P (Str.ofString "_law_kind"), key := Value.str (Str.ofString "_law_kind") 607, val := Value.ref 193 }, { hash := PyData.keyHash P (Str.ofString "_law_front"), key := Value.str (Str.ofString "_law_front") 613, val := Value.ref 198 }, { hash := PyData.keyHash P (Str.ofString "_law_end"), key := Value.str (Str.ofString "_law_end") 628, val := Value.ref 205 }, { hash := PyData.keyHash P (Str.ofString "_law_told"), key := Value.str (Str.ofString "_law_told") 644, val := Value.ref 212 }, { hash := PyData.keyHash P (Str.ofString "law"), key := Value.str (Str.ofString "law") 650, val := Value.ref 217 }] 74 }
noncomputable abbrev o_198 (P : Params) : Obj := { cls := Value.none, data := Data.fields #[Value.int 1 0, Value.int 0 0, Value.ref 20, Value.int 5 0, Value.int 0 0, Value.ref 27, Value.int 50 0, Value.int 0 0, Value.ref 70, Value.int 137 0, Value.int 0 0, Value.ref 156, Value.int 140 0, Value.int 0 0, Value.ref 163, Value.int 148 0, Value.int 0 0, Value.ref 168, Value.int 154 0, Value.int 0 0, Value.ref 175, Value.int 162 0, Value.int 0 0, Value.ref 182, Value.int 168 0, Value.int 0 0, Value.ref 187, Value.int 178 0, Value.int 0 0, Value.ref 192, Value.int 190 0, Value.int 0 0, Value.ref 197, Value.int 212 0, Value.int 0 0, Value.ref 204, Value.int 225 0, Value.int 0 0, Value.ref 211, Value.int 242 0, Value.int 0 0, Value.ref 216] }
noncomputable abbrev o_199 (P : Params) : Obj := { cls := Value.type "tuple", data := Data.seq #[] }
noncomputable abbrev o_200 (P : Params) : Obj := { cls := Value.none, data := Data.fields #[] }
noncomputable abbrev o_201 (P : Params) : Obj := { cls := Value.type "tuple", data := Data.seq #[Value.str (Str.ofString "x") 554] }
noncomputable abbrev o_202 (P : Params) : Obj := { cls := Value.type "tuple", data := Data.seq #[] }
noncomputable abbrev o_203 (P : Params) : Obj := fnO 57 none (Value.none) (none) (#[]) (Str.ofString "ISTERMINAL") (0) ([]) (Value.none) (Value.none) (Value.none) (Value.none) (none) (Value.none) (Value.none) (0) rfl
noncomputable abbrev o_204 (P : Params) : Obj := { cls := Value.type "code", data := Data.fields #[Value.str (Str.ofString "ISTERMINAL") 551, Value.str (Str.ofString "ISTERMINAL") 552, Value.str (Str.ofString "/claim/cut.py") 553, Value.int 137 0, Value.int 1 0, Value.int 0 0, Value.int 0 0, Value.int 3 0, Value.ref 151, Value.bool true, Value.int 181 0, Value.ref 152, Value.none, Value.ref 153, Value.ref 154, Value.ref 155, Value.int 555 0, Value.int 137 0, Value.str (Str.ofString "/claim/cut.py") 556] }
noncomputable abbrev o_205 (P : Params) : Obj := fnO 57 none (Value.type "function") (none) (#[]) (Str.ofString "ISTERMINAL") (3) ([]) (Value.none) (Value.none) (Value.none) (Value.str (Str.ofString "cpy313.token") 354) (none) (Value.ref 156) (Value.none) (0) rfl
noncomputable abbrev o_206 (P : Params) : Obj := { cls := Value.type "tuple", data := Data.seq #[] }
noncomputable abbrev o_207 (P : Params) : Obj := { cls := Value.none, data := Data.fields #[] }
noncomputable abbrev o_208 (P : Params) : Obj := { cls := Value.type "tuple", data := Data.seq #[Value.str (Str.ofString "text") 563, Value.str (Str.ofString "stream") 564, Value.str (Str.ofString "_law_piece") 565] }
noncomputable abbrev o_209 (P : Params) : Obj := { cls := Value.type "tuple", data := Data.seq #[Value.str (Str.ofString "signs") 566] }
noncomputable abbrev o_210 (P : Params) : Obj := fnO 59 none (Value.none) (none) (#[]) (Str.ofString "_law_lexer") (0) ([]) (Value.none) (Value.none) (Value.none) (Value.none) (none) (Value.none) (Value.none) (0) rfl
noncomputable abbrev o_211 (P : Params) : Obj := { cls := Value.type "code", data := Data.fields #[Value.str (Str.ofString "_law_lexer") 560, Value.str (Str.ofString "_law_lexer") 561, Value.str (Str.ofString "/claim/cut.py") 562, Value.int 140 0, Value.int 1 0, Value.int 0 0, Value.int 0 0, Value.int 3 0, Value.ref 158, Value.bool true, Value.int 181 0, Value.ref 159, Value.none, Value.ref 160, Value.ref 161, Value.ref 162, Value.int 567 0, Value.int 140 0, Value.str (Str.ofString "/claim/cut.py") 568] }
noncomputable abbrev o_212 (P : Params) : Obj := fnO 59 none (Value.type "function") (none) (#[]) (Str.ofString "_law_lexer") (3) ([]) (Value.none) (Value.none) (Value.none) (Value.str (Str.ofString "law_ti0018_01") 558) (none) (Value.ref 163) (Value.none) (0) rfl
noncomputable abbrev o_213 (P : Params) : Obj := { cls := Value.type "tuple", data := Data.seq #[] }
noncomputable abbrev o_214 (P : Params) : Obj := { cls := Value.none, data := Data.fields #[] }
noncomputable abbrev o_215 (P : Params) : Obj := fnO 60 none (Value.none) (none) (#[]) (Str.ofString "_law_term") (0) ([]) (Value.none) (Value.none) (Value.none) (Value.none) (none) (Value.none) (Value.none) (0) rfl
noncomputable abbrev o_216 (P : Params) : Obj := { cls := Value.type "code", data := Data.fields #[Value.str (Str.ofString "_law_term") 570, Value.str (Str.ofString "_law_term") 571, Value.str (Str.ofString "/claim/cut.py") 572, Value.int 148 0, Value.int 1 0, Value.int 0 0, Value.int 0 0, Value.int 3 0, Value.ref 165, Value.bool true, Value.int 181 0, Value.ref 166, Value.none, Value.none, Value.none, Value.ref 167, Value.int 573 0, Value.int 148 0, Value.str (Str.ofString "/claim/cut.py") 574] }
noncomputable abbrev o_217 (P : Params) : Obj := fnO 60 none (Value.type "function") (none) (#[]) (Str.ofString "_law_term") (3) ([]) (Value.none) (Value.none) (Value.none) (Value.str (Str.ofString "law_ti0018_01") 558) (none) (Value.ref 168) (Value.none) (0) rfl
noncomputable abbrev o_218 (P : Params) : Obj := { cls := Value.type "tuple", data := Data.seq #[] }
noncomputable abbrev o_219 (P : Params) : Obj := { cls := Value.none, data := Data.fields #[] }
noncomputable abbrev o_220 (P : Params) : Obj := { cls := Value.type "tuple", data := Data.seq #[Value.str (Str.ofString "term") 579, Value.str (Str.ofString "numbers") 580, Value.str (Str.ofString "text") 581, Value.str (Str.ofString "place") 582, Value.str (Str.ofString "sign") 583] }
noncomputable abbrev o_221 (P : Params) : Obj := { cls := Value.type "tuple", data := Data.seq #[] }
noncomputable abbrev o_222 (P : Params) : Obj := fnO 61 none (Value.none) (none) (#[]) (Str.ofString "_law_written") (0) ([]) (Value.none) (Value.none) (Value.none) (Value.none) (none) (Value.none) (Value.none) (0) rfl
noncomputable abbrev o_223 (P : Params) : Obj := { cls := Value.type "code", data := Data.fields #[Value.str (Str.ofString "_law_written") 576, Value.str (Str.ofString "_law_written") 577, Value.str (Str.ofString "/claim/cut.py") 578, Value.int 154 0, Value.int 2 0, Value.int 0 0, Value.int 0 0, Value.int 3 0, Value.ref 170, Value.bool true, Value.int 181 0, Value.ref 171, Value.none, Value.ref 172, Value.ref 173, Value.ref 174, Value.int 584 0, Value.int 154 0, Value.str (Str.ofString "/claim/cut.py") 585] }
noncomputable abbrev o_224 (P : Params) : Obj := fnO 61 none (Value.type "function") (none) (#[]) (Str.ofString "_law_written") (3) ([]) (Value.none) (Value.none) (Value.none) (Value.str (Str.ofString "law_ti0018_01") 558) (none) (Value.ref 175) (Value.none) (0) rfl
noncomputable abbrev o_225 (P : Params) : Obj := { cls := Value.type "tuple", data := Data.seq #[] }
noncomputable abbrev o_226 (P : Params) : Obj := { cls := Value.none, data := Data.fields #[] }
noncomputable abbrev o_227 (P : Params) : Obj := { cls := Value.type "tuple", data := Data.seq #[Value.str (Str.ofString "text") 590, Value.str (Str.ofString "place") 591, Value.str (Str.ofString "want") 592] }
noncomputable abbrev o_228 (P : Params) : Obj := { cls := Value.type "tuple", data := Data.seq #[] }
noncomputable abbrev o_229 (P : Params) : Obj := fnO 62 none (Value.none) (none) (#[]) (Str.ofString "_law_behind") (0) ([]) (Value.none) (Value.none) (Value.none) (Value.none) (none) (Value.none) (Value.none) (0) rfl
noncomputable abbrev o_230 (P : Params) : Obj := { cls := Value.type "code", data := Data.fields #[Value.str (Str.ofString "_law_behind") 587, Value.str (Str.ofString "_law_behind") 588, Value.str (Str.ofString "/claim/cut.py") 589, Value.int 162 0, Value.int 2 0, Value.int 0 0, Value.int 0 0, Value.int 3 0, Value.ref 177, Value.bool true, Value.int 181 0, Value.ref 178, Value.none, Value.ref 179, Value.ref 180, Value.ref 181, Value.int 593 0, Value.int 162 0, Value.str (Str.ofString "/claim/cut.py") 594] }
noncomputable abbrev o_231 (P : Params) : Obj := fnO 62 none (Value.type "function") (none) (#[]) (Str.ofString "_law_behind") (3) ([]) (Value.none) (Value.none) (Value.none) (Value.str (Str.ofString "law_ti0018_01") 558) (none) (Value.ref 182) (Value.none) (0) rfl
noncomputable abbrev o_232 (P : Params) : Obj := { cls := Value.type "tuple", data := Data.seq #[] }
noncomputable abbrev o_233 (P : Params) : Obj := { cls := Value.none, data := Data.fields #[] }
noncomputable abbrev o_234 (P : Params) : Obj := fnO 63 none (Value.none) (none) (#[]) (Str.ofString "_law_met") (0) ([]) (Value.none) (Value.none) (Value.none) (Value.none) (none) (Value.none) (Value.none) (0) rfl
noncomputable abbrev o_235 (P : Params) : Obj := { cls := Value.type "code", data := Data.fields #[Value.str (Str.ofString "_law_met") 596, Value.str (Str.ofString "_law_met") 597, Value.str (Str.ofString "/claim/cut.py") 598, Value.int 168 0, Value.int 3 0, Value.int 0 0, Value.int 0 0, Value.int 3 0, Value.ref 184, Value.bool true, Value.int 181 0, Value.ref 185, Value.none, Value.none, Value.none, Value.ref 186, Value.int 599 0, Value.int 168 0, Value.str (Str.ofString "/claim/cut.py") 600] }
noncomputable abbrev o_236 (P : Params) : Obj := fnO 63 none (Value.type "function") (none) (#[]) (Str.ofString "_law_met") (3) ([]) (Value.none) (Value.none) (Value.none) (Value.str (Str.ofString "law_ti0018_01") 558) (none) (Value.ref 187) (Value.none) (0) rfl
noncomputable abbrev o_237 (P : Params) : Obj := { cls := Value.type "tuple", data := Data.seq #[] }
noncomputable abbrev o_238 (P : Params) : Obj := { cls := Value.none, data := Data.fields #[] }
noncomputable abbrev o_239 (P : Params) : Obj := fnO 64 none (Value.none) (none) (#[]) (Str.ofString "_law_kind") (0) ([]) (Value.none) (Value.none) (Value.none) (Value.none) (none) (Value.none) (Value.none) (0) rfl
noncomputable abbrev o_240 (P : Params) : Obj := { cls := Value.type "code", data := Data.fields #[Value.str (Str.ofString "_law_kind") 602, Value.str (Str.ofString "_law_kind") 603, Value.str (Str.ofString "/claim/cut.py") 604, Value.int 178 0, Value.int 1 0, Value.int 0 0, Value.int 0 0, Value.int 3 0, Value.ref 189, Value.bool true, Value.int 181 0, Value.ref 190, Value.none, Value.none, Value.none, Value.ref 191, Value.int 605 0, Value.int 178 0, Value.str (Str.ofString "/claim/cut.py") 606] }
noncomputable abbrev o_241 (P : Params) : Obj := fnO 64 none (Value.type "function") (none) (#[]) (Str.ofString "_law_kind") (3) ([]) (Value.none) (Value.none) (Value.none) (Value.str (Str.ofString "law_ti0018_01") 558) (none) (Value.ref 192) (Value.none) (0) rfl
noncomputable abbrev o_242 (P : Params) : Obj := { cls := Value.type "tuple", data := Data.seq #[] }
noncomputable abbrev o_243 (P : Params) : Obj := { cls := Value.none, data := Data.fields #[] }
noncomputable abbrev o_244 (P : Params) : Obj := fnO 65 none (Value.none) (none) (#[]) (Str.ofString "_law_front") (0) ([]) (Value.none) (Value.none) (Value.none) (Value.none) (none) (Value.none) (Value.none) (0) rfl
noncomputable abbrev o_245 (P : Params) : Obj := { cls := Value.type "code", data := Data.fields #[Value.str (Str.ofString "_law_front") 608, Value.str (Str.ofString "_law_front") 609, Value.str (Str.ofString "/claim/cut.py") 610, Value.int 190 0, Value.int 2 0, Value.int 0 0, Value.int 0 0, Value.int 3 0, Value.ref 194, Value.bool true, Value.int 181 0, Value.ref 195, Value.none, Value.none, Value.none, Value.ref 196, Value.int 611 0, Value.int 190 0, Value.str (Str.ofString "/claim/cut.py") 612] }
noncomputable abbrev o_246 (P : Params) : Obj := fnO 65 none (Value.type "function") (none) (#[]) (Str.ofString "_law_front") (3) ([]) (Value.none) (Value.none) (Value.none) (Value.str (Str.ofString "law_ti0018_01") 558) (none) (Value.ref 197) (Value.none) (0) rfl
noncomputable abbrev o_247 (P : Params) : Obj := { cls := Value.type "tuple", data := Data.seq #[] }
noncomputable abbrev o_248 (P : Params) : Obj := { cls := Value.none, data := Data.fields #[] }
noncomputable abbrev o_249 (P : Params) : Obj := { cls := Value.type "tuple", data := Data.seq #[Value.str (Str.ofString "term") 617, Value.str (Str.ofString "line") 618, Value.str (Str.ofString "rows") 619, Value.str (Str.ofString "count") 620, Value.str (Str.ofString "job") 621, Value.str (Str.ofString "pile") 622, Value.str (Str.ofString "before") 623, Value.str (Str.ofString "number") 624, Value.str (Str.ofString "step") 625] }
noncomputable abbrev o_250 (P : Params) : Obj := { cls := Value.type "tuple", data := Data.seq #[] }
noncomputable abbrev o_251 (P : Params) : Obj := fnO 66 none (Value.none) (none) (#[]) (Str.ofString "_law_end") (0) ([]) (Value.none) (Value.none) (Value.none) (Value.none) (none) (Value.none) (Value.none) (0) rfl
noncomputable abbrev o_252 (P : Params) : Obj := { cls := Value.type "code", data := Data.fields #[Value.str (Str.ofString "_law_end") 614, Value.str (Str.ofString "_law_end") 615, Value.str (Str.ofString "/claim/cut.py") 616, Value.int 212 0, Value.int 1 0, Value.int 0 0, Value.int 0 0, Value.int 3 0, Value.ref 199, Value.bool true, Value.int 181 0, Value.ref 200, Value.none, Value.ref 201, Value.ref 202, Value.ref 203, Value.int 626 0, Value.int 212 0, Value.str (Str.ofString "/claim/cut.py") 627] }
noncomputable abbrev o_253 (P : Params) : Obj := fnO 66 none (Value.type "function") (none) (#[]) (Str.ofString "_law_end") (3) ([]) (Value.none) (Value.none) (Value.none) (Value.str (Str.ofString "law_ti0018_01") 558) (none) (Value.ref 204) (Value.none) (0) rfl
noncomputable abbrev o_254 (P : Params) : Obj := { cls := Value.type "tuple", data := Data.seq #[] }
noncomputable abbrev o_255 (P : Params) : Obj := { cls := Value.none, data := Data.fields #[] }
noncomputable abbrev o_256 (P : Params) : Obj := { cls := Value.type "tuple", data := Data.seq #[Value.str (Str.ofString "kind") 632, Value.str (Str.ofString "rows") 633, Value.str (Str.ofString "jobs") 634, Value.str (Str.ofString "heads") 635, Value.str (Str.ofString "job") 636, Value.str (Str.ofString "before") 637, Value.str (Str.ofString "cut") 638, Value.str (Str.ofString "number") 639, Value.str (Str.ofString "side") 640, Value.str (Str.ofString "wanted") 641] }
noncomputable abbrev o_257 (P : Params) : Obj := { cls := Value.type "tuple", data := Data.seq #[] }
noncomputable abbrev o_258 (P : Params) : Obj := fnO 67 none (Value.none) (none) (#[]) (Str.ofString "_law_told") (0) ([]) (Value.none) (Value.none) (Value.none) (Value.none) (none) (Value.none) (Value.none) (0) rfl
noncomputable abbrev o_259 (P : Params) : Obj := { cls := Value.type "code", data := Data.fields #[Value.str (Str.ofString "_law_told") 629, Value.str (Str.ofString "_law_told") 630, Value.str (Str.ofString "/claim/cut.py") 631, Value.int 225 0, Value.int 1 0, Value.int 0 0, Value.int 0 0, Value.int 3 0, Value.ref 206, Value.bool true, Value.int 181 0, Value.ref 207, Value.none, Value.ref 208, Value.ref 209, Value.ref 210, Value.int 642 0, Value.int 225 0, Value.str (Str.ofString "/claim/cut.py") 643] }
noncomputable abbrev o_260 (P : Params) : Obj := fnO 67 none (Value.type "function") (none) (#[]) (Str.ofString "_law_told") (3) ([]) (Value.none) (Value.none) (Value.none) (Value.str (Str.ofString "law_ti0018_01") 558) (none) (Value.ref 211) (Value.none) (0) rfl
noncomputable abbrev o_261 (P : Params) : Obj := { cls := Value.type "tuple", data := Data.seq #[] }
noncomputable abbrev o_262 (P : Params) : Obj := { cls := Value.none, data := Data.fields #[] }
noncomputable abbrev o_263 (P : Params) : Obj := fnO 68 none (Value.none) (none) (#[]) (Str.ofString "law") (0) ([]) (Value.none) (Value.none) (Value.none) (Value.none) (none) (Value.none) (Value.none) (0) rfl
noncomputable abbrev o_264 (P : Params) : Obj := { cls := Value.type "code", data := Data.fields #[Value.str (Str.ofString "law") 645, Value.str (Str.ofString "law") 646, Value.str (Str.ofString "/claim/cut.py") 647, Value.int 242 0, Value.int 1 0, Value.int 0 0, Value.int 0 0, Value.int 3 0, Value.ref 213, Value.bool true, Value.int 181 0, Value.ref 214, Value.none, Value.none, Value.none, Value.ref 215, Value.int 648 0, Value.int 242 0, Value.str (Str.ofString "/claim/cut.py") 649] }
noncomputable abbrev o_265 (P : Params) : Obj := fnO 68 none (Value.type "function") (none) (#[]) (Str.ofString "law") (3) ([]) (Value.none) (Value.none) (Value.none) (Value.str (Str.ofString "law_ti0018_01") 558) (none) (Value.ref 216) (Value.none) (0) rfl
noncomputable def heap_46 (P : Params) : Heap := ⟨⟨[boot_o_0 P, boot_o_1 P, boot_o_2 P, boot_o_3 P, boot_o_4 P, boot_o_5 P, boot_o_6 P, boot_o_7 P, boot_o_8 P, boot_o_9 P, boot_o_10 P, o_43 P, o_44 P, o_45 P, o_46 P]⟩, {}⟩
noncomputable def tree_47 (P : Params) : BT := (.node (boot_o_0 P) (.node (boot_o_1 P) (.node (boot_o_3 P) (.node (boot_o_7 P) .nil .nil) (.node (o_43 P) .nil .nil)) (.node (boot_o_5 P) (.node (boot_o_9 P) .nil .nil) (.node (o_45 P) .nil .nil))) (.node (boot_o_2 P) (.node (boot_o_4 P) (.node (boot_o_8 P) .nil .nil) (.node (o_44 P) .nil .nil)) (.node (boot_o_6 P) (.node (boot_o_10 P) .nil .nil) (.node (o_46 P) .nil .nil))))
noncomputable def tree_99 (P : Params) : BT := (.node (boot_o_0 P) (.node (boot_o_1 P) (.node (o_49 P) (.node (boot_o_7 P) (.node (o_51 P) (.node (o_67 P) (.node (o_99 P) .nil .nil) .nil) (.node (o_83 P) .nil .nil)) (.node (o_59 P) (.node (o_75 P) .nil .nil) (.node (o_91 P) .nil .nil))) (.node (o_43 P) (.node (o_55 P) (.node (o_71 P) .nil .nil) (.node (o_87 P) .nil .nil)) (.node (o_63 P) (.node (o_79 P) .nil .nil) (.node (o_95 P) .nil .nil)))) (.node (boot_o_5 P) (.node (boot_o_9 P) (.node (o_53 P) (.node (o_69 P) .nil .nil) (.node (o_85 P) .nil .nil)) (.node (o_61 P) (.node (o_77 P) .nil .nil) (.node (o_93 P) .nil .nil))) (.node (o_45 P) (.node (o_57 P) (.node (o_73 P) .nil .nil) (.node (o_89 P) .nil .nil)) (.node (o_65 P) (.node (o_81 P) .nil .nil) (.node (o_97 P) .nil .nil))))) (.node (boot_o_2 P) (.node (boot_o_4 P) (.node (boot_o_8 P) (.node (o_52 P) (.node (o_68 P) .nil .nil) (.node (o_84 P) .nil .nil)) (.node (o_60 P) (.node (o_76 P) .nil .nil) (.node (o_92 P) .nil .nil))) (.node (o_50 P) (.node (o_56 P) (.node (o_72 P) .nil .nil) (.node (o_88 P) .nil .nil)) (.node (o_64 P) (.node (o_80 P) .nil .nil) (.node (o_96 P) .nil .nil)))) (.node (boot_o_6 P) (.node (boot_o_10 P) (.node (o_54 P) (.node (o_70 P) .nil .nil) (.node (o_86 P) .nil .nil)) (.node (o_62 P) (.node (o_78 P) .nil .nil) (.node (o_94 P) .nil .nil))) (.node (o_46 P) (.node (o_58 P) (.node (o_74 P) .nil .nil) (.node (o_90 P) .nil .nil)) (.node (o_66 P) (.node (o_82 P) .nil .nil) (.node (o_98 P) .nil .nil))))))
noncomputable def tree_185 (P : Params) : BT := (.node (boot_o_0 P) (.node (boot_o_1 P) (.node (o_100 P) (.node (boot_o_7 P) (.node (o_51 P) (.node (o_67 P) (.node (o_99 P) (.node (o_165 P) .nil .nil) .nil) (.node (o_133 P) .nil .nil)) (.node (o_83 P) (.node (o_117 P) (.node (o_181 P) .nil .nil) .nil) (.node (o_149 P) .nil .nil))) (.node (o_59 P) (.node (o_75 P) (.node (o_109 P) (.node (o_173 P) .nil .nil) .nil) (.node (o_141 P) .nil .nil)) (.node (o_91 P) (.node (o_125 P) .nil .nil) (.node (o_157 P) .nil .nil)))) (.node (o_43 P) (.node (o_55 P) (.node (o_71 P) (.node (o_105 P) (.node (o_169 P) .nil .nil) .nil) (.node (o_137 P) .nil .nil)) (.node (o_87 P) (.node (o_121 P) (.node (o_185 P) .nil .nil) .nil) (.node (o_153 P) .nil .nil))) (.node (o_63 P) (.node (o_79 P) (.node (o_113 P) (.node (o_177 P) .nil .nil) .nil) (.node (o_145 P) .nil .nil)) (.node (o_95 P) (.node (o_129 P) .nil .nil) (.node (o_161 P) .nil .nil))))) (.node (boot_o_5 P) (.node (boot_o_9 P) (.node (o_53 P) (.node (o_69 P) (.node (o_103 P) (.node (o_167 P) .nil .nil) .nil) (.node (o_135 P) .nil .nil)) (.node (o_85 P) (.node (o_119 P) (.node (o_183 P) .nil .nil) .nil) (.node (o_151 P) .nil .nil))) (.node (o_61 P) (.node (o_77 P) (.node (o_111 P) (.node (o_175 P) .nil .nil) .nil) (.node (o_143 P) .nil .nil)) (.node (o_93 P) (.node (o_127 P) .nil .nil) (.node (o_159 P) .nil .nil)))) (.node (o_45 P) (.node (o_57 P) (.node (o_73 P) (.node (o_107 P) (.node (o_171 P) .nil .nil) .nil) (.node (o_139 P) .nil .nil)) (.node (o_89 P) (.node (o_123 P) .nil .nil) (.node (o_155 P) .nil .nil))) (.node (o_65 P) (.node (o_81 P) (.node (o_115 P) (.node (o_179 P) .nil .nil) .nil) (.node (o_147 P) .nil .nil)) (.node (o_97 P) (.node (o_131 P) .nil .nil) (.node (o_163 P) .nil .nil)))))) (.node (boot_o_2 P) (.node (boot_o_4 P) (.node (boot_o_8 P) (.node (o_52 P) (.node (o_68 P) (.node (o_102 P) (.node (o_166 P) .nil .nil) .nil) (.node (o_134 P) .nil .nil)) (.node (o_84 P) (.node (o_118 P) (.node (o_182 P) .nil .nil) .nil) (.node (o_150 P) .nil .nil))) (.node (o_60 P) (.node (o_76 P) (.node (o_110 P) (.node (o_174 P) .nil .nil) .nil) (.node (o_142 P) .nil .nil)) (.node (o_92 P) (.node (o_126 P) .nil .nil) (.node (o_158 P) .nil .nil)))) (.node (o_101 P) (.node (o_56 P) (.node (o_72 P) (.node (o_106 P) (.node (o_170 P) .nil .nil) .nil) (.node (o_138 P) .nil .nil)) (.node (o_88 P) (.node (o_122 P) .nil .nil) (.node (o_154 P) .nil .nil))) (.node (o_64 P) (.node (o_80 P) (.node (o_114 P) (.node (o_178 P) .nil .nil) .nil) (.node (o_146 P) .nil .nil)) (.node (o_96 P) (.node (o_130 P) .nil .nil) (.node (o_162 P) .nil .nil))))) (.node (boot_o_6 P) (.node (boot_o_10 P) (.node (o_54 P) (.node (o_70 P) (.node (o_104 P) (.node (o_168 P) .nil .nil) .nil) (.node (o_136 P) .nil .nil)) (.node (o_86 P) (.node (o_120 P) (.node (o_184 P) .nil .nil) .nil) (.node (o_152 P) .nil .nil))) (.node (o_62 P) (.node (o_78 P) (.node (o_112 P) (.node (o_176 P) .nil .nil) .nil) (.node (o_144 P) .nil .nil)) (.node (o_94 P) (.node (o_128 P) .nil .nil) (.node (o_160 P) .nil .nil)))) (.node (o_46 P) (.node (o_58 P) (.node (o_74 P) (.node (o_108 P) (.node (o_172 P) .nil .nil) .nil) (.node (o_140 P) .nil .nil)) (.node (o_90 P) (.node (o_124 P) .nil .nil) (.node (o_156 P) .nil .nil))) (.node (o_66 P) (.node (o_82 P) (.node (o_116 P) (.node (o_180 P) .nil .nil) .nil) (.node (o_148 P) .nil .nil)) (.node (o_98 P) (.node (o_132 P) .nil .nil) (.node (o_164 P) .nil .nil)))))))
noncomputable def tree_186 (P : Params) : BT := (.node (boot_o_0 P) (.node (boot_o_1 P) (.node (o_186 P) (.node (boot_o_7 P) (.node (o_51 P) (.node (o_67 P) (.node (o_99 P) (.node (o_165 P) .nil .nil) .nil) (.node (o_133 P) .nil .nil)) (.node (o_83 P) (.node (o_117 P) (.node (o_181 P) .nil .nil) .nil) (.node (o_149 P) .nil .nil))) (.node (o_59 P) (.node (o_75 P) (.node (o_109 P) (.node (o_173 P) .nil .nil) .nil) (.node (o_141 P) .nil .nil)) (.node (o_91 P) (.node (o_125 P) .nil .nil) (.node (o_157 P) .nil .nil)))) (.node (o_43 P) (.node (o_55 P) (.node (o_71 P) (.node (o_105 P) (.node (o_169 P) .nil .nil) .nil) (.node (o_137 P) .nil .nil)) (.node (o_87 P) (.node (o_121 P) (.node (o_185 P) .nil .nil) .nil) (.node (o_153 P) .nil .nil))) (.node (o_63 P) (.node (o_79 P) (.node (o_113 P) (.node (o_177 P) .nil .nil) .nil) (.node (o_145 P) .nil .nil)) (.node (o_95 P) (.node (o_129 P) .nil .nil) (.node (o_161 P) .nil .nil))))) (.node (boot_o_5 P) (.node (boot_o_9 P) (.node (o_53 P) (.node (o_69 P) (.node (o_103 P) (.node (o_167 P) .nil .nil) .nil) (.node (o_135 P) .nil .nil)) (.node (o_85 P) (.node (o_119 P) (.node (o_183 P) .nil .nil) .nil) (.node (o_151 P) .nil .nil))) (.node (o_61 P) (.node (o_77 P) (.node (o_111 P) (.node (o_175 P) .nil .nil) .nil) (.node (o_143 P) .nil .nil)) (.node (o_93 P) (.node (o_127 P) .nil .nil) (.node (o_159 P) .nil .nil)))) (.node (o_45 P) (.node (o_57 P) (.node (o_73 P) (.node (o_107 P) (.node (o_171 P) .nil .nil) .nil) (.node (o_139 P) .nil .nil)) (.node (o_89 P) (.node (o_123 P) .nil .nil) (.node (o_155 P) .nil .nil))) (.node (o_65 P) (.node (o_81 P) (.node (o_115 P) (.node (o_179 P) .nil .nil) .nil) (.node (o_147 P) .nil .nil)) (.node (o_97 P) (.node (o_131 P) .nil .nil) (.node (o_163 P) .nil .nil)))))) (.node (boot_o_2 P) (.node (boot_o_4 P) (.node (boot_o_8 P) (.node (o_52 P) (.node (o_68 P) (.node (o_102 P) (.node (o_166 P) .nil .nil) .nil) (.node (o_134 P) .nil .nil)) (.node (o_84 P) (.node (o_118 P) (.node (o_182 P) .nil .nil) .nil) (.node (o_150 P) .nil .nil))) (.node (o_60 P) (.node (o_76 P) (.node (o_110 P) (.node (o_174 P) .nil .nil) .nil) (.node (o_142 P) .nil .nil)) (.node (o_92 P) (.node (o_126 P) .nil .nil) (.node (o_158 P) .nil .nil)))) (.node (o_101 P) (.node (o_56 P) (.node (o_72 P) (.node (o_106 P) (.node (o_170 P) .nil .nil) .nil) (.node (o_138 P) .nil .nil)) (.node (o_88 P) (.node (o_122 P) .nil .nil) (.node (o_154 P) .nil .nil))) (.node (o_64 P) (.node (o_80 P) (.node (o_114 P) (.node (o_178 P) .nil .nil) .nil) (.node (o_146 P) .nil .nil)) (.node (o_96 P) (.node (o_130 P) .nil .nil) (.node (o_162 P) .nil .nil))))) (.node (boot_o_6 P) (.node (boot_o_10 P) (.node (o_54 P) (.node (o_70 P) (.node (o_104 P) (.node (o_168 P) .nil .nil) .nil) (.node (o_136 P) .nil .nil)) (.node (o_86 P) (.node (o_120 P) (.node (o_184 P) .nil .nil) .nil) (.node (o_152 P) .nil .nil))) (.node (o_62 P) (.node (o_78 P) (.node (o_112 P) (.node (o_176 P) .nil .nil) .nil) (.node (o_144 P) .nil .nil)) (.node (o_94 P) (.node (o_128 P) .nil .nil) (.node (o_160 P) .nil .nil)))) (.node (o_46 P) (.node (o_58 P) (.node (o_74 P) (.node (o_108 P) (.node (o_172 P) .nil .nil) .nil) (.node (o_140 P) .nil .nil)) (.node (o_90 P) (.node (o_124 P) .nil .nil) (.node (o_156 P) .nil .nil))) (.node (o_66 P) (.node (o_82 P) (.node (o_116 P) (.node (o_180 P) .nil .nil) .nil) (.node (o_148 P) .nil .nil)) (.node (o_98 P) (.node (o_132 P) .nil .nil) (.node (o_164 P) .nil .nil)))))))
noncomputable def tree_188 (P : Params) : BT := (.node (boot_o_0 P) (.node (boot_o_1 P) (.node (o_188 P) (.node (boot_o_7 P) (.node (o_51 P) (.node (o_67 P) (.node (o_99 P) (.node (o_165 P) .nil .nil) .nil) (.node (o_133 P) .nil .nil)) (.node (o_83 P) (.node (o_117 P) (.node (o_181 P) .nil .nil) .nil) (.node (o_149 P) .nil .nil))) (.node (o_59 P) (.node (o_75 P) (.node (o_109 P) (.node (o_173 P) .nil .nil) .nil) (.node (o_141 P) .nil .nil)) (.node (o_91 P) (.node (o_125 P) .nil .nil) (.node (o_157 P) .nil .nil)))) (.node (o_43 P) (.node (o_55 P) (.node (o_71 P) (.node (o_105 P) (.node (o_169 P) .nil .nil) .nil) (.node (o_137 P) .nil .nil)) (.node (o_87 P) (.node (o_121 P) (.node (o_185 P) .nil .nil) .nil) (.node (o_153 P) .nil .nil))) (.node (o_63 P) (.node (o_79 P) (.node (o_113 P) (.node (o_177 P) .nil .nil) .nil) (.node (o_145 P) .nil .nil)) (.node (o_95 P) (.node (o_129 P) .nil .nil) (.node (o_161 P) .nil .nil))))) (.node (boot_o_5 P) (.node (boot_o_9 P) (.node (o_53 P) (.node (o_69 P) (.node (o_103 P) (.node (o_167 P) .nil .nil) .nil) (.node (o_135 P) .nil .nil)) (.node (o_85 P) (.node (o_119 P) (.node (o_183 P) .nil .nil) .nil) (.node (o_151 P) .nil .nil))) (.node (o_61 P) (.node (o_77 P) (.node (o_111 P) (.node (o_175 P) .nil .nil) .nil) (.node (o_143 P) .nil .nil)) (.node (o_93 P) (.node (o_127 P) .nil .nil) (.node (o_159 P) .nil .nil)))) (.node (o_45 P) (.node (o_57 P) (.node (o_73 P) (.node (o_107 P) (.node (o_171 P) .nil .nil) .nil) (.node (o_139 P) .nil .nil)) (.node (o_89 P) (.node (o_123 P) .nil .nil) (.node (o_155 P) .nil .nil))) (.node (o_65 P) (.node (o_81 P) (.node (o_115 P) (.node (o_179 P) .nil .nil) .nil) (.node (o_147 P) .nil .nil)) (.node (o_97 P) (.node (o_131 P) .nil .nil) (.node (o_163 P) .nil .nil)))))) (.node (boot_o_2 P) (.node (boot_o_4 P) (.node (boot_o_8 P) (.node (o_52 P) (.node (o_68 P) (.node (o_102 P) (.node (o_166 P) .nil .nil) .nil) (.node (o_134 P) .nil .nil)) (.node (o_84 P) (.node (o_118 P) (.node (o_182 P) .nil .nil) .nil) (.node (o_150 P) .nil .nil))) (.node (o_60 P) (.node (o_76 P) (.node (o_110 P) (.node (o_174 P) .nil .nil) .nil) (.node (o_142 P) .nil .nil)) (.node (o_92 P) (.node (o_126 P) .nil .nil) (.node (o_158 P) .nil .nil)))) (.node (o_101 P) (.node (o_56 P) (.node (o_72 P) (.node (o_106 P) (.node (o_170 P) .nil .nil) .nil) (.node (o_138 P) .nil .nil)) (.node (o_88 P) (.node (o_122 P) .nil .nil) (.node (o_154 P) .nil .nil))) (.node (o_64 P) (.node (o_80 P) (.node (o_114 P) (.node (o_178 P) .nil .nil) .nil) (.node (o_146 P) .nil .nil)) (.node (o_96 P) (.node (o_130 P) .nil .nil) (.node (o_162 P) .nil .nil))))) (.node (boot_o_6 P) (.node (boot_o_10 P) (.node (o_54 P) (.node (o_70 P) (.node (o_104 P) (.node (o_168 P) .nil .nil) .nil) (.node (o_136 P) .nil .nil)) (.node (o_86 P) (.node (o_120 P) (.node (o_184 P) .nil .nil) .nil) (.node (o_152 P) .nil .nil))) (.node (o_62 P) (.node (o_78 P) (.node (o_112 P) (.node (o_176 P) .nil .nil) .nil) (.node (o_144 P) .nil .nil)) (.node (o_94 P) (.node (o_128 P) .nil .nil) (.node (o_160 P) .nil .nil)))) (.node (o_46 P) (.node (o_58 P) (.node (o_74 P) (.node (o_108 P) (.node (o_172 P) .nil .nil) .nil) (.node (o_140 P) .nil .nil)) (.node (o_90 P) (.node (o_124 P) .nil .nil) (.node (o_156 P) .nil .nil))) (.node (o_66 P) (.node (o_82 P) (.node (o_116 P) (.node (o_180 P) .nil .nil) .nil) (.node (o_148 P) .nil .nil)) (.node (o_98 P) (.node (o_132 P) .nil .nil) (.node (o_164 P) .nil .nil)))))))
noncomputable def tree_193 (P : Params) : BT := (.node (boot_o_0 P) (.node (boot_o_1 P) (.node (o_190 P) (.node (boot_o_7 P) (.node (o_51 P) (.node (o_67 P) (.node (o_99 P) (.node (o_165 P) .nil .nil) .nil) (.node (o_133 P) .nil .nil)) (.node (o_83 P) (.node (o_117 P) (.node (o_181 P) .nil .nil) .nil) (.node (o_149 P) .nil .nil))) (.node (o_59 P) (.node (o_75 P) (.node (o_109 P) (.node (o_173 P) .nil .nil) .nil) (.node (o_141 P) .nil .nil)) (.node (o_91 P) (.node (o_125 P) .nil .nil) (.node (o_157 P) .nil .nil)))) (.node (o_43 P) (.node (o_55 P) (.node (o_71 P) (.node (o_105 P) (.node (o_169 P) .nil .nil) .nil) (.node (o_137 P) .nil .nil)) (.node (o_87 P) (.node (o_121 P) (.node (o_185 P) .nil .nil) .nil) (.node (o_153 P) .nil .nil))) (.node (o_63 P) (.node (o_79 P) (.node (o_113 P) (.node (o_177 P) .nil .nil) .nil) (.node (o_145 P) .nil .nil)) (.node (o_95 P) (.node (o_129 P) .nil .nil) (.node (o_161 P) .nil .nil))))) (.node (boot_o_5 P) (.node (boot_o_9 P) (.node (o_53 P) (.node (o_69 P) (.node (o_103 P) (.node (o_167 P) .nil .nil) .nil) (.node (o_135 P) .nil .nil)) (.node (o_85 P) (.node (o_119 P) (.node (o_183 P) .nil .nil) .nil) (.node (o_151 P) .nil .nil))) (.node (o_61 P) (.node (o_77 P) (.node (o_111 P) (.node (o_175 P) .nil .nil) .nil) (.node (o_143 P) .nil .nil)) (.node (o_93 P) (.node (o_127 P) .nil .nil) (.node (o_159 P) .nil .nil)))) (.node (o_45 P) (.node (o_57 P) (.node (o_73 P) (.node (o_107 P) (.node (o_171 P) .nil .nil) .nil) (.node (o_139 P) .nil .nil)) (.node (o_89 P) (.node (o_123 P) (.node (o_192 P) .nil .nil) .nil) (.node (o_155 P) .nil .nil))) (.node (o_65 P) (.node (o_81 P) (.node (o_115 P) (.node (o_179 P) .nil .nil) .nil) (.node (o_147 P) .nil .nil)) (.node (o_97 P) (.node (o_131 P) .nil .nil) (.node (o_163 P) .nil .nil)))))) (.node (boot_o_2 P) (.node (boot_o_4 P) (.node (boot_o_8 P) (.node (o_52 P) (.node (o_68 P) (.node (o_102 P) (.node (o_166 P) .nil .nil) .nil) (.node (o_134 P) .nil .nil)) (.node (o_84 P) (.node (o_118 P) (.node (o_182 P) .nil .nil) .nil) (.node (o_150 P) .nil .nil))) (.node (o_60 P) (.node (o_76 P) (.node (o_110 P) (.node (o_174 P) .nil .nil) .nil) (.node (o_142 P) .nil .nil)) (.node (o_92 P) (.node (o_126 P) .nil .nil) (.node (o_158 P) .nil .nil)))) (.node (o_101 P) (.node (o_56 P) (.node (o_72 P) (.node (o_106 P) (.node (o_170 P) .nil .nil) .nil) (.node (o_138 P) .nil .nil)) (.node (o_88 P) (.node (o_122 P) (.node (o_191 P) .nil .nil) .nil) (.node (o_154 P) .nil .nil))) (.node (o_64 P) (.node (o_80 P) (.node (o_114 P) (.node (o_178 P) .nil .nil) .nil) (.node (o_146 P) .nil .nil)) (.node (o_96 P) (.node (o_130 P) .nil .nil) (.node (o_162 P) .nil .nil))))) (.node (boot_o_6 P) (.node (boot_o_10 P) (.node (o_54 P) (.node (o_70 P) (.node (o_104 P) (.node (o_168 P) .nil .nil) .nil) (.node (o_136 P) .nil .nil)) (.node (o_86 P) (.node (o_120 P) (.node (o_184 P) .nil .nil) .nil) (.node (o_152 P) .nil .nil))) (.node (o_62 P) (.node (o_78 P) (.node (o_112 P) (.node (o_176 P) .nil .nil) .nil) (.node (o_144 P) .nil .nil)) (.node (o_94 P) (.node (o_128 P) .nil .nil) (.node (o_160 P) .nil .nil)))) (.node (o_46 P) (.node (o_58 P) (.node (o_74 P) (.node (o_108 P) (.node (o_172 P) .nil .nil) .nil) (.node (o_140 P) .nil .nil)) (.node (o_90 P) (.node (o_124 P) (.node (o_193 P) .nil .nil) .nil) (.node (o_156 P) .nil .nil))) (.node (o_66 P) (.node (o_82 P) (.node (o_116 P) (.node (o_180 P) .nil .nil) .nil) (.node (o_148 P) .nil .nil)) (.node (o_98 P) (.node (o_132 P) .nil .nil) (.node (o_164 P) .nil .nil)))))))
noncomputable def tree_265 (P : Params) : BT := (.node (boot_o_0 P) (.node (boot_o_1 P) (.node (o_197 P) (.node (boot_o_7 P) (.node (o_51 P) (.node (o_67 P) (.node (o_99 P) (.node (o_165 P) .nil .nil) (.node (o_239 P) .nil .nil)) (.node (o_133 P) (.node (o_207 P) .nil .nil) .nil)) (.node (o_83 P) (.node (o_117 P) (.node (o_181 P) .nil .nil) (.node (o_255 P) .nil .nil)) (.node (o_149 P) (.node (o_223 P) .nil .nil) .nil))) (.node (o_59 P) (.node (o_75 P) (.node (o_109 P) (.node (o_173 P) .nil .nil) (.node (o_247 P) .nil .nil)) (.node (o_141 P) (.node (o_215 P) .nil .nil) .nil)) (.node (o_91 P) (.node (o_125 P) (.node (o_199 P) .nil .nil) (.node (o_263 P) .nil .nil)) (.node (o_157 P) (.node (o_231 P) .nil .nil) .nil)))) (.node (o_43 P) (.node (o_55 P) (.node (o_71 P) (.node (o_105 P) (.node (o_169 P) .nil .nil) (.node (o_243 P) .nil .nil)) (.node (o_137 P) (.node (o_211 P) .nil .nil) .nil)) (.node (o_87 P) (.node (o_121 P) (.node (o_185 P) .nil .nil) (.node (o_259 P) .nil .nil)) (.node (o_153 P) (.node (o_227 P) .nil .nil) .nil))) (.node (o_63 P) (.node (o_79 P) (.node (o_113 P) (.node (o_177 P) .nil .nil) (.node (o_251 P) .nil .nil)) (.node (o_145 P) (.node (o_219 P) .nil .nil) .nil)) (.node (o_95 P) (.node (o_129 P) (.node (o_203 P) .nil .nil) .nil) (.node (o_161 P) (.node (o_235 P) .nil .nil) .nil))))) (.node (boot_o_5 P) (.node (boot_o_9 P) (.node (o_53 P) (.node (o_69 P) (.node (o_103 P) (.node (o_167 P) .nil .nil) (.node (o_241 P) .nil .nil)) (.node (o_135 P) (.node (o_209 P) .nil .nil) .nil)) (.node (o_85 P) (.node (o_119 P) (.node (o_183 P) .nil .nil) (.node (o_257 P) .nil .nil)) (.node (o_151 P) (.node (o_225 P) .nil .nil) .nil))) (.node (o_61 P) (.node (o_77 P) (.node (o_111 P) (.node (o_175 P) .nil .nil) (.node (o_249 P) .nil .nil)) (.node (o_143 P) (.node (o_217 P) .nil .nil) .nil)) (.node (o_93 P) (.node (o_127 P) (.node (o_201 P) .nil .nil) (.node (o_265 P) .nil .nil)) (.node (o_159 P) (.node (o_233 P) .nil .nil) .nil)))) (.node (o_45 P) (.node (o_57 P) (.node (o_73 P) (.node (o_107 P) (.node (o_171 P) .nil .nil) (.node (o_245 P) .nil .nil)) (.node (o_139 P) (.node (o_213 P) .nil .nil) .nil)) (.node (o_89 P) (.node (o_123 P) (.node (o_192 P) .nil .nil) (.node (o_261 P) .nil .nil)) (.node (o_155 P) (.node (o_229 P) .nil .nil) .nil))) (.node (o_65 P) (.node (o_81 P) (.node (o_115 P) (.node (o_179 P) .nil .nil) (.node (o_253 P) .nil .nil)) (.node (o_147 P) (.node (o_221 P) .nil .nil) .nil)) (.node (o_97 P) (.node (o_131 P) (.node (o_205 P) .nil .nil) .nil) (.node (o_163 P) (.node (o_237 P) .nil .nil) .nil)))))) (.node (boot_o_2 P) (.node (boot_o_4 P) (.node (boot_o_8 P) (.node (o_52 P) (.node (o_68 P) (.node (o_102 P) (.node (o_166 P) .nil .nil) (.node (o_240 P) .nil .nil)) (.node (o_134 P) (.node (o_208 P) .nil .nil) .nil)) (.node (o_84 P) (.node (o_118 P) (.node (o_182 P) .nil .nil) (.node (o_256 P) .nil .nil)) (.node (o_150 P) (.node (o_224 P) .nil .nil) .nil))) (.node (o_60 P) (.node (o_76 P) (.node (o_110 P) (.node (o_174 P) .nil .nil) (.node (o_248 P) .nil .nil)) (.node (o_142 P) (.node (o_216 P) .nil .nil) .nil)) (.node (o_92 P) (.node (o_126 P) (.node (o_200 P) .nil .nil) (.node (o_264 P) .nil .nil)) (.node (o_158 P) (.node (o_232 P) .nil .nil) .nil)))) (.node (o_198 P) (.node (o_56 P) (.node (o_72 P) (.node (o_106 P) (.node (o_170 P) .nil .nil) (.node (o_244 P) .nil .nil)) (.node (o_138 P) (.node (o_212 P) .nil .nil) .nil)) (.node (o_88 P) (.node (o_122 P) (.node (o_191 P) .nil .nil) (.node (o_260 P) .nil .nil)) (.node (o_154 P) (.node (o_228 P) .nil .nil) .nil))) (.node (o_64 P) (.node (o_80 P) (.node (o_114 P) (.node (o_178 P) .nil .nil) (.node (o_252 P) .nil .nil)) (.node (o_146 P) (.node (o_220 P) .nil .nil) .nil)) (.node (o_96 P) (.node (o_130 P) (.node (o_204 P) .nil .nil) .nil) (.node (o_162 P) (.node (o_236 P) .nil .nil) .nil))))) (.node (boot_o_6 P) (.node (boot_o_10 P) (.node (o_54 P) (.node (o_70 P) (.node (o_104 P) (.node (o_168 P) .nil .nil) (.node (o_242 P) .nil .nil)) (.node (o_136 P) (.node (o_210 P) .nil .nil) .nil)) (.node (o_86 P) (.node (o_120 P) (.node (o_184 P) .nil .nil) (.node (o_258 P) .nil .nil)) (.node (o_152 P) (.node (o_226 P) .nil .nil) .nil))) (.node (o_62 P) (.node (o_78 P) (.node (o_112 P) (.node (o_176 P) .nil .nil) (.node (o_250 P) .nil .nil)) (.node (o_144 P) (.node (o_218 P) .nil .nil) .nil)) (.node (o_94 P) (.node (o_128 P) (.node (o_202 P) .nil .nil) .nil) (.node (o_160 P) (.node (o_234 P) .nil .nil) .nil)))) (.node (o_46 P) (.node (o_58 P) (.node (o_74 P) (.node (o_108 P) (.node (o_172 P) .nil .nil) (.node (o_246 P) .nil .nil)) (.node (o_140 P) (.node (o_214 P) .nil .nil) .nil)) (.node (o_90 P) (.node (o_124 P) (.node (o_193 P) .nil .nil) (.node (o_262 P) .nil .nil)) (.node (o_156 P) (.node (o_230 P) .nil .nil) .nil))) (.node (o_66 P) (.node (o_82 P) (.node (o_116 P) (.node (o_180 P) .nil .nil) (.node (o_254 P) .nil .nil)) (.node (o_148 P) (.node (o_222 P) .nil .nil) .nil)) (.node (o_98 P) (.node (o_132 P) (.node (o_206 P) .nil .nil) .nil) (.node (o_164 P) (.node (o_238 P) .nil .nil) .nil)))))))
noncomputable def heap_266 (P : Params) : Heap := ⟨⟨[boot_o_0 P, boot_o_1 P, boot_o_2 P, o_197 P, boot_o_4 P, boot_o_5 P, boot_o_6 P, boot_o_7 P, boot_o_8 P, boot_o_9 P, boot_o_10 P, o_43 P, o_198 P, o_45 P, o_46 P, o_51 P, o_52 P, o_53 P, o_54 P, o_55 P, o_56 P, o_57 P, o_58 P, o_59 P, o_60 P, o_61 P, o_62 P, o_63 P, o_64 P, o_65 P, o_66 P, o_67 P, o_68 P, o_69 P, o_70 P, o_71 P, o_72 P, o_73 P, o_74 P, o_75 P, o_76 P, o_77 P, o_78 P, o_79 P, o_80 P, o_81 P, o_82 P, o_83 P, o_84 P, o_85 P, o_86 P, o_87 P, o_88 P, o_89 P, o_90 P, o_91 P, o_92 P, o_93 P, o_94 P, o_95 P, o_96 P, o_97 P, o_98 P, o_99 P, o_102 P, o_103 P, o_104 P, o_105 P, o_106 P, o_107 P, o_108 P, o_109 P, o_110 P, o_111 P, o_112 P, o_113 P, o_114 P, o_115 P, o_116 P, o_117 P, o_118 P, o_119 P, o_120 P, o_121 P, o_122 P, o_123 P, o_124 P, o_125 P, o_126 P, o_127 P, o_128 P, o_129 P, o_130 P, o_131 P, o_132 P, o_133 P, o_134 P, o_135 P, o_136 P, o_137 P, o_138 P, o_139 P, o_140 P, o_141 P, o_142 P, o_143 P, o_144 P, o_145 P, o_146 P, o_147 P, o_148 P, o_149 P, o_150 P, o_151 P, o_152 P, o_153 P, o_154 P, o_155 P, o_156 P, o_157 P, o_158 P, o_159 P, o_160 P, o_161 P, o_162 P, o_163 P, o_164 P, o_165 P, o_166 P, o_167 P, o_168 P, o_169 P, o_170 P, o_171 P, o_172 P, o_173 P, o_174 P, o_175 P, o_176 P, o_177 P, o_178 P, o_179 P, o_180 P, o_181 P, o_182 P, o_183 P, o_184 P, o_185 P, o_191 P, o_192 P, o_193 P, o_199 P, o_200 P, o_201 P, o_202 P, o_203 P, o_204 P, o_205 P, o_206 P, o_207 P, o_208 P, o_209 P, o_210 P, o_211 P, o_212 P, o_213 P, o_214 P, o_215 P, o_216 P, o_217 P, o_218 P, o_219 P, o_220 P, o_221 P, o_222 P, o_223 P, o_224 P, o_225 P, o_226 P, o_227 P, o_228 P, o_229 P, o_230 P, o_231 P, o_232 P, o_233 P, o_234 P, o_235 P, o_236 P, o_237 P, o_238 P, o_239 P, o_240 P, o_241 P, o_242 P, o_243 P, o_244 P, o_245 P, o_246 P, o_247 P, o_248 P, o_249 P, o_250 P, o_251 P, o_252 P, o_253 P, o_254 P, o_255 P, o_256 P, o_257 P, o_258 P, o_259 P, o_260 P, o_261 P, o_262 P, o_263 P, o_264 P, o_265 P]⟩, {}⟩
noncomputable def hd.heap_39 (P : Params) : Frag := (nat_lit 2, boot_o_2 P) :: (nat_lit 3, o_197 P) :: (nat_lit 15, o_51 P) :: (nat_lit 17, o_53 P) :: (nat_lit 18, o_54 P) :: (nat_lit 20, o_56 P) :: (nat_lit 21, o_57 P) :: (nat_lit 29, o_65 P) :: (nat_lit 31, o_67 P) :: (nat_lit 32, o_68 P) :: (nat_lit 34, o_70 P) :: (nat_lit 35, o_71 P) :: (nat_lit 36, o_72 P) :: (nat_lit 38, o_74 P) :: (nat_lit 39, o_75 P) :: (nat_lit 41, o_77 P) :: (nat_lit 42, o_78 P) :: (nat_lit 43, o_79 P) :: (nat_lit 45, o_81 P) :: (nat_lit 46, o_82 P) :: (nat_lit 48, o_84 P) :: (nat_lit 49, o_85 P) :: (nat_lit 50, o_86 P) :: (nat_lit 52, o_88 P) :: (nat_lit 53, o_89 P) :: (nat_lit 55, o_91 P) :: (nat_lit 56, o_92 P) :: (nat_lit 57, o_93 P) :: (nat_lit 58, o_94 P) :: (nat_lit 59, o_95 P) :: (nat_lit 60, o_96 P) :: (nat_lit 61, o_97 P) :: (nat_lit 64, o_102 P) :: (nat_lit 67, o_105 P) :: (nat_lit 72, o_110 P) :: (nat_lit 73, o_111 P) :: (nat_lit 74, o_112 P) :: (nat_lit 76, o_114 P) :: (nat_lit 77, o_115 P) :: (nat_lit 79, o_117 P) :: (nat_lit 80, o_118 P) :: (nat_lit 81, o_119 P) :: (nat_lit 83, o_121 P) :: (nat_lit 84, o_122 P) :: (nat_lit 86, o_124 P) :: (nat_lit 87, o_125 P) :: (nat_lit 88, o_126 P) :: (nat_lit 89, o_127 P) :: (nat_lit 91, o_129 P) :: (nat_lit 92, o_130 P) :: (nat_lit 94, o_132 P) :: (nat_lit 95, o_133 P) :: (nat_lit 96, o_134 P) :: (nat_lit 97, o_135 P) :: (nat_lit 99, o_137 P) :: (nat_lit 100, o_138 P) :: (nat_lit 102, o_140 P) :: (nat_lit 103, o_141 P) :: (nat_lit 104, o_142 P) :: (nat_lit 106, o_144 P) :: (nat_lit 107, o_145 P) :: (nat_lit 109, o_147 P) :: (nat_lit 110, o_148 P) :: (nat_lit 111, o_149 P) :: (nat_lit 113, o_151 P) :: (nat_lit 114, o_152 P) :: (nat_lit 116, o_154 P) :: (nat_lit 117, o_155 P) :: (nat_lit 118, o_156 P) :: (nat_lit 119, o_157 P) :: (nat_lit 121, o_159 P) :: (nat_lit 122, o_160 P) :: (nat_lit 124, o_162 P) :: (nat_lit 125, o_163 P) :: (nat_lit 126, o_164 P) :: (nat_lit 128, o_166 P) :: (nat_lit 129, o_167 P) :: (nat_lit 131, o_169 P) :: (nat_lit 132, o_170 P) :: (nat_lit 133, o_171 P) :: (nat_lit 134, o_172 P) :: (nat_lit 136, o_174 P) :: (nat_lit 137, o_175 P) :: (nat_lit 139, o_177 P) :: (nat_lit 140, o_178 P) :: (nat_lit 141, o_179 P) :: (nat_lit 142, o_180 P) :: (nat_lit 143, o_181 P) :: (nat_lit 144, o_182 P) :: (nat_lit 145, o_183 P) :: (nat_lit 148, o_191 P) :: (nat_lit 151, o_199 P) :: (nat_lit 153, o_201 P) :: (nat_lit 154, o_202 P) :: (nat_lit 156, o_204 P) :: (nat_lit 157, o_205 P) :: (nat_lit 158, o_206 P) :: (nat_lit 160, o_208 P) :: (nat_lit 161, o_209 P) :: (nat_lit 163, o_211 P) :: (nat_lit 164, o_212 P) :: (nat_lit 165, o_213 P) :: (nat_lit 168, o_216 P) :: (nat_lit 169, o_217 P) :: (nat_lit 170, o_218 P) :: (nat_lit 172, o_220 P) :: (nat_lit 173, o_221 P) :: (nat_lit 175, o_223 P) :: (nat_lit 176, o_224 P) :: (nat_lit 177, o_225 P) :: (nat_lit 179, o_227 P) :: (nat_lit 180, o_228 P) :: (nat_lit 182, o_230 P) :: (nat_lit 183, o_231 P) :: (nat_lit 184, o_232 P) :: (nat_lit 187, o_235 P) :: (nat_lit 188, o_236 P) :: (nat_lit 189, o_237 P) :: (nat_lit 192, o_240 P) :: (nat_lit 193, o_241 P) :: (nat_lit 194, o_242 P) :: (nat_lit 197, o_245 P) :: (nat_lit 198, o_246 P) :: (nat_lit 199, o_247 P) :: (nat_lit 201, o_249 P) :: (nat_lit 202, o_250 P) :: (nat_lit 204, o_252 P) :: (nat_lit 205, o_253 P) :: (nat_lit 206, o_254 P) :: (nat_lit 208, o_256 P) :: (nat_lit 209, o_257 P) :: (nat_lit 211, o_259 P) :: (nat_lit 212, o_260 P) :: (nat_lit 213, o_261 P) :: (nat_lit 216, o_264 P) :: (nat_lit 217, o_265 P) :: []
noncomputable abbrev EV : Env := { scope := PW.main.scope, locals := mainNs, globals := mainNs, cells := [], code := Value.ref 13, frame := some 14 }
noncomputable def sts_49 : List Stmt := ((behindTheImports PW).drop 0).take 5
noncomputable def sts_100 : List Stmt := ((behindTheImports PW).drop 5).take 1
noncomputable def sts_186 : List Stmt := ((behindTheImports PW).drop 6).take 44
noncomputable def sts_188 : List Stmt := ((behindTheImports PW).drop 50).take 6
noncomputable def sts_190 : List Stmt := ((behindTheImports PW).drop 56).take 1
noncomputable def sts_197 : List Stmt := ((behindTheImports PW).drop 57).take 12
noncomputable abbrev P0 : Pos := ⟨0, 0, 0, 0⟩
noncomputable abbrev CB : Code := .body (behindTheImports PW) EV
theorem q47 : ∀ w : World, (fun os => topGo treeTable PW w 11 (some (.ref 6)) 12 ⟨boot_heap w.params, #[], boot_drawn, boot_toks, os⟩ (topStub PW)) = fun os => some (⟨heap_46 w.params, #[], {}, 187, os⟩, ⟨denote treeTable CB, CB, P0, [topFrame P0]⟩) := by
  intro w
  kernel_rfl
theorem q49 : ∀ w : World, (fun os => segRun treeTable PW w 11 (some (.ref 6)) 1 1 ⟨heap_46 w.params, #[], {}, 187, os⟩ (blockOf (behindTheImports PW) EV CB P0 [topFrame P0])) = fun os => some (.next, (⟨tree_47 w.params, 15, {}, #[], {}, 187, os⟩ : SharedT).abs, CB, P0) := by
  intro w
  kernel_rfl
theorem q100 : ∀ w : World, (fun os => segRunT treeTable PW w 11 (some (.ref 6)) 1 380 ⟨tree_47 (w).params, 15, {}, #[], {}, 187, os⟩ (piecesOf sts_49 EV CB ⟨0, 0, 0, 0⟩ [topFrame P0])) = fun os => some (.next, ⟨tree_99 (w).params, 64, {}, #[], {}, 258, os⟩, CB, ⟨49, 0, 49, 11⟩) := by
  intro w
  kernel_rfl
theorem q186 : ∀ w : World, (fun os => segRunT treeTable PW w 11 (some (.ref 6)) 1 505 ⟨tree_99 (w).params, 64, {}, #[], {}, 258, os⟩ (piecesOf sts_100 EV CB ⟨49, 0, 49, 11⟩ [topFrame P0])) = fun os => some (.next, ⟨tree_185 (w).params, 148, {}, #[], {}, 354, os⟩, CB, ⟨50, 0, 85, 32⟩) := by
  intro w
  kernel_rfl
theorem q188 : ∀ w : World, (fun os => segRunT treeTable PW w 11 (some (.ref 6)) 1 397 ⟨tree_185 (w).params, 148, {}, #[], {}, 354, os⟩ (piecesOf sts_186 EV CB ⟨50, 0, 85, 32⟩ [topFrame P0])) = fun os => some (.next, ⟨tree_186 (w).params, 148, {}, #[], {}, 442, os⟩, CB, ⟨129, 0, 129, 2⟩) := by
  intro w
  kernel_rfl
theorem q190 : ∀ w : World, (fun os => segRunT treeTable PW w 11 (some (.ref 6)) 1 55 ⟨tree_186 (w).params, 148, {}, #[], {}, 442, os⟩ (piecesOf sts_188 EV CB ⟨129, 0, 129, 2⟩ [topFrame P0])) = fun os => some (.next, ⟨tree_188 (w).params, 148, {}, #[], {}, 454, os⟩, CB, ⟨135, 0, 135, 9⟩) := by
  intro w
  kernel_rfl
theorem q196_false : ∀ w : World, (fun os => segRunT treeTable PW (w.withFollow "special-get-raises" false) 11 (some (.ref 6)) 1 979 ⟨tree_188 ((w.withFollow "special-get-raises" false)).params, 148, {}, #[], {}, 454, os⟩ (piecesOf sts_190 EV CB ⟨135, 0, 135, 9⟩ [topFrame P0])) = fun os => some (.next, ⟨tree_193 ((w.withFollow "special-get-raises" false)).params, 151, {}, #[], {}, 551, os⟩, CB, ⟨136, 0, 136, 17⟩) := by
  intro w
  kernel_rfl
theorem q196_true : ∀ w : World, (fun os => segRunT treeTable PW (w.withFollow "special-get-raises" true) 11 (some (.ref 6)) 1 979 ⟨tree_188 ((w.withFollow "special-get-raises" true)).params, 148, {}, #[], {}, 454, os⟩ (piecesOf sts_190 EV CB ⟨135, 0, 135, 9⟩ [topFrame P0])) = fun os => some (.next, ⟨tree_193 ((w.withFollow "special-get-raises" true)).params, 151, {}, #[], {}, 551, os⟩, CB, ⟨136, 0, 136, 17⟩) := by
  intro w
  kernel_rfl
theorem q196 : ∀ w : World, (fun os => segRunT treeTable PW w 11 (some (.ref 6)) 1 979 ⟨tree_188 (w).params, 148, {}, #[], {}, 454, os⟩ (piecesOf sts_190 EV CB ⟨135, 0, 135, 9⟩ [topFrame P0])) = fun os => some (.next, ⟨tree_193 (w).params, 151, {}, #[], {}, 551, os⟩, CB, ⟨136, 0, 136, 17⟩) := byRow2 "special-get-raises" (P := fun w => (fun os => segRunT treeTable PW w 11 (some (.ref 6)) 1 979 ⟨tree_188 (w).params, 148, {}, #[], {}, 454, os⟩ (piecesOf sts_190 EV CB ⟨135, 0, 135, 9⟩ [topFrame P0])) = fun os => some (.next, ⟨tree_193 (w).params, 151, {}, #[], {}, 551, os⟩, CB, ⟨136, 0, 136, 17⟩)) q196_false q196_true
theorem q266 : ∀ w : World, (fun os => segRunT treeTable PW w 11 (some (.ref 6)) 1 340 ⟨tree_193 (w).params, 151, {}, #[], {}, 551, os⟩ (piecesOf sts_197 EV CB ⟨136, 0, 136, 17⟩ [topFrame P0])) = fun os => some (.next, ⟨tree_265 (w).params, 218, {}, #[], {}, 651, os⟩, CB, ⟨242, 0, 256, 80⟩) := by
  intro w
  kernel_rfl
theorem q268 : ∀ w : World, (fun os => topRun treeTable PW w 11 (some (.ref 6)) 2 (⟨tree_265 w.params, 218, {}, #[], {}, 651, os⟩ : SharedT).abs ⟨doneF .next, CB, ⟨242, 0, 256, 80⟩, [topFrame P0]⟩) = fun os => some ⟨heap_266 w.params, #[], {}, 651, os⟩ := by
  intro w
  kernel_rfl
theorem qbody : behindTheImports PW = sts_49 ++ (sts_100 ++ (sts_186 ++ (sts_188 ++ (sts_190 ++ (sts_197 ++ []))))) := by kernel_rfl
theorem qrun (w : World) (os : OsState) : topRun treeTable PW w 11 (some (.ref 6)) (12 + (1 + (380 + (505 + (397 + (55 + (979 + (340 + 2)))))))) ⟨boot_heap w.params, #[], boot_drawn, boot_toks, os⟩ (topStub PW) = some ⟨heap_266 w.params, #[], {}, 651, os⟩ := by
  refine go_top (congrFun (q47 w) os) (piece_block (congrFun (q49 w) os) ?_)
  refine (congrArg (fun b => topRun treeTable PW w 11 (some (.ref 6)) _ _ (restOf b EV CB P0 [topFrame P0])) qbody).trans ?_
  exact piece_app (segRun_of (congrFun (q100 w) os)) (piece_app (segRun_of (congrFun (q186 w) os)) (piece_app (segRun_of (congrFun (q188 w) os)) (piece_app (segRun_of (congrFun (q190 w) os)) (piece_app (segRun_of (congrFun (q196 w) os)) (piece_app (segRun_of (congrFun (q266 w) os)) (piece_nil (congrFun (q268 w) os)))))))
noncomputable abbrev QV : Program := { PW with main := { PW.main with body := PW.main.body.drop 68 } }
noncomputable abbrev LOOSE : List Str := [Str.ofString "_wall", Str.ofString "_netrclex", Str.ofString "EMPTYSTRING", Str.ofString "_Accumulator", Str.ofString "LPAR", Str.ofString "RPAR", Str.ofString "LSQB", Str.ofString "RSQB", Str.ofString "COLON", Str.ofString "COMMA", Str.ofString "SEMI", Str.ofString "PLUS", Str.ofString "MINUS", Str.ofString "STAR", Str.ofString "SLASH", Str.ofString "VBAR", Str.ofString "AMPER", Str.ofString "LESS", Str.ofString "GREATER", Str.ofString "EQUAL", Str.ofString "DOT", Str.ofString "PERCENT", Str.ofString "LBRACE", Str.ofString "RBRACE", Str.ofString "EQEQUAL", Str.ofString "NOTEQUAL", Str.ofString "LESSEQUAL", Str.ofString "GREATEREQUAL", Str.ofString "TILDE", Str.ofString "CIRCUMFLEX", Str.ofString "LEFTSHIFT", Str.ofString "RIGHTSHIFT", Str.ofString "DOUBLESTAR", Str.ofString "PLUSEQUAL", Str.ofString "MINEQUAL", Str.ofString "STAREQUAL", Str.ofString "SLASHEQUAL", Str.ofString "PERCENTEQUAL", Str.ofString "AMPEREQUAL", Str.ofString "VBAREQUAL", Str.ofString "CIRCUMFLEXEQUAL", Str.ofString "LEFTSHIFTEQUAL", Str.ofString "RIGHTSHIFTEQUAL", Str.ofString "DOUBLESTAREQUAL", Str.ofString "DOUBLESLASH", Str.ofString "DOUBLESLASHEQUAL", Str.ofString "AT", Str.ofString "ATEQUAL", Str.ofString "RARROW", Str.ofString "ELLIPSIS", Str.ofString "COLONEQUAL", Str.ofString "EXCLAMATION", Str.ofString "NT_OFFSET", Str.ofString "EXACT_TOKEN_TYPES", Str.ofString "ISTERMINAL", Str.ofString "_law_lexer", Str.ofString "_law_term", Str.ofString "_law_written", Str.ofString "_law_behind", Str.ofString "_law_met", Str.ofString "_law_kind", Str.ofString "_law_front", Str.ofString "_law_end", Str.ofString "_law_told"]
noncomputable abbrev HK : Hook := kmHook hd.heap_39 [2, 3, 15, 17, 18, 20, 21, 29, 31, 32, 34, 35, 36, 38, 39, 41, 42, 43, 45, 46, 48, 49, 50, 52, 53, 55, 56, 57, 58, 59, 60, 61, 64, 67, 72, 73, 74, 76, 77, 79, 80, 81, 83, 84, 86, 87, 88, 89, 91, 92, 94, 95, 96, 97, 99, 100, 102, 103, 104, 106, 107, 109, 110, 111, 113, 114, 116, 117, 118, 119, 121, 122, 124, 125, 126, 128, 129, 131, 132, 133, 134, 136, 137, 139, 140, 141, 142, 143, 144, 145, 148, 151, 153, 154, 156, 157, 158, 160, 161, 163, 164, 165, 168, 169, 170, 172, 173, 175, 176, 177, 179, 180, 182, 183, 184, 187, 188, 189, 192, 193, 194, 197, 198, 199, 201, 202, 204, 205, 206, 208, 209, 211, 212, 213, 216, 217] (fun _ => rfl) [159]
theorem qsize (w : World) : ((boot_heap w.params).isNs mainGlobals && (#[] : Array GenState).size == 0, (boot_heap w.params).objs.size, (boot_heap w.params).nsMap mainGlobals "__annotations__") = (true, 11, some (Value.ref 6)) := by kernel_rfl
theorem qopen : ∀ w : World, (fencedOpening treeTable PW w 5426).map (fun s => (s.heap, s.gens, s.drawn, s.toks)) = some (boot_heap w.params, Array.mk [], boot_drawn, boot_toks) :=
  boot_open (by kernel_rfl) (by decide) (fun s => by kernel_rfl)
theorem qst : ∀ w : World, (fun os : OsState => staticsOk (importedModules PW.main.body) (boot_heap w.params) (heap_266 w.params) && namesBound PW (heap_266 w.params) && gensDone ⟨heap_266 w.params, #[], {}, 651, os⟩ && laidKept (boot_heap w.params) (heap_266 w.params)) = fun _ => true := by
  intro w
  kernel_rfl
noncomputable abbrev XT : Shared → Bool := fun s => xlAt QV [] s && recOk (RowW.records PySem.Challenge.rw_ti0018_01.row.toRowW) s
theorem qseen : ∀ w : World, (fun os : OsState => openSeen QV LOOSE (importedModules PW.main.body) XT true ⟨heap_266 w.params, #[], {}, 651, os⟩) = fun _ => openGood QV LOOSE := by
  intro w
  kernel_rfl
theorem qhook : ∀ w : World, (fun os : OsState => HK.obs ⟨heap_266 w.params, #[], {}, 651, os⟩) = fun _ => HK.val w := by
  intro w
  kernel_rfl
theorem qleft : LeftO PW QV LOOSE XT HK.obs HK.val 5426 true :=
  LeftO.of_pieces (H₀ := boot_heap) (H₁ := heap_266) (gs₀ := #[]) (gs₁ := #[]) (d₀ := boot_drawn) (d₁ := {}) (k₀ := boot_toks) (k₁ := 651) (m₀ := 11) (ann := some (.ref 6)) (M := 12 + (1 + (380 + (505 + (397 + (55 + (979 + (340 + 2))))))))
    qopen qsize qrun (by decide) fun w => funext fun os => looks_pair (congrFun (qst w) os) (looks_pair (congrFun (qseen w) os) (congrFun (qhook w) os))
theorem qsaid : PySem.Challenge.rw_ti0018_01.wellSaid = true := by kernel_rfl
theorem hd {d : DefRec} {kwd : List (Str × Expr)} (hdef : defOf QV (RowW.name PySem.Challenge.rw_ti0018_01.row.toRowW) = some (d, kwd)) (hp : PW.theDef (RowW.name PySem.Challenge.rw_ti0018_01.row.toRowW) = some (d.params, d.body, d.scope)) (hk : kwWritten? d.params.kwonlyargs d.params.kw_defaults = some kwd)
    (walk : WalkO QV LOOSE (XL QV []) HK.says PySem.Challenge.rw_ti0018_01.row.toRowW d kwd fun f vs => PySem.call f vs) : PySem.Challenge.rw_ti0018_01.Holds :=
  holds_law qsaid fun said => holds_open (Xt := XT) (N := 5426) qleft HK.of HK.keeps (fun s e => xl_of s (Bool.and_eq_true_iff.mp e).1) XL.keeps hdef hp hk (fun s e => recFacts_of (Bool.and_eq_true_iff.mp e).2) (by rfl) said (by decide +kernel) ⟨rfl, rfl, rfl, rfl, rfl, by decide +kernel⟩ ⟨[WData.list [WData.int 3, WData.int 1]], by decide +kernel, by decide +kernel⟩ walk

section
-- PLAIN
inductive Tr where
  | lf (n : Nat)
  | nd (a b : Tr)
  deriving DecidableEq
noncomputable def Tr.enc (k : Nat) : Tr → List Nat
  | .lf n => [n]
  | .nd a b => k :: (a.enc k ++ b.enc k)
noncomputable def Tr.Ok : Tr → Prop
  | .lf n => 256 ≤ n
  | .nd a b => a.Ok ∧ b.Ok
noncomputable def encs (k : Nat) (ts : List Tr) : List Nat := ts.flatMap (Tr.enc k)
theorem encs_nil (k : Nat) : encs k [] = [] := rfl
theorem encs_cons (k : Nat) (t : Tr) (ts : List Tr) : encs k (t :: ts) = t.enc k ++ encs k ts := rfl
theorem encs_lf (k n : Nat) (ts : List Tr) : encs k (.lf n :: ts) = n :: encs k ts := rfl
theorem encs_nd (k : Nat) (a b : Tr) (ts : List Tr) : encs k (.nd a b :: ts) = k :: encs k (a :: b :: ts) := by simp [encs, Tr.enc]
/-- the letters of a tree, from left to right -/
noncomputable def Tr.lv : Tr → List Nat
  | .lf n => [n]
  | .nd a b => a.lv ++ b.lv
noncomputable def lvs (ts : List Tr) : List Nat := ts.flatMap Tr.lv
theorem Tr.enc_len (k : Nat) : ∀ t : Tr, (t.enc k).length + 1 = 2 * t.lv.length
  | .lf n => rfl
  | .nd a b => by
    have h1 := Tr.enc_len k a
    have h2 := Tr.enc_len k b
    simp only [Tr.enc, Tr.lv, List.length_cons, List.length_append]
    lia
theorem Tr.lv_pos : ∀ t : Tr, 0 < t.lv.length
  | .lf n => by simp [Tr.lv]
  | .nd a b => by
    have h1 := Tr.lv_pos a
    simp only [Tr.lv, List.length_append]
    lia
theorem mem_app_mono {α : Type} {l r r' : List α} (h : ∀ p ∈ r, p ∈ r') : ∀ p ∈ l ++ r, p ∈ l ++ r' := fun p hp => (List.mem_append.mp hp).elim (List.mem_append_left _) fun q => List.mem_append_right _ (h p q)
theorem mem_app_swap {α : Type} {l r k : List α} : ∀ p ∈ l ++ (r ++ k), p ∈ r ++ (l ++ k) := fun p hp => (List.mem_append.mp hp).elim (fun q => List.mem_append_right _ (List.mem_append_left _ q)) fun q => (List.mem_append.mp q).elim (List.mem_append_left _) fun q => List.mem_append_right _ (List.mem_append_right _ q)
theorem andE3 {a0 a1 a2 G : Prop} (h : a0 ∧ a1 ∧ a2) (k : a0 → a1 → a2 → G) : G := k h.1 h.2.1 h.2.2
theorem andE4 {a0 a1 a2 a3 G : Prop} (h : a0 ∧ a1 ∧ a2 ∧ a3) (k : a0 → a1 → a2 → a3 → G) : G := k h.1 h.2.1 h.2.2.1 h.2.2.2
theorem andE5 {a0 a1 a2 a3 a4 G : Prop} (h : a0 ∧ a1 ∧ a2 ∧ a3 ∧ a4) (k : a0 → a1 → a2 → a3 → a4 → G) : G := k h.1 h.2.1 h.2.2.1 h.2.2.2.1 h.2.2.2.2
theorem andE6 {a0 a1 a2 a3 a4 a5 G : Prop} (h : a0 ∧ a1 ∧ a2 ∧ a3 ∧ a4 ∧ a5) (k : a0 → a1 → a2 → a3 → a4 → a5 → G) : G := k h.1 h.2.1 h.2.2.1 h.2.2.2.1 h.2.2.2.2.1 h.2.2.2.2.2
theorem andE7 {a0 a1 a2 a3 a4 a5 a6 G : Prop} (h : a0 ∧ a1 ∧ a2 ∧ a3 ∧ a4 ∧ a5 ∧ a6) (k : a0 → a1 → a2 → a3 → a4 → a5 → a6 → G) : G := k h.1 h.2.1 h.2.2.1 h.2.2.2.1 h.2.2.2.2.1 h.2.2.2.2.2.1 h.2.2.2.2.2.2
theorem andE8 {a0 a1 a2 a3 a4 a5 a6 a7 G : Prop} (h : a0 ∧ a1 ∧ a2 ∧ a3 ∧ a4 ∧ a5 ∧ a6 ∧ a7) (k : a0 → a1 → a2 → a3 → a4 → a5 → a6 → a7 → G) : G := k h.1 h.2.1 h.2.2.1 h.2.2.2.1 h.2.2.2.2.1 h.2.2.2.2.2.1 h.2.2.2.2.2.2.1 h.2.2.2.2.2.2.2
theorem andE9 {a0 a1 a2 a3 a4 a5 a6 a7 a8 G : Prop} (h : a0 ∧ a1 ∧ a2 ∧ a3 ∧ a4 ∧ a5 ∧ a6 ∧ a7 ∧ a8) (k : a0 → a1 → a2 → a3 → a4 → a5 → a6 → a7 → a8 → G) : G := k h.1 h.2.1 h.2.2.1 h.2.2.2.1 h.2.2.2.2.1 h.2.2.2.2.2.1 h.2.2.2.2.2.2.1 h.2.2.2.2.2.2.2.1 h.2.2.2.2.2.2.2.2
theorem andE10 {a0 a1 a2 a3 a4 a5 a6 a7 a8 a9 G : Prop} (h : a0 ∧ a1 ∧ a2 ∧ a3 ∧ a4 ∧ a5 ∧ a6 ∧ a7 ∧ a8 ∧ a9) (k : a0 → a1 → a2 → a3 → a4 → a5 → a6 → a7 → a8 → a9 → G) : G := k h.1 h.2.1 h.2.2.1 h.2.2.2.1 h.2.2.2.2.1 h.2.2.2.2.2.1 h.2.2.2.2.2.2.1 h.2.2.2.2.2.2.2.1 h.2.2.2.2.2.2.2.2.1 h.2.2.2.2.2.2.2.2.2
theorem andE11 {a0 a1 a2 a3 a4 a5 a6 a7 a8 a9 a10 G : Prop} (h : a0 ∧ a1 ∧ a2 ∧ a3 ∧ a4 ∧ a5 ∧ a6 ∧ a7 ∧ a8 ∧ a9 ∧ a10) (k : a0 → a1 → a2 → a3 → a4 → a5 → a6 → a7 → a8 → a9 → a10 → G) : G := k h.1 h.2.1 h.2.2.1 h.2.2.2.1 h.2.2.2.2.1 h.2.2.2.2.2.1 h.2.2.2.2.2.2.1 h.2.2.2.2.2.2.2.1 h.2.2.2.2.2.2.2.2.1 h.2.2.2.2.2.2.2.2.2.1 h.2.2.2.2.2.2.2.2.2.2
theorem andE12 {a0 a1 a2 a3 a4 a5 a6 a7 a8 a9 a10 a11 G : Prop} (h : a0 ∧ a1 ∧ a2 ∧ a3 ∧ a4 ∧ a5 ∧ a6 ∧ a7 ∧ a8 ∧ a9 ∧ a10 ∧ a11) (k : a0 → a1 → a2 → a3 → a4 → a5 → a6 → a7 → a8 → a9 → a10 → a11 → G) : G := k h.1 h.2.1 h.2.2.1 h.2.2.2.1 h.2.2.2.2.1 h.2.2.2.2.2.1 h.2.2.2.2.2.2.1 h.2.2.2.2.2.2.2.1 h.2.2.2.2.2.2.2.2.1 h.2.2.2.2.2.2.2.2.2.1 h.2.2.2.2.2.2.2.2.2.2.1 h.2.2.2.2.2.2.2.2.2.2.2
theorem andE13 {a0 a1 a2 a3 a4 a5 a6 a7 a8 a9 a10 a11 a12 G : Prop} (h : a0 ∧ a1 ∧ a2 ∧ a3 ∧ a4 ∧ a5 ∧ a6 ∧ a7 ∧ a8 ∧ a9 ∧ a10 ∧ a11 ∧ a12) (k : a0 → a1 → a2 → a3 → a4 → a5 → a6 → a7 → a8 → a9 → a10 → a11 → a12 → G) : G := k h.1 h.2.1 h.2.2.1 h.2.2.2.1 h.2.2.2.2.1 h.2.2.2.2.2.1 h.2.2.2.2.2.2.1 h.2.2.2.2.2.2.2.1 h.2.2.2.2.2.2.2.2.1 h.2.2.2.2.2.2.2.2.2.1 h.2.2.2.2.2.2.2.2.2.2.1 h.2.2.2.2.2.2.2.2.2.2.2.1 h.2.2.2.2.2.2.2.2.2.2.2.2
theorem allE1 {α : Type} {P : α → Prop} {a0 : α} {r : List α} {G : Prop} (h : ∀ p ∈ a0 :: r, P p) (k : P a0 → G) : G := k (h _ List.mem_cons_self)
theorem allE2 {α : Type} {P : α → Prop} {a0 a1 : α} {r : List α} {G : Prop} (h : ∀ p ∈ a0 :: a1 :: r, P p) (k : P a0 → P a1 → G) : G := k (h _ List.mem_cons_self) (h _ (List.mem_cons_of_mem _ List.mem_cons_self))
theorem allE3 {α : Type} {P : α → Prop} {a0 a1 a2 : α} {r : List α} {G : Prop} (h : ∀ p ∈ a0 :: a1 :: a2 :: r, P p) (k : P a0 → P a1 → P a2 → G) : G := k (h _ List.mem_cons_self) (h _ (List.mem_cons_of_mem _ List.mem_cons_self)) (h _ (List.mem_cons_of_mem _ (List.mem_cons_of_mem _ List.mem_cons_self)))
theorem allE4 {α : Type} {P : α → Prop} {a0 a1 a2 a3 : α} {r : List α} {G : Prop} (h : ∀ p ∈ a0 :: a1 :: a2 :: a3 :: r, P p) (k : P a0 → P a1 → P a2 → P a3 → G) : G := k (h _ List.mem_cons_self) (h _ (List.mem_cons_of_mem _ List.mem_cons_self)) (h _ (List.mem_cons_of_mem _ (List.mem_cons_of_mem _ List.mem_cons_self))) (h _ (List.mem_cons_of_mem _ (List.mem_cons_of_mem _ (List.mem_cons_of_mem _ List.mem_cons_self))))
theorem allE5 {α : Type} {P : α → Prop} {a0 a1 a2 a3 a4 : α} {r : List α} {G : Prop} (h : ∀ p ∈ a0 :: a1 :: a2 :: a3 :: a4 :: r, P p) (k : P a0 → P a1 → P a2 → P a3 → P a4 → G) : G := k (h _ List.mem_cons_self) (h _ (List.mem_cons_of_mem _ List.mem_cons_self)) (h _ (List.mem_cons_of_mem _ (List.mem_cons_of_mem _ List.mem_cons_self))) (h _ (List.mem_cons_of_mem _ (List.mem_cons_of_mem _ (List.mem_cons_of_mem _ List.mem_cons_self)))) (h _ (List.mem_cons_of_mem _ (List.mem_cons_of_mem _ (List.mem_cons_of_mem _ (List.mem_cons_of_mem _ List.mem_cons_self)))))
theorem allE6 {α : Type} {P : α → Prop} {a0 a1 a2 a3 a4 a5 : α} {r : List α} {G : Prop} (h : ∀ p ∈ a0 :: a1 :: a2 :: a3 :: a4 :: a5 :: r, P p) (k : P a0 → P a1 → P a2 → P a3 → P a4 → P a5 → G) : G := k (h _ List.mem_cons_self) (h _ (List.mem_cons_of_mem _ List.mem_cons_self)) (h _ (List.mem_cons_of_mem _ (List.mem_cons_of_mem _ List.mem_cons_self))) (h _ (List.mem_cons_of_mem _ (List.mem_cons_of_mem _ (List.mem_cons_of_mem _ List.mem_cons_self)))) (h _ (List.mem_cons_of_mem _ (List.mem_cons_of_mem _ (List.mem_cons_of_mem _ (List.mem_cons_of_mem _ List.mem_cons_self))))) (h _ (List.mem_cons_of_mem _ (List.mem_cons_of_mem _ (List.mem_cons_of_mem _ (List.mem_cons_of_mem _ (List.mem_cons_of_mem _ List.mem_cons_self))))))
theorem allE7 {α : Type} {P : α → Prop} {a0 a1 a2 a3 a4 a5 a6 : α} {r : List α} {G : Prop} (h : ∀ p ∈ a0 :: a1 :: a2 :: a3 :: a4 :: a5 :: a6 :: r, P p) (k : P a0 → P a1 → P a2 → P a3 → P a4 → P a5 → P a6 → G) : G := k (h _ List.mem_cons_self) (h _ (List.mem_cons_of_mem _ List.mem_cons_self)) (h _ (List.mem_cons_of_mem _ (List.mem_cons_of_mem _ List.mem_cons_self))) (h _ (List.mem_cons_of_mem _ (List.mem_cons_of_mem _ (List.mem_cons_of_mem _ List.mem_cons_self)))) (h _ (List.mem_cons_of_mem _ (List.mem_cons_of_mem _ (List.mem_cons_of_mem _ (List.mem_cons_of_mem _ List.mem_cons_self))))) (h _ (List.mem_cons_of_mem _ (List.mem_cons_of_mem _ (List.mem_cons_of_mem _ (List.mem_cons_of_mem _ (List.mem_cons_of_mem _ List.mem_cons_self)))))) (h _ (List.mem_cons_of_mem _ (List.mem_cons_of_mem _ (List.mem_cons_of_mem _ (List.mem_cons_of_mem _ (List.mem_cons_of_mem _ (List.mem_cons_of_mem _ List.mem_cons_self)))))))
theorem allE8 {α : Type} {P : α → Prop} {a0 a1 a2 a3 a4 a5 a6 a7 : α} {r : List α} {G : Prop} (h : ∀ p ∈ a0 :: a1 :: a2 :: a3 :: a4 :: a5 :: a6 :: a7 :: r, P p) (k : P a0 → P a1 → P a2 → P a3 → P a4 → P a5 → P a6 → P a7 → G) : G := k (h _ List.mem_cons_self) (h _ (List.mem_cons_of_mem _ List.mem_cons_self)) (h _ (List.mem_cons_of_mem _ (List.mem_cons_of_mem _ List.mem_cons_self))) (h _ (List.mem_cons_of_mem _ (List.mem_cons_of_mem _ (List.mem_cons_of_mem _ List.mem_cons_self)))) (h _ (List.mem_cons_of_mem _ (List.mem_cons_of_mem _ (List.mem_cons_of_mem _ (List.mem_cons_of_mem _ List.mem_cons_self))))) (h _ (List.mem_cons_of_mem _ (List.mem_cons_of_mem _ (List.mem_cons_of_mem _ (List.mem_cons_of_mem _ (List.mem_cons_of_mem _ List.mem_cons_self)))))) (h _ (List.mem_cons_of_mem _ (List.mem_cons_of_mem _ (List.mem_cons_of_mem _ (List.mem_cons_of_mem _ (List.mem_cons_of_mem _ (List.mem_cons_of_mem _ List.mem_cons_self))))))) (h _ (List.mem_cons_of_mem _ (List.mem_cons_of_mem _ (List.mem_cons_of_mem _ (List.mem_cons_of_mem _ (List.mem_cons_of_mem _ (List.mem_cons_of_mem _ (List.mem_cons_of_mem _ List.mem_cons_self))))))))
theorem allE9 {α : Type} {P : α → Prop} {a0 a1 a2 a3 a4 a5 a6 a7 a8 : α} {r : List α} {G : Prop} (h : ∀ p ∈ a0 :: a1 :: a2 :: a3 :: a4 :: a5 :: a6 :: a7 :: a8 :: r, P p) (k : P a0 → P a1 → P a2 → P a3 → P a4 → P a5 → P a6 → P a7 → P a8 → G) : G := k (h _ List.mem_cons_self) (h _ (List.mem_cons_of_mem _ List.mem_cons_self)) (h _ (List.mem_cons_of_mem _ (List.mem_cons_of_mem _ List.mem_cons_self))) (h _ (List.mem_cons_of_mem _ (List.mem_cons_of_mem _ (List.mem_cons_of_mem _ List.mem_cons_self)))) (h _ (List.mem_cons_of_mem _ (List.mem_cons_of_mem _ (List.mem_cons_of_mem _ (List.mem_cons_of_mem _ List.mem_cons_self))))) (h _ (List.mem_cons_of_mem _ (List.mem_cons_of_mem _ (List.mem_cons_of_mem _ (List.mem_cons_of_mem _ (List.mem_cons_of_mem _ List.mem_cons_self)))))) (h _ (List.mem_cons_of_mem _ (List.mem_cons_of_mem _ (List.mem_cons_of_mem _ (List.mem_cons_of_mem _ (List.mem_cons_of_mem _ (List.mem_cons_of_mem _ List.mem_cons_self))))))) (h _ (List.mem_cons_of_mem _ (List.mem_cons_of_mem _ (List.mem_cons_of_mem _ (List.mem_cons_of_mem _ (List.mem_cons_of_mem _ (List.mem_cons_of_mem _ (List.mem_cons_of_mem _ List.mem_cons_self)))))))) (h _ (List.mem_cons_of_mem _ (List.mem_cons_of_mem _ (List.mem_cons_of_mem _ (List.mem_cons_of_mem _ (List.mem_cons_of_mem _ (List.mem_cons_of_mem _ (List.mem_cons_of_mem _ (List.mem_cons_of_mem _ List.mem_cons_self)))))))))
theorem allE10 {α : Type} {P : α → Prop} {a0 a1 a2 a3 a4 a5 a6 a7 a8 a9 : α} {r : List α} {G : Prop} (h : ∀ p ∈ a0 :: a1 :: a2 :: a3 :: a4 :: a5 :: a6 :: a7 :: a8 :: a9 :: r, P p) (k : P a0 → P a1 → P a2 → P a3 → P a4 → P a5 → P a6 → P a7 → P a8 → P a9 → G) : G := k (h _ List.mem_cons_self) (h _ (List.mem_cons_of_mem _ List.mem_cons_self)) (h _ (List.mem_cons_of_mem _ (List.mem_cons_of_mem _ List.mem_cons_self))) (h _ (List.mem_cons_of_mem _ (List.mem_cons_of_mem _ (List.mem_cons_of_mem _ List.mem_cons_self)))) (h _ (List.mem_cons_of_mem _ (List.mem_cons_of_mem _ (List.mem_cons_of_mem _ (List.mem_cons_of_mem _ List.mem_cons_self))))) (h _ (List.mem_cons_of_mem _ (List.mem_cons_of_mem _ (List.mem_cons_of_mem _ (List.mem_cons_of_mem _ (List.mem_cons_of_mem _ List.mem_cons_self)))))) (h _ (List.mem_cons_of_mem _ (List.mem_cons_of_mem _ (List.mem_cons_of_mem _ (List.mem_cons_of_mem _ (List.mem_cons_of_mem _ (List.mem_cons_of_mem _ List.mem_cons_self))))))) (h _ (List.mem_cons_of_mem _ (List.mem_cons_of_mem _ (List.mem_cons_of_mem _ (List.mem_cons_of_mem _ (List.mem_cons_of_mem _ (List.mem_cons_of_mem _ (List.mem_cons_of_mem _ List.mem_cons_self)))))))) (h _ (List.mem_cons_of_mem _ (List.mem_cons_of_mem _ (List.mem_cons_of_mem _ (List.mem_cons_of_mem _ (List.mem_cons_of_mem _ (List.mem_cons_of_mem _ (List.mem_cons_of_mem _ (List.mem_cons_of_mem _ List.mem_cons_self))))))))) (h _ (List.mem_cons_of_mem _ (List.mem_cons_of_mem _ (List.mem_cons_of_mem _ (List.mem_cons_of_mem _ (List.mem_cons_of_mem _ (List.mem_cons_of_mem _ (List.mem_cons_of_mem _ (List.mem_cons_of_mem _ (List.mem_cons_of_mem _ List.mem_cons_self))))))))))
theorem room2 {a c d n : Nat} (h : a + d < n) (k : Nat.ble c d = true) : a + c < n := Nat.lt_of_le_of_lt (Nat.add_le_add_left (Nat.le_of_ble_eq_true k) a) h
theorem room3 {a b c d n : Nat} (h : a + d < n) (k : Nat.ble (b + c) d = true) : a + b + c < n := by
  rw [Nat.add_assoc]
  exact room2 h k

end
section
-- PLAIN
/-- a tree for a letter, everywhere -/
noncomputable def Tr.sub (t : Tr) (l : Nat) (r : Tr) : Tr :=
  match t with
  | .lf n => if n = l then r else .lf n
  | .nd a b => .nd (a.sub l r) (b.sub l r)
/-- the first place where two trees differ -/
noncomputable def diff : Tr → Tr → Tr × Tr
  | .nd a b, .nd c d => if a = c then diff b d else diff a c
  | t, u => (t, u)
noncomputable def put (l : Nat) (z : List Nat) (x : List Nat) : List Nat := x.flatMap fun c => if c = l then z else [c]
theorem put_append (l : Nat) (z a b : List Nat) : put l z (a ++ b) = put l z a ++ put l z b := List.flatMap_append
theorem put_cons (l : Nat) (z : List Nat) (c : Nat) (b : List Nat) : put l z (c :: b) = (if c = l then z else [c]) ++ put l z b := List.flatMap_cons
theorem enc_sub {k l : Nat} (h : k ≠ l) (r : Tr) : ∀ t : Tr, (t.sub l r).enc k = put l (r.enc k) (t.enc k)
  | .lf n => by
    by_cases e : n = l
    · simp [Tr.sub, Tr.enc, put, e]
    · simp [Tr.sub, Tr.enc, put, e]
  | .nd a b => by
    show k :: ((a.sub l r).enc k ++ (b.sub l r).enc k) = put l (r.enc k) (k :: (a.enc k ++ b.enc k))
    rw [put_cons, if_neg h, put_append, enc_sub h r a, enc_sub h r b]; rfl
theorem enc_head {k : Nat} (t : Tr) : ∃ c r, t.enc k = c :: r ∧ ((∃ n, t = .lf n ∧ c = n ∧ r = []) ∨ (∃ a b, t = .nd a b ∧ c = k)) := by
  cases t with
  | lf n => exact ⟨n, [], rfl, .inl ⟨n, rfl, rfl, rfl⟩⟩
  | nd a b => exact ⟨k, _, rfl, .inr ⟨a, b, rfl, rfl⟩⟩
theorem enc_inj {k : Nat} (hk : k < 256) : ∀ (t u : Tr) (a b : List Nat), t.Ok → u.Ok → t.enc k ++ a = u.enc k ++ b → t = u ∧ a = b
  | .lf n, .lf m, a, b, _, _, h => by
    simp [Tr.enc] at h
    exact ⟨by rw [h.1], h.2⟩
  | .lf n, .nd c d, a, b, h1, _, h => by
    simp [Tr.enc] at h
    have : 256 ≤ n := h1
    lia
  | .nd c d, .lf n, a, b, _, h1, h => by
    simp [Tr.enc] at h
    have : 256 ≤ n := h1
    lia
  | .nd c d, .nd e f, a, b, h1, h2, h => by
    simp only [Tr.enc, List.cons_append, List.cons.injEq, true_and, List.append_assoc] at h
    obtain ⟨e1, h⟩ := enc_inj hk c e _ _ h1.1 h2.1 h
    obtain ⟨e2, h⟩ := enc_inj hk d f _ _ h1.2 h2.2 h
    exact ⟨by rw [e1, e2], h⟩
theorem enc_eq {k : Nat} (hk : k < 256) {t u : Tr} (h1 : t.Ok) (h2 : u.Ok) (h : t.enc k = u.enc k) : t = u :=
  (enc_inj hk t u [] [] h1 h2 (by rw [h])).1
theorem diff_enc {k : Nat} (hk : k < 256) : ∀ (t u x y : Tr), t.Ok → u.Ok → t ≠ u → diff t u = (x, y) →
    ∃ pre p1 p2, t.enc k = pre ++ x.enc k ++ p1 ∧ u.enc k = pre ++ y.enc k ++ p2 ∧ x.Ok ∧ y.Ok ∧ (x.enc k).head? ≠ (y.enc k).head? ∧ ((∃ n, x = .lf n) ∨ ∃ n, y = .lf n)
  | .lf n, .lf m, x, y, h1, h2, hne, h => by
    simp [diff] at h
    obtain ⟨rfl, rfl⟩ := h
    exact ⟨[], [], [], by simp, by simp, h1, h2, by simpa [Tr.enc] using hne, .inl ⟨n, rfl⟩⟩
  | .lf n, .nd c d, x, y, h1, h2, hne, h => by
    simp [diff] at h
    obtain ⟨rfl, rfl⟩ := h
    have : 256 ≤ n := h1
    exact ⟨[], [], [], by simp, by simp, h1, h2, by simp [Tr.enc]; lia, .inl ⟨n, rfl⟩⟩
  | .nd c d, .lf n, x, y, h1, h2, hne, h => by
    simp [diff] at h
    obtain ⟨rfl, rfl⟩ := h
    have : 256 ≤ n := h2
    exact ⟨[], [], [], by simp, by simp, h1, h2, by simp [Tr.enc]; lia, .inr ⟨n, rfl⟩⟩
  | .nd a b, .nd c d, x, y, h1, h2, hne, h => by
    by_cases e : a = c
    · subst e
      have hb : b ≠ d := fun q => hne (by rw [q])
      simp [diff] at h
      obtain ⟨pre, p1, p2, e1, e2, r⟩ := diff_enc hk b d x y h1.2 h2.2 hb h
      exact ⟨k :: (a.enc k ++ pre), p1, p2, by simp [Tr.enc, e1], by simp [Tr.enc, e2], r⟩
    · simp [diff, e] at h
      obtain ⟨pre, p1, p2, e1, e2, r⟩ := diff_enc hk a c x y h1.1 h2.1 e h
      exact ⟨k :: pre, p1 ++ b.enc k, p2 ++ d.enc k, by simp [Tr.enc, e1], by simp [Tr.enc, e2], r⟩
theorem mem_enc {k l : Nat} (h : l ≠ k) : ∀ t : Tr, l ∈ t.enc k ↔ l ∈ t.lv
  | .lf n => Iff.rfl
  | .nd a b => by
    simp only [Tr.enc, Tr.lv, List.mem_cons, List.mem_append, mem_enc h a, mem_enc h b]
    exact ⟨fun q => q.resolve_left h, .inr⟩
theorem Tr.Ok.sub {l : Nat} {r : Tr} (hr : r.Ok) : ∀ {t : Tr}, t.Ok → (t.sub l r).Ok
  | .lf n, h => by
    by_cases e : n = l
    · simpa [Tr.sub, e] using hr
    · simpa [Tr.sub, e] using h
  | .nd a b, h => ⟨Tr.Ok.sub hr h.1, Tr.Ok.sub hr h.2⟩
noncomputable def Sz (t : Tr) : Prop := (t.enc 51).length ≤ 400000
/-- two types are made one, step by step -/
inductive MetB : Nat → Tr → Tr → Tr → Tr → Prop
  | fin {t g : Tr} : Sz t → Sz g → MetB 0 t t g g
  | left {n l : Nat} {t u g r res : Tr} : t ≠ u → diff t u = (.lf l, r) → l ∉ r.lv → Sz t → Sz u → Sz g → MetB n (t.sub l r) (u.sub l r) (g.sub l r) res → MetB (n + 1) t u g res
  | right {n l : Nat} {t u g a b res : Tr} : t ≠ u → diff t u = (.nd a b, .lf l) → l ∉ (Tr.nd a b).lv → Sz t → Sz u → Sz g → MetB n (t.sub l (.nd a b)) (u.sub l (.nd a b)) (g.sub l (.nd a b)) res → MetB (n + 1) t u g res
theorem MetB.sz {n : Nat} {t u g res : Tr} (h : MetB n t u g res) : Sz t ∧ Sz u ∧ Sz g := by
  cases h with
  | fin a b => exact ⟨a, a, b⟩
  | left _ _ _ a b c _ => exact ⟨a, b, c⟩
  | right _ _ _ a b c _ => exact ⟨a, b, c⟩
theorem MetB.inv {n : Nat} {t u g res : Tr} (h : MetB n t u g res) (hne : t ≠ u) : ∃ n' l r x y, n = n' + 1 ∧ diff t u = (x, y) ∧ ((x = .lf l ∧ y = r) ∨ (∃ a b, r = .nd a b ∧ x = r ∧ y = .lf l)) ∧ l ∉ r.lv ∧ MetB n' (t.sub l r) (u.sub l r) (g.sub l r) res := by
  cases h with
  | fin _ _ => exact absurd rfl hne
  | left a b c _ _ _ d => exact ⟨_, _, _, _, _, rfl, b, .inl ⟨rfl, rfl⟩, c, d⟩
  | right a b c _ _ _ d => exact ⟨_, _, _, _, _, rfl, b, .inr ⟨_, _, rfl, rfl, rfl⟩, c, d⟩
theorem MetB.same {n : Nat} {t g res : Tr} (h : MetB n t t g res) : res = g := by
  cases h with
  | fin _ _ => rfl
  | left a _ _ _ _ _ _ => exact absurd rfl a
  | right a _ _ _ _ _ _ => exact absurd rfl a

end
section
-- PLAIN
noncomputable def arity (c : Nat) : Nat := [3, 3, 1].getD (c - 256) 0
/-- new letters -/
noncomputable def more (c k : Nat) : List Tr := (List.range k).map fun i => .lf (c + i)
theorem more_succ (c k : Nat) : more c (k + 1) = more c k ++ [.lf (c + k)] := by simp [more, List.range_succ]
theorem more_length (c k : Nat) : (more c k).length = k := by simp [more]
/-- one step at a letter B, C, I -/
noncomputable def ctr (code : Nat) : List Tr → Option (List Tr)
  | x :: y :: z :: r => if code = 256 then some (x :: .nd y z :: r) else if code = 257 then some (x :: z :: y :: r) else some (x :: y :: z :: r)
  | r => some r
noncomputable def OkP (ts : List Tr) (c : Nat) : Prop := (∀ t ∈ ts, t.Ok ∧ (t.enc 49).length ≤ 1000) ∧ ts.length ≤ 500 ∧ 300 ≤ c ∧ c ≤ 1000
/-- the front of a pile, top first -/
inductive FrontB : Nat → List Tr → Nat → Nat → Nat → List Tr → Prop
  | var {n c : Nat} {r : List Tr} : 300 ≤ n → OkP (.lf n :: r) c → FrontB 0 (.lf n :: r) c (n - 300) c r
  | app {k c y c' : Nat} {f a : Tr} {r rs : List Tr} : OkP (.nd f a :: r) c → FrontB k (f :: a :: r) c y c' rs → FrontB (k + 1) (.nd f a :: r) c y c' rs
  | comb {k c y c' code : Nat} {r r' rs : List Tr} : (code = 256 ∨ code = 257 ∨ code = 258) → OkP (.lf code :: r) c → OkP (r ++ more c (arity code - r.length)) (c + (arity code - r.length)) → ctr code (r ++ more c (arity code - r.length)) = some r' →
      FrontB k r' (c + (arity code - r.length)) y c' rs → FrontB (k + 1) (.lf code :: r) c y c' rs
theorem FrontB.ok {k c y c' : Nat} {ts rs : List Tr} (h : FrontB k ts c y c' rs) : OkP ts c := by
  cases h with
  | var _ h => exact h
  | app h _ => exact h
  | comb _ h _ _ _ => exact h
theorem FrontB.le {k c y c' : Nat} {ts rs : List Tr} (h : FrontB k ts c y c' rs) : c ≤ c' ∧ c' ≤ 1000 ∧ rs.length ≤ 500 := by
  induction h with
  | var _ h => exact ⟨Nat.le_refl _, h.2.2.2, by have := h.2.1; simp at this; lia⟩
  | app _ _ ih => exact ih
  | comb _ _ _ _ _ ih => exact ⟨by lia, ih.2⟩
/-- the jobs that wait, the next first; what is noted of them -/
inductive EndB : List Tr → Nat → List (Nat × Nat × Nat) → Prop
  | nil {c : Nat} : EndB [] c []
  | step {k c y c' : Nat} {t : Tr} {ts rs : List Tr} {rows : List (Nat × Nat × Nat)} : FrontB k [t] c y c' rs → ts.length ≤ 400 → EndB (ts ++ rs) c' rows → EndB (t :: ts) c ((c' - c, y, rs.length) :: rows)

end
section
-- PLAIN
/-- the shapes of the types of B, C, I, as they are written -/
noncomputable def shapes : List (List Nat) := [[62, 62, 49, 50, 62, 62, 48, 49, 62, 48, 50], [62, 62, 48, 62, 49, 50, 62, 49, 62, 48, 50], [62, 48, 48]]
/-- what a sign of a shape stands for -/
noncomputable def sgn (c sg : Nat) : List Nat := if sg = 62 then [51] else [c + (sg - 48)]
/-- the type of B, C, I with new letters from c on -/
noncomputable def ctype (code c : Nat) : Tr :=
  if code = 256 then .nd (.nd (.lf (c + 1)) (.lf (c + 2))) (.nd (.nd (.lf c) (.lf (c + 1))) (.nd (.lf c) (.lf (c + 2))))
  else if code = 257 then .nd (.nd (.lf c) (.nd (.lf (c + 1)) (.lf (c + 2)))) (.nd (.lf (c + 1)) (.nd (.lf c) (.lf (c + 2))))
  else .nd (.lf c) (.lf c)
theorem ctype_ok {code c : Nat} (hc : 256 ≤ c) : (ctype code c).Ok := by
  unfold ctype
  split
  · simp only [Tr.Ok]; lia
  · split
    · simp only [Tr.Ok]; lia
    · simp only [Tr.Ok]; lia
theorem ctype_enc {code : Nat} (c : Nat) (h : code = 256 ∨ code = 257 ∨ code = 258) : (shapes.getD (code - 256) []).flatMap (sgn c) = (ctype code c).enc 51 := by
  rcases h with h | h | h <;> subst h <;> rfl
theorem shapes_sign {j i c : Nat} (h : (shapes.getD j [])[i]? = some c) : c = 62 ∨ c = 48 ∨ c = 49 ∨ c = 50 := by
  have hm := List.mem_of_getElem? h
  match j with
  | 0 => revert hm; simp [shapes]; lia
  | 1 => revert hm; simp [shapes]; lia
  | 2 => revert hm; simp [shapes]; lia
  | j + 3 => simp [shapes] at hm
theorem shapes_len {code : Nat} (h : code = 256 ∨ code = 257 ∨ code = 258) : 2 ≤ (shapes.getD (code - 256) []).length ∧ (shapes.getD (code - 256) []).length ≤ 11 := by
  rcases h with h | h | h <;> subst h <;> decide
/-- how _law_kind goes over the row, from the right: what lies on the pile, the top first, and the next letter -/
inductive KindB : List Nat → List Tr → Nat → Tr → Prop
  | fin {c : Nat} {t : Tr} : KindB [] [t] c t
  | app {ns : List Nat} {n c : Nat} {f a r res : Tr} {ts : List Tr} : MetB n f (.nd a (.lf c)) (.lf c) r → r.Ok → ts.length ≤ 300 → 256 ≤ c → c ≤ 1000 → KindB ns (r :: ts) (c + 1) res → KindB (49 :: ns) (f :: a :: ts) c res
  | comb {ns : List Nat} {code c : Nat} {res : Tr} {ts : List Tr} : (code = 256 ∨ code = 257 ∨ code = 258) → ts.length ≤ 300 → 256 ≤ c → c ≤ 1000 → KindB ns (ctype code c :: ts) (c + 3) res → KindB (code :: ns) ts c res

end
section
-- PLAIN
/-- a tree for each letter -/
noncomputable def Tr.inst (s : Nat → Tr) : Tr → Tr
  | .lf n => s n
  | .nd a b => .nd (a.inst s) (b.inst s)
noncomputable def arrows : List Tr → Tr → Tr
  | [], a => a
  | u :: us, a => .nd u (arrows us a)
theorem arrows_append (b : List Tr) (x : Tr) : ∀ a : List Tr, arrows (a ++ b) x = arrows a (arrows b x)
  | [] => rfl
  | u :: us => by simp only [List.cons_append, arrows, arrows_append b x us]
theorem arrows_inst (s : Nat → Tr) (x : Tr) : ∀ a : List Tr, (arrows a x).inst s = arrows (a.map (Tr.inst s)) (x.inst s)
  | [] => rfl
  | u :: us => by simp only [arrows, Tr.inst, List.map_cons, arrows_inst s x us]
theorem arrows_inj {x y : Tr} : ∀ {a b : List Tr}, a.length = b.length → arrows a x = arrows b y → a = b ∧ x = y
  | [], [], _, h => ⟨rfl, h⟩
  | u :: us, v :: vs, hl, h => by
    simp only [arrows, Tr.nd.injEq] at h
    obtain ⟨e1, e2⟩ := arrows_inj (by simpa using hl) h.2
    exact ⟨by rw [h.1, e1], e2⟩
noncomputable def Tr.tl : Tr → Nat
  | .lf n => n
  | .nd _ b => b.tl
theorem tl_arrows (x : Tr) : ∀ a : List Tr, (arrows a x).tl = x.tl
  | [] => rfl
  | u :: us => by simp only [arrows, Tr.tl, tl_arrows x us]
theorem tl_inst (s : Nat → Tr) : ∀ t : Tr, (t.inst s).tl = (s t.tl).tl
  | .lf _ => rfl
  | .nd _ b => tl_inst s b
theorem tl_mem : ∀ t : Tr, t.tl ∈ t.lv
  | .lf n => List.mem_singleton.mpr rfl
  | .nd _ b => List.mem_append_right _ (tl_mem b)
theorem inst_size (s : Nat → Tr) : ∀ t : Tr, t.lv.length ≤ (t.inst s).lv.length
  | .lf n => Tr.lv_pos _
  | .nd a b => by
    have h1 := inst_size s a
    have h2 := inst_size s b
    simp only [Tr.inst, Tr.lv, List.length_append]
    lia
theorem inst_congr {s s' : Nat → Tr} : ∀ {t : Tr}, (∀ l ∈ t.lv, s l = s' l) → t.inst s = t.inst s'
  | .lf n, h => h n (List.mem_singleton.mpr rfl)
  | .nd a b, h => by
    simp only [Tr.inst]
    rw [inst_congr fun l hl => h l (List.mem_append_left _ hl), inst_congr fun l hl => h l (List.mem_append_right _ hl)]
/-- a letter within a tree is no more than the tree -/
theorem inst_mem_size (s : Nat → Tr) {l : Nat} : ∀ {t : Tr}, l ∈ t.lv → (s l).lv.length ≤ (t.inst s).lv.length
  | .lf n, h => by
    rw [List.mem_singleton.mp h]; exact Nat.le_refl _
  | .nd a b, h => by
    simp only [Tr.inst, Tr.lv, List.length_append]
    rcases List.mem_append.mp h with h | h
    · have := inst_mem_size s h; lia
    · have := inst_mem_size s h; lia
theorem sub_inst {s : Nat → Tr} {l : Nat} {r : Tr} (h : s l = r.inst s) : ∀ t : Tr, (t.sub l r).inst s = t.inst s
  | .lf n => by
    by_cases e : n = l
    · simp [Tr.sub, e, Tr.inst, h]
    · simp [Tr.sub, e]
  | .nd a b => by simp only [Tr.sub, Tr.inst, sub_inst h a, sub_inst h b]
theorem sub_as_inst (l : Nat) (r : Tr) : ∀ t : Tr, t.sub l r = t.inst (fun n => if n = l then r else .lf n)
  | .lf n => rfl
  | .nd a b => by simp only [Tr.sub, Tr.inst, sub_as_inst l r a, sub_as_inst l r b]
theorem inst_inst (s s' : Nat → Tr) : ∀ t : Tr, (t.inst s).inst s' = t.inst (fun n => (s n).inst s')
  | .lf n => rfl
  | .nd a b => by simp only [Tr.inst, inst_inst s s' a, inst_inst s s' b]
theorem mem_sub {l : Nat} {r : Tr} {x : Nat} : ∀ {t : Tr}, x ∈ (t.sub l r).lv → (x ∈ t.lv ∧ x ≠ l) ∨ x ∈ r.lv
  | .lf n, h => by
    by_cases e : n = l
    · simp [Tr.sub, e] at h; exact .inr h
    · simp [Tr.sub, e, Tr.lv] at h
      subst h
      exact .inl ⟨List.mem_singleton.mpr rfl, e⟩
  | .nd a b, h => by
    simp only [Tr.sub, Tr.lv, List.mem_append] at h
    rcases h with h | h
    · rcases mem_sub h with h | h
      · exact .inl ⟨List.mem_append_left _ h.1, h.2⟩
      · exact .inr h
    · rcases mem_sub h with h | h
      · exact .inl ⟨List.mem_append_right _ h.1, h.2⟩
      · exact .inr h
/-- the first place where two trees differ, under a unifier -/
theorem diff_unify {s : Nat → Tr} : ∀ {t u x y : Tr}, t ≠ u → diff t u = (x, y) → t.inst s = u.inst s → x ≠ y ∧ x.inst s = y.inst s ∧ ((∃ n, x = .lf n) ∨ ∃ n, y = .lf n) ∧ (∀ l ∈ x.lv, l ∈ t.lv) ∧ (∀ l ∈ y.lv, l ∈ u.lv)
  | .lf n, u, x, y, hne, h, hs => by
    simp [diff] at h
    obtain ⟨rfl, rfl⟩ := h
    exact ⟨hne, hs, .inl ⟨n, rfl⟩, fun _ h => h, fun _ h => h⟩
  | .nd a b, .lf n, x, y, hne, h, hs => by
    simp [diff] at h
    obtain ⟨rfl, rfl⟩ := h
    exact ⟨hne, hs, .inr ⟨n, rfl⟩, fun _ h => h, fun _ h => h⟩
  | .nd a b, .nd c d, x, y, hne, h, hs => by
    simp only [Tr.inst, Tr.nd.injEq] at hs
    by_cases e : a = c
    · subst e
      have hb : b ≠ d := fun q => hne (by rw [q])
      simp [diff] at h
      obtain ⟨h1, h2, h3, h4, h5⟩ := diff_unify hb h hs.2
      exact ⟨h1, h2, h3, fun l hl => List.mem_append_right _ (h4 l hl), fun l hl => List.mem_append_right _ (h5 l hl)⟩
    · simp [diff, e] at h
      obtain ⟨h1, h2, h3, h4, h5⟩ := diff_unify e h hs.1
      exact ⟨h1, h2, h3, fun l hl => List.mem_append_left _ (h4 l hl), fun l hl => List.mem_append_left _ (h5 l hl)⟩
/-- a letter that must be a tree does not stand in it -/
theorem occurs {s : Nat → Tr} {l : Nat} {r : Tr} (hne : Tr.lf l ≠ r) (hs : s l = r.inst s) : l ∉ r.lv := by
  intro h
  cases r with
  | lf n =>
    rw [List.mem_singleton.mp h] at hne
    exact hne rfl
  | nd a b =>
    have h1 := Tr.lv_pos (a.inst s)
    have h2 := Tr.lv_pos (b.inst s)
    have h3 : (s l).lv.length = (a.inst s).lv.length + (b.inst s).lv.length := by rw [hs]; simp [Tr.inst, Tr.lv]
    rcases List.mem_append.mp h with h | h
    · have := inst_mem_size s h; lia
    · have := inst_mem_size s h; lia
theorem sz_of {t : Tr} {N : Nat} (h : t.lv.length ≤ N) (hN : N ≤ 200000) : Sz t := by
  have := Tr.enc_len 51 t
  unfold Sz
  lia
theorem filter_lt {ls : List Nat} {l : Nat} (h : l ∈ ls) : (ls.filter (· ≠ l)).length < ls.length := by
  rw [← List.countP_eq_length_filter]
  refine Nat.lt_of_le_of_ne List.countP_le_length fun e => ?_
  have := List.countP_eq_length.mp e l h
  simp at this
/-- where a unifier is, two types are made one -/
theorem met_ex (s : Nat → Tr) (N : Nat) (hN : N ≤ 200000) : ∀ (m : Nat) (ls : List Nat), ls.length ≤ m → ∀ t u g : Tr, (∀ l ∈ t.lv, l ∈ ls) → (∀ l ∈ u.lv, l ∈ ls) →
    t.inst s = u.inst s → (t.inst s).lv.length ≤ N → (g.inst s).lv.length ≤ N → ∃ n r, MetB n t u g r := by
  intro m
  induction m with
  | zero =>
    intro ls hl t u g ht hu hs hz hg
    have : ls = [] := List.length_eq_zero_iff.mp (by lia)
    subst this
    exact absurd (ht _ (tl_mem t)) (by simp)
  | succ m ih =>
    intro ls hl t u g ht hu hs hz hg
    have z1 : Sz t := sz_of (Nat.le_trans (inst_size s t) hz) hN
    have z2 : Sz u := sz_of (Nat.le_trans (inst_size s u) (hs ▸ hz)) hN
    have z3 : Sz g := sz_of (Nat.le_trans (inst_size s g) hg) hN
    by_cases hne : t = u
    · subst hne
      exact ⟨0, g, .fin z1 z3⟩
    · match hd : diff t u with
      | (x, y) =>
        obtain ⟨h1, h2, h3, h4, h5⟩ := diff_unify hne hd hs
        have go : ∀ l r, s l = r.inst s → l ∉ r.lv → l ∈ ls → (∀ k ∈ r.lv, k ∈ ls) → ∃ n r', MetB n (t.sub l r) (u.sub l r) (g.sub l r) r' := by
          intro l r e1 e2 e3 e4
          have hsub : ∀ t : Tr, (∀ k ∈ t.lv, k ∈ ls) → ∀ k ∈ (t.sub l r).lv, k ∈ ls.filter (· ≠ l) := by
            intro t ht k hk
            rw [List.mem_filter]
            rcases mem_sub hk with h | h
            · exact ⟨ht k h.1, by simpa using h.2⟩
            · exact ⟨e4 k h, by simpa using fun q : k = l => e2 (by rw [← q]; exact h)⟩
          refine ih (ls.filter (· ≠ l)) ?_ _ _ _ (hsub t ht) (hsub u hu) ?_ ?_ ?_
          · have := filter_lt e3; lia
          · rw [sub_inst e1, sub_inst e1, hs]
          · rw [sub_inst e1]; exact hz
          · rw [sub_inst e1]; exact hg
        rcases h3 with ⟨l, rfl⟩ | ⟨l, rfl⟩
        · have e1 : s l = y.inst s := h2
          have e2 := occurs h1 e1
          obtain ⟨n, r', h⟩ := go l y e1 e2 (ht l (h4 l (List.mem_singleton.mpr rfl))) (fun k hk => hu k (h5 k hk))
          exact ⟨n + 1, r', .left hne hd e2 z1 z2 z3 h⟩
        · cases x with
          | lf k =>
            have e1 : s k = (Tr.lf l).inst s := h2
            have e2 := occurs h1 e1
            obtain ⟨n, r', h⟩ := go k (.lf l) e1 e2 (ht k (h4 k (List.mem_singleton.mpr rfl))) (fun k hk => hu k (h5 k hk))
            exact ⟨n + 1, r', .left hne hd e2 z1 z2 z3 h⟩
          | nd a b =>
            have e1 : s l = (Tr.nd a b).inst s := h2.symm
            have e2 := occurs (Ne.symm h1) e1
            obtain ⟨n, r', h⟩ := go l (.nd a b) e1 e2 (hu l (h5 l (List.mem_singleton.mpr rfl))) (fun k hk => ht k (h4 k hk))
            exact ⟨n + 1, r', .right hne hd e2 z1 z2 z3 h⟩
theorem sub_inst' (l : Nat) (r : Tr) (s : Nat → Tr) (t : Tr) : (t.sub l r).inst s = t.inst (fun n => (if n = l then r else .lf n : Tr).inst s) := by
  rw [sub_as_inst, inst_inst]
/-- what comes out is an case by a unifier -/
theorem MetB.sound {n : Nat} {t u g res : Tr} (h : MetB n t u g res) : ∃ s, t.inst s = u.inst s ∧ res = g.inst s := by
  induction h with
  | fin _ _ =>
    refine ⟨Tr.lf, rfl, ?_⟩
    rename_i g _ _
    have : ∀ t : Tr, t.inst Tr.lf = t := by
      intro t
      induction t with
      | lf n => rfl
      | nd a b h1 h2 => simp only [Tr.inst, h1, h2]
    rw [this]
  | left a b c _ _ _ d ih =>
    obtain ⟨s, h1, h2⟩ := ih
    rw [sub_inst'] at h2
    rw [sub_inst', sub_inst'] at h1
    exact ⟨_, h1, h2⟩
  | right a b c _ _ _ d ih =>
    obtain ⟨s, h1, h2⟩ := ih
    rw [sub_inst'] at h2
    rw [sub_inst', sub_inst'] at h1
    exact ⟨_, h1, h2⟩
/-- every unifier comes by it -/
theorem MetB.most {n : Nat} {t u g res : Tr} (h : MetB n t u g res) {s : Nat → Tr} (hs : t.inst s = u.inst s) : res.inst s = g.inst s := by
  induction h with
  | fin _ _ => rfl
  | left a b c _ _ _ d ih =>
    have e := (diff_unify a b hs).2.1
    have := ih (by rw [sub_inst e, sub_inst e, hs])
    rw [this, sub_inst e]
  | right a b c _ _ _ d ih =>
    have e := (diff_unify a b hs).2.1.symm
    have := ih (by rw [sub_inst e, sub_inst e, hs])
    rw [this, sub_inst e]
theorem MetB.mem {n : Nat} {t u g res : Tr} (h : MetB n t u g res) {s : Nat → Tr} (hs : t.inst s = u.inst s) {x : Nat} (hx : x ∈ res.lv) : x ∈ t.lv ∨ x ∈ u.lv ∨ x ∈ g.lv := by
  induction h with
  | fin _ _ => exact .inr (.inr hx)
  | left a b c _ _ _ d ih =>
    have e := (diff_unify a b hs)
    rcases ih (by rw [sub_inst e.2.1, sub_inst e.2.1, hs]) hx with h | h | h
    · rcases mem_sub h with h | h
      · exact .inl h.1
      · exact .inr (.inl (e.2.2.2.2 _ h))
    · rcases mem_sub h with h | h
      · exact .inr (.inl h.1)
      · exact .inr (.inl (e.2.2.2.2 _ h))
    · rcases mem_sub h with h | h
      · exact .inr (.inr h.1)
      · exact .inr (.inl (e.2.2.2.2 _ h))
  | right a b c _ _ _ d ih =>
    have e := (diff_unify a b hs)
    rcases ih (by rw [sub_inst e.2.1.symm, sub_inst e.2.1.symm, hs]) hx with h | h | h
    · rcases mem_sub h with h | h
      · exact .inl h.1
      · exact .inl (e.2.2.2.1 _ h)
    · rcases mem_sub h with h | h
      · exact .inr (.inl h.1)
      · exact .inl (e.2.2.2.1 _ h)
    · rcases mem_sub h with h | h
      · exact .inr (.inr h.1)
      · exact .inl (e.2.2.2.1 _ h)

end
section
-- PLAIN
noncomputable def bty (x y z : Tr) : Tr := .nd (.nd y z) (.nd (.nd x y) (.nd x z))
noncomputable def cty (x y z : Tr) : Tr := .nd (.nd x (.nd y z)) (.nd y (.nd x z))
/-- a term has a type, where the letters have the types that G tells and the types in it are within W -/
inductive Ty (W : Tr → Prop) (G : Nat → Tr) : Tr → Tr → Prop
  | var {n : Nat} : 300 ≤ n → W (G n) → Ty W G (.lf n) (G n)
  | b {x y z : Tr} : W (bty x y z) → Ty W G (.lf 256) (bty x y z)
  | c {x y z : Tr} : W (cty x y z) → Ty W G (.lf 257) (cty x y z)
  | i {x : Tr} : W (.nd x x) → Ty W G (.lf 258) (.nd x x)
  | app {f a A B : Tr} : W B → Ty W G f (.nd A B) → Ty W G a A → Ty W G (.nd f a) B
inductive TyL (W : Tr → Prop) (G : Nat → Tr) : List Tr → List Tr → Prop
  | nil : TyL W G [] []
  | cons {t A : Tr} {ts As : List Tr} : Ty W G t A → TyL W G ts As → TyL W G (t :: ts) (A :: As)
theorem Ty.wit {W : Tr → Prop} {G : Nat → Tr} {t A : Tr} (h : Ty W G t A) : W A := by
  cases h with
  | var _ h => exact h
  | b h => exact h
  | c h => exact h
  | i h => exact h
  | app h _ _ => exact h
theorem Ty.mono {W W' : Tr → Prop} {G : Nat → Tr} (hW : ∀ t, W t → W' t) {t A : Tr} (h : Ty W G t A) : Ty W' G t A := by
  induction h with
  | var a h => exact .var a (hW _ h)
  | b h => exact .b (hW _ h)
  | c h => exact .c (hW _ h)
  | i h => exact .i (hW _ h)
  | app h _ _ h1 h2 => exact .app (hW _ h) h1 h2
theorem TyL.mono {W W' : Tr → Prop} {G : Nat → Tr} (hW : ∀ t, W t → W' t) {t A : List Tr} (h : TyL W G t A) : TyL W' G t A := by
  induction h with
  | nil => exact .nil
  | cons h _ ih => exact .cons (h.mono hW) ih
theorem Ty.congr {W : Tr → Prop} {G G' : Nat → Tr} {t A : Tr} (h : Ty W G t A) (hG : ∀ v ∈ t.lv, 300 ≤ v → G v = G' v) : Ty W G' t A := by
  induction h with
  | var a h =>
    have e := hG _ (List.mem_singleton.mpr rfl) a
    rw [e] at h ⊢
    exact .var a h
  | b h => exact .b h
  | c h => exact .c h
  | i h => exact .i h
  | app h _ _ h1 h2 => exact .app h (h1 fun v hv => hG v (List.mem_append_left _ hv)) (h2 fun v hv => hG v (List.mem_append_right _ hv))
theorem TyL.congr {W : Tr → Prop} {G G' : Nat → Tr} {t A : List Tr} (h : TyL W G t A) (hG : ∀ v ∈ lvs t, 300 ≤ v → G v = G' v) : TyL W G' t A := by
  induction h with
  | nil => exact .nil
  | cons h _ ih => exact .cons (h.congr fun v hv => hG v (List.mem_append_left _ hv)) (ih fun v hv => hG v (List.mem_append_right _ hv))
theorem TyL.len {W : Tr → Prop} {G : Nat → Tr} {t A : List Tr} (h : TyL W G t A) : t.length = A.length := by
  induction h with
  | nil => rfl
  | cons _ _ ih => simp [ih]
theorem TyL.append {W : Tr → Prop} {G : Nat → Tr} {t A t' A' : List Tr} (h : TyL W G t A) (h' : TyL W G t' A') : TyL W G (t ++ t') (A ++ A') := by
  induction h with
  | nil => exact h'
  | cons h _ ih => exact .cons h ih
theorem TyL.split {W : Tr → Prop} {G : Nat → Tr} {t' : List Tr} : ∀ {t A : List Tr}, TyL W G (t ++ t') A → ∃ A1 A2, A = A1 ++ A2 ∧ TyL W G t A1 ∧ TyL W G t' A2
  | [], A, h => ⟨[], A, rfl, .nil, h⟩
  | _ :: _, _, .cons h r => by
    obtain ⟨A1, A2, rfl, h1, h2⟩ := TyL.split r
    exact ⟨_ :: A1, A2, rfl, .cons h h1, h2⟩
theorem Ty.inst {W : Tr → Prop} {G : Nat → Tr} {t A : Tr} (h : Ty W G t A) (s : Nat → Tr) : Ty (fun _ => True) (fun n => (G n).inst s) t (A.inst s) := by
  induction h with
  | var a h => exact .var (G := fun n => (G n).inst s) a trivial
  | b h => exact .b (x := _) (y := _) (z := _) trivial
  | c h => exact .c (x := _) (y := _) (z := _) trivial
  | i h => exact .i (x := _) trivial
  | app h _ _ h1 h2 => exact .app trivial h1 h2
/-- a pile has a type: the first is called with the others -/
noncomputable def Pt (W : Tr → Prop) (G : Nat → Tr) (p : List Tr) (A : Tr) : Prop := ∃ t r As, p = t :: r ∧ TyL W G r As ∧ Ty W G t (arrows As A)
theorem Pt.intro {W : Tr → Prop} {G : Nat → Tr} {t A : Tr} {r As : List Tr} (h : TyL W G r As) (h' : Ty W G t (arrows As A)) : Pt W G (t :: r) A := ⟨t, r, As, rfl, h, h'⟩
theorem Pt.out {W : Tr → Prop} {G : Nat → Tr} {t A : Tr} {r : List Tr} (h : Pt W G (t :: r) A) : ∃ As, TyL W G r As ∧ Ty W G t (arrows As A) := by
  obtain ⟨_, _, As, e, h1, h2⟩ := h
  simp only [List.cons.injEq] at e
  obtain ⟨rfl, rfl⟩ := e
  exact ⟨As, h1, h2⟩
theorem Pt.mono {W W' : Tr → Prop} {G : Nat → Tr} (hW : ∀ t, W t → W' t) {p : List Tr} {A : Tr} (h : Pt W G p A) : Pt W' G p A := by
  obtain ⟨t, r, As, e, h1, h2⟩ := h
  exact ⟨t, r, As, e, h1.mono hW, h2.mono hW⟩
theorem Pt.congr {W : Tr → Prop} {G G' : Nat → Tr} {p : List Tr} {A : Tr} (h : Pt W G p A) (hG : ∀ v ∈ lvs p, 300 ≤ v → G v = G' v) : Pt W G' p A := by
  obtain ⟨t, r, As, rfl, h1, h2⟩ := h
  exact ⟨t, r, As, rfl, h1.congr fun v hv => hG v (List.mem_append_right _ hv), h2.congr fun v hv => hG v (List.mem_append_left _ hv)⟩
theorem Pt.app_in {W : Tr → Prop} {G : Nat → Tr} {f a A : Tr} {r : List Tr} (h : Pt W G (.nd f a :: r) A) : Pt W G (f :: a :: r) A := by
  obtain ⟨As, h1, h2⟩ := h.out
  cases h2 with
  | app _ hf ha => exact Pt.intro (.cons ha h1) hf
/-- the types within which a pile's types lie, before each step -/
structure Cl (W : Nat → Tr → Prop) : Prop where
  up {k : Nat} {t : Tr} : W k t → W (k + 1) t
  left {k : Nat} {a b : Tr} : W k (.nd a b) → W k a
  right {k : Nat} {a b : Tr} : W k (.nd a b) → W k b
  bb {k : Nat} {a b c : Tr} : W k (.nd a b) → W k (.nd b c) → W (k + 1) (bty a b c)
  cc {k : Nat} {a b c : Tr} : W k (.nd a (.nd b c)) → W (k + 1) (cty a b c)
  ii {k : Nat} {a : Tr} : W k a → W (k + 1) (.nd a a)
theorem Cl.le {W : Nat → Tr → Prop} (h : Cl W) {k k' : Nat} (hk : k ≤ k') {t : Tr} (ht : W k t) : W k' t := by
  induction hk with
  | refl => exact ht
  | step _ ih => exact h.up ih
theorem Cl.triv : Cl (fun _ _ => True) := ⟨fun _ => trivial, fun _ => trivial, fun _ => trivial, fun _ _ => trivial, fun _ => trivial, fun _ => trivial⟩
theorem Cl.size (N : Nat) : Cl (fun k t => t.lv.length ≤ N * 4 ^ k) := by
  refine ⟨?_, ?_, ?_, ?_, ?_, ?_⟩
  · intro k t h; rw [Nat.pow_succ, ← Nat.mul_assoc]; lia
  · intro k a b h; simp only [Tr.lv, List.length_append] at h; lia
  · intro k a b h; simp only [Tr.lv, List.length_append] at h; lia
  · intro k a b c h h'; rw [Nat.pow_succ, ← Nat.mul_assoc]; simp only [bty, Tr.lv, List.length_append] at h h' ⊢; lia
  · intro k a b c h; rw [Nat.pow_succ, ← Nat.mul_assoc]; simp only [cty, Tr.lv, List.length_append] at h ⊢; lia
  · intro k a h; rw [Nat.pow_succ, ← Nat.mul_assoc]; simp only [Tr.lv, List.length_append] at h ⊢; lia
theorem Pt.app_out {W : Nat → Tr → Prop} (hW : Cl W) {k : Nat} {G : Nat → Tr} {f a A : Tr} {r : List Tr} (h : Pt (W k) G (f :: a :: r) A) : Pt (W k) G (.nd f a :: r) A := by
  obtain ⟨As, h1, h2⟩ := h.out
  cases h1 with
  | cons ha h1 => exact Pt.intro h1 (.app (hW.right h2.wit) h2 ha)
theorem cons3 {α : Type} {l : List α} (h : 3 ≤ l.length) : ∃ a b c r, l = a :: b :: c :: r := by
  match l, h with
  | a :: b :: c :: r, _ => exact ⟨a, b, c, r, rfl⟩
theorem cons1 {α : Type} {l : List α} (h : 1 ≤ l.length) : ∃ a r, l = a :: r := by
  match l, h with
  | a :: r, _ => exact ⟨a, r, rfl⟩
theorem TyL.uncons {W : Tr → Prop} {G : Nat → Tr} {t : Tr} {ts As : List Tr} (h : TyL W G (t :: ts) As) : ∃ A As', As = A :: As' ∧ Ty W G t A ∧ TyL W G ts As' := by
  cases h with
  | cons a b => exact ⟨_, _, rfl, a, b⟩
theorem Ty.b_inv {W : Tr → Prop} {G : Nat → Tr} {T : Tr} (h : Ty W G (.lf 256) T) : ∃ x y z, T = bty x y z := by
  cases h with
  | var h => lia
  | b _ => exact ⟨_, _, _, rfl⟩
theorem Ty.c_inv {W : Tr → Prop} {G : Nat → Tr} {T : Tr} (h : Ty W G (.lf 257) T) : ∃ x y z, T = cty x y z := by
  cases h with
  | var h => lia
  | c _ => exact ⟨_, _, _, rfl⟩
theorem Ty.i_inv {W : Tr → Prop} {G : Nat → Tr} {T : Tr} (h : Ty W G (.lf 258) T) : ∃ x, T = .nd x x := by
  cases h with
  | var h => lia
  | i _ => exact ⟨_, rfl⟩
theorem ctr_b {x y z : Tr} {r r' : List Tr} (h : ctr 256 (x :: y :: z :: r) = some r') : r' = x :: .nd y z :: r := (Option.some.inj h).symm
theorem ctr_c {x y z : Tr} {r r' : List Tr} (h : ctr 257 (x :: y :: z :: r) = some r') : r' = x :: z :: y :: r := (Option.some.inj h).symm
theorem ctr_i {x : Tr} {r r' : List Tr} (h : ctr 258 (x :: r) = some r') : r' = x :: r := by
  match r, h with
  | [], h => exact (Option.some.inj h).symm
  | [_], h => exact (Option.some.inj h).symm
  | _ :: _ :: _, h => exact (Option.some.inj h).symm
/-- a step at B, C, I: the type stays -/
theorem ctr_red {G : Nat → Tr} {W : Tr → Prop} {code : Nat} (hc : code = 256 ∨ code = 257 ∨ code = 258) {r r' : List Tr} (hl : arity code ≤ r.length) (he : ctr code r = some r') {A : Tr} (h : Pt W G (.lf code :: r) A) : Pt (fun _ => True) G r' A := by
  have h := h.mono (W' := fun _ => True) fun _ _ => trivial
  obtain ⟨As, h1, h2⟩ := h.out
  rcases hc with rfl | rfl | rfl
  · obtain ⟨x, y, z, r, rfl⟩ := cons3 hl
    obtain ⟨a, A1, rfl, hx, h3⟩ := h1.uncons
    obtain ⟨b, A2, rfl, hy, h4⟩ := h3.uncons
    obtain ⟨c, A3, rfl, hz, h5⟩ := h4.uncons
    obtain rfl := ctr_b he
    obtain ⟨p, q, s, e⟩ := h2.b_inv
    simp only [arrows, bty, Tr.nd.injEq] at e
    obtain ⟨rfl, rfl, rfl, rfl⟩ := e
    exact Pt.intro (.cons (.app trivial hy hz) h5) hx
  · obtain ⟨x, y, z, r, rfl⟩ := cons3 hl
    obtain ⟨a, A1, rfl, hx, h3⟩ := h1.uncons
    obtain ⟨b, A2, rfl, hy, h4⟩ := h3.uncons
    obtain ⟨c, A3, rfl, hz, h5⟩ := h4.uncons
    obtain rfl := ctr_c he
    obtain ⟨p, q, s, e⟩ := h2.c_inv
    simp only [arrows, cty, Tr.nd.injEq] at e
    obtain ⟨rfl, rfl, rfl, rfl⟩ := e
    exact Pt.intro (.cons hz (.cons hy h5)) hx
  · obtain ⟨x, r, rfl⟩ := cons1 hl
    obtain ⟨a, A1, rfl, hx, h3⟩ := h1.uncons
    obtain rfl := ctr_i he
    obtain ⟨p, e⟩ := h2.i_inv
    simp only [arrows, Tr.nd.injEq] at e
    obtain ⟨rfl, rfl⟩ := e
    exact Pt.intro h3 hx
theorem ctr_exp {W : Nat → Tr → Prop} (hW : Cl W) {k : Nat} {G : Nat → Tr} {code : Nat} (hc : code = 256 ∨ code = 257 ∨ code = 258) {r r' : List Tr} (hl : arity code ≤ r.length) (he : ctr code r = some r') {A : Tr} (h : Pt (W k) G r' A) : Pt (W (k + 1)) G (.lf code :: r) A := by
  rcases hc with rfl | rfl | rfl
  · obtain ⟨x, y, z, r, rfl⟩ := cons3 hl
    obtain rfl := ctr_b he
    obtain ⟨As, h1, h2⟩ := h.out
    obtain ⟨a, A1, rfl, ha, h3⟩ := h1.uncons
    cases ha with
    | app _ hy hz =>
      exact Pt.intro (.cons (h2.mono fun _ => hW.up) (.cons (hy.mono fun _ => hW.up) (.cons (hz.mono fun _ => hW.up) (h3.mono fun _ => hW.up)))) (.b (hW.bb hy.wit h2.wit))
  · obtain ⟨x, y, z, r, rfl⟩ := cons3 hl
    obtain rfl := ctr_c he
    obtain ⟨As, h1, h2⟩ := h.out
    obtain ⟨a, A1, rfl, hz, h3⟩ := h1.uncons
    obtain ⟨b, A2, rfl, hy, h4⟩ := h3.uncons
    exact Pt.intro (.cons (h2.mono fun _ => hW.up) (.cons (hy.mono fun _ => hW.up) (.cons (hz.mono fun _ => hW.up) (h4.mono fun _ => hW.up)))) (.c (hW.cc h2.wit))
  · obtain ⟨x, r, rfl⟩ := cons1 hl
    obtain rfl := ctr_i he
    obtain ⟨As, h1, h2⟩ := h.out
    exact Pt.intro (.cons (h2.mono fun _ => hW.up) (h1.mono fun _ => hW.up)) (.i (hW.ii h2.wit))
/-- the types of the new letters -/
noncomputable def news (G : Nat → Tr) (c k : Nat) : List Tr := (List.range k).map fun i => G (c + i)
theorem news_length (G : Nat → Tr) (c k : Nat) : (news G c k).length = k := by simp [news]
theorem news_add (G : Nat → Tr) (c j k : Nat) : news G c (j + k) = news G c j ++ news G (c + j) k := by
  simp [news, List.range_add, Function.comp_def, Nat.add_assoc]
theorem more_ty {W : Tr → Prop} {G : Nat → Tr} {c : Nat} (hc : 300 ≤ c) : ∀ k, (∀ v, c ≤ v → v < c + k → W (G v)) → TyL W G (more c k) (news G c k)
  | 0, _ => .nil
  | k + 1, h => by
    rw [more_succ, news_add]
    refine (more_ty hc k fun v h1 h2 => h v h1 (by lia)).append ?_
    exact .cons (.var (by lia) (h _ (by lia) (by lia))) .nil
theorem TyL.more {W : Tr → Prop} {G : Nat → Tr} {c : Nat} (hc : 300 ≤ c) : ∀ k {As : List Tr}, TyL W G (more c k) As → As = news G c k
  | 0, _, .nil => rfl
  | k + 1, As, h => by
    rw [more_succ] at h
    obtain ⟨A1, A2, rfl, h1, h2⟩ := h.split
    rw [news_add, TyL.more hc k h1]
    cases h2 with
    | cons a b =>
      cases b
      generalize hT : c + k = n at a
      cases a with
      | var _ _ => subst hT; rfl
      | b _ => lia
      | c _ => lia
      | i _ => lia
theorem Pt.eta {W : Nat → Tr → Prop} (hW : Cl W) {j : Nat} {G : Nat → Tr} {t A : Tr} {r : List Tr} {c k : Nat} (hc : 300 ≤ c) (h : Pt (W j) G (t :: (r ++ more c k)) A) : Pt (W j) G (t :: r) (arrows (news G c k) A) := by
  obtain ⟨As, h1, h2⟩ := h.out
  obtain ⟨A1, A2, rfl, h1, h3⟩ := h1.split
  rw [h3.more hc k, arrows_append] at h2
  exact Pt.intro h1 h2
theorem Pt.eta' {G : Nat → Tr} {t A : Tr} {r : List Tr} {c k : Nat} (hc : 300 ≤ c) (h : Pt (fun _ => True) G (t :: r) (arrows (news G c k) A)) : Pt (fun _ => True) G (t :: (r ++ Mine.more c k)) A := by
  obtain ⟨As, h1, h2⟩ := h.out
  rw [← arrows_append] at h2
  exact Pt.intro (h1.append (more_ty hc k fun _ _ _ => trivial)) h2
theorem arr3 {As : List Tr} {A u v w t : Tr} (h : arrows As A = .nd u (.nd v (.nd w t))) (hl : As.length < 3) : ∃ Us a, Us.length = 3 - As.length ∧ A = arrows Us a := by
  match As, hl, h with
  | [], _, h => exact ⟨[u, v, w], t, rfl, h⟩
  | [x], _, h => exact ⟨[v, w], t, rfl, (Tr.nd.inj h).2⟩
  | [x, y], _, h => exact ⟨[w], t, rfl, (Tr.nd.inj (Tr.nd.inj h).2).2⟩
/-- a letter B, C, I that lacks words has an arrow for each -/
theorem lacks {W : Tr → Prop} {G : Nat → Tr} {code : Nat} (hc : code = 256 ∨ code = 257 ∨ code = 258) {r : List Tr} {A : Tr} (h : Pt W G (.lf code :: r) A) : ∃ Us a, Us.length = arity code - r.length ∧ A = arrows Us a := by
  obtain ⟨As, h1, h2⟩ := h.out
  rw [h1.len]
  by_cases hr : arity code ≤ As.length
  · exact ⟨[], A, (Nat.sub_eq_zero_of_le hr).symm, rfl⟩
  · have hr := Nat.lt_of_not_le hr
    rcases hc with rfl | rfl | rfl
    · obtain ⟨p, q, s, e⟩ := h2.b_inv
      exact arr3 e hr
    · obtain ⟨p, q, s, e⟩ := h2.c_inv
      exact arr3 e hr
    · obtain ⟨p, e⟩ := h2.i_inv
      match As, hr, e with
      | [], _, e => exact ⟨[p], p, rfl, e⟩

end
section
-- PLAIN
theorem lvs_cons (t : Tr) (ts : List Tr) : lvs (t :: ts) = t.lv ++ lvs ts := rfl
theorem lvs_append (a b : List Tr) : lvs (a ++ b) = lvs a ++ lvs b := List.flatMap_append
theorem more_count {v : Nat} (c : Nat) : ∀ k, (lvs (more c k)).count v = if c ≤ v ∧ v < c + k then 1 else 0
  | 0 => by
    rw [if_neg (by lia)]; rfl
  | k + 1 => by
    rw [more_succ, lvs_append, List.count_append, more_count c k]
    show _ + [c + k].count v = _
    rw [List.count_singleton, show (c + k == v) = decide (c + k = v) from rfl]
    by_cases e : c + k = v
    · rw [if_neg (show ¬ (c ≤ v ∧ v < c + k) by lia), if_pos (decide_eq_true e), if_pos (by lia)]
    · rw [decide_eq_false e]
      by_cases q : c ≤ v ∧ v < c + k
      · rw [if_pos q, if_pos (show c ≤ v ∧ v < c + (k + 1) by lia)]; rfl
      · rw [if_neg q, if_neg (show ¬ (c ≤ v ∧ v < c + (k + 1)) by lia)]; rfl
theorem ctr_count {code : Nat} {r r' : List Tr} (he : ctr code r = some r') (v : Nat) : (lvs r').count v = (lvs r).count v := by
  match r with
  | [] => simp [ctr] at he; rw [he]
  | [_] => simp [ctr] at he; rw [he]
  | [_, _] => simp [ctr] at he; rw [he]
  | x :: y :: z :: r =>
    simp only [ctr] at he
    split at he
    · simp only [Option.some.injEq] at he
      subst he
      simp [lvs_cons, Tr.lv]
    · split at he
      · simp only [Option.some.injEq] at he
        subst he
        simp [lvs_cons, Tr.lv]; lia
      · simp only [Option.some.injEq] at he
        subst he; rfl
theorem ctr_len {code : Nat} {r r' : List Tr} (he : ctr code r = some r') (p : Nat → Bool) : (lvs r').countP p = (lvs r).countP p := by
  match r with
  | [] => simp [ctr] at he; rw [he]
  | [_] => simp [ctr] at he; rw [he]
  | [_, _] => simp [ctr] at he; rw [he]
  | x :: y :: z :: r =>
    simp only [ctr] at he
    split at he
    · simp only [Option.some.injEq] at he
      subst he
      simp [lvs_cons, Tr.lv]
    · split at he
      · simp only [Option.some.injEq] at he
        subst he
        simp [lvs_cons, Tr.lv]; lia
      · simp only [Option.some.injEq] at he
        subst he; rfl
/-- no letter is lost or doubled -/
theorem FrontB.count {k c y c' : Nat} {ts rs : List Tr} (h : FrontB k ts c y c' rs) {v : Nat} (hv : 300 ≤ v) : (lvs ts).count v + (if c ≤ v ∧ v < c' then 1 else 0) = (if v = y + 300 then 1 else 0) + (lvs rs).count v := by
  induction h with
  | var hn _ =>
    rename_i n c r _
    rw [if_neg (by lia), lvs_cons, List.count_append]
    show [n].count v + _ + 0 = _
    rw [List.count_singleton]
    by_cases e : n = v
    · subst e; rw [if_pos (by simp), if_pos (Nat.sub_add_cancel hn).symm]; lia
    · rw [if_neg (by simpa using e), if_neg (by rw [Nat.sub_add_cancel hn]; exact fun q => e q.symm)]; lia
  | app _ _ ih =>
    rw [← ih]
    simp [lvs_cons, Tr.lv, Nat.add_assoc]
  | comb hc _ _ he hf ih =>
    rename_i k c y c' code r r' rs _ _
    have h1 := ctr_count he v
    rw [lvs_append, List.count_append, more_count] at h1
    rw [← ih, h1, lvs_cons, List.count_append]
    show [code].count v + _ + _ = _
    have hcv : code < v := Nat.lt_of_lt_of_le (by rcases hc with rfl | rfl | rfl <;> decide) hv
    rw [List.count_singleton, if_neg (by simpa using Nat.ne_of_lt hcv)]
    have hl := hf.le
    generalize arity code - r.length = m at *
    by_cases a1 : c ≤ v ∧ v < c + m
    · rw [if_pos a1, if_neg (fun q : c + m ≤ v ∧ v < c' => Nat.not_le.mpr a1.2 q.1), if_pos ⟨a1.1, Nat.lt_of_lt_of_le a1.2 hl.1⟩]; lia
    · rw [if_neg a1]
      by_cases a2 : c + m ≤ v ∧ v < c'
      · rw [if_pos a2, if_pos ⟨Nat.le_trans (Nat.le_add_right c m) a2.1, a2.2⟩]; lia
      · rw [if_neg a2, if_neg (by lia)]; lia
/-- the letters B, C, I in a pile -/
noncomputable def combs (ts : List Tr) : Nat := (lvs ts).countP (· < 300)
/-- what a pile weighs -/
noncomputable def wt (ts : List Tr) : Nat := (lvs ts).length + 2 * combs ts
theorem combs_append (a b : List Tr) : combs (a ++ b) = combs a + combs b := by simp [combs, lvs_append]
theorem combs_cons (t : Tr) (b : List Tr) : combs (t :: b) = combs [t] + combs b := by
  rw [← combs_append]; rfl
theorem wt_append (a b : List Tr) : wt (a ++ b) = wt a + wt b := by simp [wt, combs_append, lvs_append]; lia
theorem wt_cons (t : Tr) (b : List Tr) : wt (t :: b) = wt [t] + wt b := by
  rw [← wt_append]; rfl
theorem wt_pos (t : Tr) : 1 ≤ wt [t] := by
  have := Tr.lv_pos t
  simp [wt, lvs]; lia
theorem len_lvs : ∀ ts : List Tr, ts.length ≤ (lvs ts).length
  | [] => Nat.le_refl _
  | t :: ts => by
    have h1 := Tr.lv_pos t
    have h2 := len_lvs ts
    rw [lvs_cons, List.length_append, List.length_cons]; lia
theorem more_combs {c : Nat} (hc : 300 ≤ c) : ∀ k, combs (more c k) = 0
  | 0 => rfl
  | k + 1 => by
    rw [more_succ, combs_append, more_combs hc k]
    simp [combs, lvs, Tr.lv]; lia
theorem more_len (c k : Nat) : (lvs (more c k)).length = k := by
  induction k with
  | zero => rfl
  | succ k ih => rw [more_succ, lvs_append, List.length_append, ih]; rfl
theorem more_mem {c k v : Nat} (h : v ∈ lvs (more c k)) : c ≤ v ∧ v < c + k := by
  have := List.count_pos_iff.mpr h
  rw [more_count] at this
  by_cases e : c ≤ v ∧ v < c + k
  · exact e
  · rw [if_neg e] at this; lia
theorem arity_le {code : Nat} (hc : code = 256 ∨ code = 257 ∨ code = 258) : 1 ≤ arity code ∧ arity code ≤ 3 := by
  rcases hc with rfl | rfl | rfl <;> decide
/-- the letters of the terms that wait: known, or made till now -/
noncomputable def Gd (c : Nat) (ts : List Tr) : Prop := ∀ v ∈ lvs ts, v = 256 ∨ v = 257 ∨ v = 258 ∨ (300 ≤ v ∧ v < c)
theorem Tr.ok_of : ∀ {t : Tr}, (∀ v ∈ t.lv, 256 ≤ v) → t.Ok
  | .lf n, h => h n (List.mem_singleton.mpr rfl)
  | .nd a b, h => ⟨Tr.ok_of fun v hv => h v (List.mem_append_left _ hv), Tr.ok_of fun v hv => h v (List.mem_append_right _ hv)⟩
theorem Tr.Ok.mem : ∀ {t : Tr}, t.Ok → ∀ v ∈ t.lv, 256 ≤ v
  | .lf n, h, v, hv => by rw [List.mem_singleton.mp hv]; exact h
  | .nd a b, h, v, hv => by
    rcases List.mem_append.mp hv with q | q
    · exact Tr.Ok.mem h.1 v q
    · exact Tr.Ok.mem h.2 v q
theorem mem_lvs {ts : List Tr} {t : Tr} (h : t ∈ ts) {v : Nat} (hv : v ∈ t.lv) : v ∈ lvs ts := List.mem_flatMap.mpr ⟨t, h, hv⟩
theorem lv_le_lvs : ∀ {ts : List Tr} {t : Tr}, t ∈ ts → t.lv.length ≤ (lvs ts).length
  | t' :: ts, t, h => by
    rw [lvs_cons, List.length_append]
    rcases List.mem_cons.mp h with rfl | h
    · lia
    · have := lv_le_lvs h; lia
theorem okp_of {ts : List Tr} {c : Nat} (h : Gd c ts) (hw : wt ts ≤ 300) (h1 : 300 ≤ c) (h2 : c ≤ 1000) : OkP ts c := by
  have hl : (lvs ts).length ≤ 300 := by unfold wt at hw; lia
  refine ⟨fun t ht => ⟨Tr.ok_of fun v hv => ?_, ?_⟩, ?_, h1, h2⟩
  · have := h v (mem_lvs ht hv); lia
  · have := lv_le_lvs ht
    have := Tr.enc_len 49 t
    lia
  · have := len_lvs ts; lia
theorem Gd.mono {c c' : Nat} {ts : List Tr} (h : Gd c ts) (hc : c ≤ c') : Gd c' ts := fun v hv => (h v hv).imp id (Or.imp id (Or.imp id fun q => ⟨q.1, Nat.lt_of_lt_of_le q.2 hc⟩))
/-- the front is reached -/
theorem front_ex (p : List Tr) (c : Nat) (hne : p ≠ []) (hg : Gd c p) (hw : wt p ≤ 300) (h1 : 300 ≤ c) (h2 : c + 3 * combs p ≤ 1000) :
    ∃ k y c' rs, FrontB k p c y c' rs ∧ Gd c' rs ∧ wt rs + 1 ≤ wt p ∧ c' + 3 * combs rs ≤ c + 3 * combs p ∧ c ≤ c' ∧ c ≤ y + 300 + c ∧ y + 300 < c' := by
  have hok := okp_of hg hw h1 (by lia)
  match p, hne with
  | .nd f a :: r, _ =>
    have e1 : lvs (f :: a :: r) = lvs (.nd f a :: r) := by simp [lvs_cons, Tr.lv]
    have e2 : combs (f :: a :: r) = combs (.nd f a :: r) := by unfold combs; rw [e1]
    have e3 : wt (f :: a :: r) = wt (.nd f a :: r) := by unfold wt; rw [e1, e2]
    obtain ⟨k, y, c', rs, hf, q1, q2, q3, q4⟩ := front_ex (f :: a :: r) c (by simp) (fun v hv => hg v (e1 ▸ hv)) (by lia) h1 (by lia)
    exact ⟨k + 1, y, c', rs, .app hok hf, q1, by lia, by lia, q4⟩
  | .lf n :: r, _ =>
    have hn := hg n (mem_lvs List.mem_cons_self (List.mem_singleton.mpr rfl))
    have el : lvs (.lf n :: r) = n :: lvs r := rfl
    by_cases h300 : 300 ≤ n
    · refine ⟨0, n - 300, c, r, .var h300 hok, fun v hv => hg v (by rw [el]; exact List.mem_cons_of_mem _ hv), ?_, ?_, Nat.le_refl _, by lia, by rw [Nat.sub_add_cancel h300]; lia⟩
      · rw [wt_cons]; have := wt_pos (.lf n); lia
      · rw [combs_cons]; lia
    · have hc : n = 256 ∨ n = 257 ∨ n = 258 := by lia
      have har : arity n - r.length ≤ 3 := Nat.le_trans (Nat.sub_le _ _) (arity_le hc).2
      have har1 : 1 ≤ r.length + (arity n - r.length) := by have := (arity_le hc).1; rw [Nat.add_comm]; exact Nat.le_trans this (Nat.le_add_of_sub_le (Nat.le_refl _))
      generalize hmm : arity n - r.length = m at har har1
      have ec : combs (.lf n :: r) = combs r + 1 := by
        show List.countP _ (n :: lvs r) = _
        rw [List.countP_cons_of_pos (by simp; lia)]; rfl
      have ew : (lvs (.lf n :: r)).length = (lvs r).length + 1 := rfl
      match he : ctr n (r ++ more c m) with
      | none =>
        exfalso
        revert he
        unfold ctr
        split
        · split
          · simp
          · split <;> simp
        · simp
      | some r' =>
        have hlen : (lvs r').length = (lvs r).length + m := by
          have := ctr_len he (fun _ => true)
          simp only [List.countP_true, lvs_append, List.length_append, more_len] at this
          exact this
        have hcm : combs r' = combs r := by
          have := ctr_len he (· < 300)
          unfold combs
          rw [this, lvs_append, List.countP_append]
          have e := more_combs h1 m
          unfold combs at e
          rw [e]; rfl
        have hgm : Gd (c + m) (r ++ more c m) := by
          intro v hv
          rw [lvs_append] at hv
          rcases List.mem_append.mp hv with hv | hv
          · exact (hg v (by rw [el]; exact List.mem_cons_of_mem _ hv)).imp id (Or.imp id (Or.imp id fun q => ⟨q.1, Nat.lt_add_right _ q.2⟩))
          · exact .inr (.inr (.inr ⟨Nat.le_trans h1 (more_mem hv).1, (more_mem hv).2⟩))
        have hg' : Gd (c + m) r' := by
          intro v hv
          refine hgm v ?_
          have := List.count_pos_iff.mpr hv
          rw [ctr_count he] at this
          exact List.count_pos_iff.mp this
        have hne' : r' ≠ [] := by
          intro e
          rw [e] at hlen
          have hl0 : (lvs ([] : List Tr)).length = 0 := rfl
          have := len_lvs r
          rw [hl0] at hlen
          lia
        have hw' : wt r' ≤ wt (.lf n :: r) := by unfold wt at *; lia
        have hwm : wt (r ++ more c m) ≤ 300 := by
          rw [wt_append]
          have := more_combs h1 m
          have := more_len c m
          unfold wt at *; lia
        have hdec : combs r' < combs (.lf n :: r) := by lia
        obtain ⟨k, y, c', rs, hf, q1, q2, q3, q4, q5, q6⟩ := front_ex r' (c + m) hne' hg' (by lia) (by lia) (by lia)
        subst hmm
        exact ⟨k + 1, y, c', rs, .comb hc hok (okp_of hgm hwm (by lia) (by lia)) he hf, q1, by lia, by lia, by lia, by lia, q6⟩
termination_by (combs p, (encs 49 p).length)
decreasing_by
  · have e1 : lvs (f :: a :: r) = lvs (.nd f a :: r) := by simp [lvs_cons, Tr.lv]
    have e2 : combs (f :: a :: r) = combs (.nd f a :: r) := by unfold combs; rw [e1]
    rw [e2]
    refine Prod.Lex.right _ ?_
    rw [encs_nd, List.length_cons]; lia
  · exact Prod.Lex.left _ _ hdec
/-- the end is reached -/
theorem end_ex : ∀ (m : Nat) (q : List Tr) (c : Nat), wt q ≤ m → Gd c q → wt q ≤ 300 → 300 ≤ c → c + 3 * combs q ≤ 1000 → ∃ rows, EndB q c rows ∧ rows.length ≤ wt q := by
  intro m
  induction m with
  | zero =>
    intro q c hm _ _ _ _
    match q with
    | [] => exact ⟨[], .nil, Nat.zero_le _⟩
    | t :: ts =>
      rw [wt_cons] at hm
      have := wt_pos t
      lia
  | succ m ih =>
    intro q c hm hg hw h1 h2
    match q with
    | [] => exact ⟨[], .nil, Nat.zero_le _⟩
    | t :: ts =>
      have e1 := wt_cons t ts
      have e2 := combs_cons t ts
      obtain ⟨k, y, c', rs, hf, q1, q2, q3, q4, q5, q6⟩ := front_ex [t] c (by simp) (fun v hv => hg v (by
        rw [lvs_cons] at hv ⊢
        rcases List.mem_append.mp hv with h | h
        · exact List.mem_append_left _ h
        · exact absurd h (by simp [lvs]))) (by lia) h1 (by lia)
      have hgn : Gd c' (ts ++ rs) := by
        intro v hv
        rw [lvs_append] at hv
        rcases List.mem_append.mp hv with h | h
        · exact (hg v (by rw [lvs_cons]; exact List.mem_append_right _ h)).imp id (Or.imp id (Or.imp id fun q => ⟨q.1, Nat.lt_of_lt_of_le q.2 q4⟩))
        · exact q1 v h
      have e3 := wt_append ts rs
      have e4 := combs_append ts rs
      obtain ⟨rows, hr, hl⟩ := ih (ts ++ rs) c' (by lia) hgn (by lia) (by lia) (by lia)
      refine ⟨_, .step hf ?_ hr, ?_⟩
      · have := len_lvs ts
        have hx : (lvs ts).length ≤ wt ts := by unfold wt; lia
        lia
      · simp only [List.length_cons]; lia

end
section
-- PLAIN
/-- steps back: what the front's letter has by its words, the pile has -/
theorem front_exp {W : Nat → Tr → Prop} (hW : Cl W) {k c y c' : Nat} {p rs : List Tr} (h : FrontB k p c y c' rs) {G : Nat → Tr} (hG : ∀ v, c ≤ v → v < c' → W 0 (G v)) :
    ∀ {j : Nat} {a : Tr}, Pt (W (combs rs + j)) G (.lf (y + 300) :: rs) a → Pt (W (combs p + j)) G p (arrows (news G c (c' - c)) a) := by
  induction h with
  | var hn _ =>
    intro j a h
    rename_i n c r _
    rw [Nat.sub_self]
    rw [Nat.sub_add_cancel hn] at h
    rw [combs_cons]
    exact h.mono fun _ => hW.le (by lia)
  | app _ _ ih =>
    intro j a h
    rename_i f a' r _ _ _
    have e1 : lvs (f :: a' :: r) = lvs (.nd f a' :: r) := by simp [lvs_cons, Tr.lv]
    have e2 : combs (f :: a' :: r) = combs (.nd f a' :: r) := by unfold combs; rw [e1]
    have := ih hG h
    rw [e2] at this
    exact Pt.app_out hW this
  | comb hc hok _ he hf ih =>
    intro j a h
    rename_i k c y c' code r r' rs _
    have hl := hf.le
    have h300 : 300 ≤ c := hok.2.2.1
    have e1 : combs (.lf code :: r) = combs r' + 1 := by
      have := ctr_len he (· < 300)
      rw [combs_cons]
      unfold combs
      rw [this, lvs_append, List.countP_append]
      have e := more_combs h300 (arity code - r.length)
      unfold combs at e
      rw [e]
      have : [code].countP (· < 300) = 1 := by rw [List.countP_cons_of_pos (by simp; lia)]; rfl
      simp [lvs, Tr.lv]
      rcases hc with h | h | h <;> simp [h] <;> lia
    have h1 := ih (fun v h1 h2 => hG v (by lia) h2) h
    have ha : arity code ≤ (r ++ more c (arity code - r.length)).length := by rw [List.length_append, more_length, Nat.add_comm]; exact Nat.le_add_of_sub_le (Nat.le_refl _)
    have h2 := ctr_exp hW hc ha he h1
    have h3 := Pt.eta hW h300 h2
    rw [← arrows_append, ← news_add] at h3
    rw [Nat.sub_add_eq, Nat.add_sub_of_le (Nat.le_sub_of_add_le (Nat.add_comm c _ ▸ hl.1))] at h3
    rw [e1, Nat.add_right_comm]
    exact h3
/-- the types of the letters that were made -/
noncomputable def gof (hs : List Tr) (n : Nat) : Tr := hs.getD (n - 300) (.lf 0)
theorem gof_append {hs Us : List Tr} {n : Nat} (h1 : 300 ≤ n) (h2 : n < 300 + hs.length) : gof (hs ++ Us) n = gof hs n := by
  unfold gof
  rw [List.getD_eq_getElem?_getD, List.getD_eq_getElem?_getD, List.getElem?_append_left (Nat.sub_lt_left_of_lt_add h1 h2)]
theorem news_gof (hs : List Tr) : ∀ Us : List Tr, news (gof (hs ++ Us)) (300 + hs.length) Us.length = Us := by
  intro Us
  refine List.ext_getElem (by rw [news_length]) fun i h1 h2 => ?_
  simp only [news, List.getElem_map, List.getElem_range, gof]
  rw [Nat.add_assoc, Nat.add_sub_cancel_left, List.getD_eq_getElem?_getD, List.getElem?_append_right (Nat.le_add_right _ _), Nat.add_sub_cancel_left, List.getElem?_eq_getElem h2]
  rfl
/-- steps ahead: the type stays, and it has an arrow for each new letter -/
theorem front_red {k c y c' : Nat} {p rs : List Tr} (h : FrontB k p c y c' rs) : ∀ {hs : List Tr} {A : Tr}, c = 300 + hs.length → Pt (fun _ => True) (gof hs) p A → (∀ v ∈ lvs p, v < c) →
    ∃ Us a, c' = c + Us.length ∧ A = arrows Us a ∧ Pt (fun _ => True) (gof (hs ++ Us)) (.lf (y + 300) :: rs) a := by
  induction h with
  | var hn _ =>
    intro hs A hc h _
    refine ⟨[], A, rfl, rfl, ?_⟩
    rw [List.append_nil, Nat.sub_add_cancel hn]
    exact h
  | app _ _ ih =>
    intro hs A hc h hv
    exact ih hc h.app_in fun v hv' => hv v (by simpa [lvs_cons, Tr.lv] using hv')
  | comb hcode hok _ he hf ih =>
    intro hs A hc h hv
    rename_i k c y c' code r r' rs _
    have h300 : 300 ≤ c := hok.2.2.1
    obtain ⟨Us, A0, hl, rfl⟩ := lacks hcode h
    have h1 : Pt (fun _ => True) (gof (hs ++ Us)) (.lf code :: r) (arrows (news (gof (hs ++ Us)) c (arity code - r.length)) A0) := by
      rw [hc, ← hl, news_gof]
      refine h.congr fun v hv' h3 => (gof_append h3 ?_).symm
      have := hv v hv'
      lia
    have h2 := Pt.eta' h300 h1
    have ha : arity code ≤ (r ++ more c (arity code - r.length)).length := by rw [List.length_append, more_length, Nat.add_comm]; exact Nat.le_add_of_sub_le (Nat.le_refl _)
    have h3 := ctr_red hcode ha he h2
    obtain ⟨Us', a, e1, e2, h4⟩ := ih (hs := hs ++ Us) (by rw [List.length_append]; lia) h3 (by
      intro v hv'
      have := List.count_pos_iff.mpr hv'
      rw [ctr_count he, lvs_append] at this
      rcases List.mem_append.mp (List.count_pos_iff.mp this) with q | q
      · have := hv v (by rw [lvs_cons]; exact List.mem_append_right _ q); lia
      · exact (more_mem q).2)
    refine ⟨Us ++ Us', a, by rw [e1, List.length_append]; lia, by rw [e2, arrows_append], ?_⟩
    rw [← List.append_assoc]
    exact h4
/-- the types of an end: a letter's type ends in the letter itself -/
inductive EndY (G : Nat → Tr) : List Tr → Nat → List (Nat × Nat × Nat) → List Tr → Prop
  | nil {c : Nat} : EndY G [] c [] []
  | step {k c y c' : Nat} {t : Tr} {ts rs As Bs : List Tr} {rows : List (Nat × Nat × Nat)} : FrontB k [t] c y c' rs → G (y + 300) = arrows Bs (.lf (y + 300)) → Bs.length = rs.length → As.length = ts.length →
      EndY G (ts ++ rs) c' rows (As ++ Bs) → EndY G (t :: ts) c ((c' - c, y, rs.length) :: rows) (arrows (news G c (c' - c)) (.lf (y + 300)) :: As)
theorem EndY.len {G : Nat → Tr} {q As : List Tr} {c : Nat} {rows : List (Nat × Nat × Nat)} (h : EndY G q c rows As) : As.length = q.length := by
  cases h with
  | nil => rfl
  | step _ _ _ h _ => simp [h]
/-- each letter stands once at most, and was made -/
noncomputable def Lin (q : List Tr) (c : Nat) : Prop := ∀ v, 300 ≤ v → (lvs q).count v ≤ 1 ∧ (v ∈ lvs q → v < c)
theorem one_lv (t : Tr) : lvs [t] = t.lv := by simp [lvs]
theorem Lin.next {k c y c' : Nat} {t : Tr} {ts rs : List Tr} (hf : FrontB k [t] c y c' rs) (h : Lin (t :: ts) c) : Lin (ts ++ rs) c' ∧ y + 300 ∉ lvs (ts ++ rs) ∧ (y + 300 ∈ t.lv ∨ c ≤ y + 300 ∧ y + 300 < c') := by
  have hle := hf.le.1
  have key : ∀ v, 300 ≤ v → (lvs (ts ++ rs)).count v + (if v = y + 300 then 1 else 0) ≤ 1 ∧ (v ∈ lvs (ts ++ rs) → v < c') := by
    intro v hv
    have h1 := hf.count hv
    obtain ⟨h2, h3⟩ := h v hv
    rw [lvs_cons, List.count_append] at h2
    rw [one_lv] at h1
    rw [lvs_append, List.count_append]
    have h4 : ∀ l : List Nat, v ∈ l ↔ 0 < l.count v := fun l => List.count_pos_iff.symm
    rw [h4, lvs_cons, List.count_append] at h3
    rw [h4, List.count_append]
    by_cases e : c ≤ v ∧ v < c'
    · rw [if_pos e] at h1
      lia
    · rw [if_neg e] at h1
      lia
  refine ⟨fun v hv => ⟨by have := (key v hv).1; lia, (key v hv).2⟩, fun hm => ?_, ?_⟩
  · have := (key (y + 300) (by lia)).1
    rw [if_pos rfl] at this
    have := List.count_pos_iff.mpr hm
    lia
  · have h1 := hf.count (v := y + 300) (by lia)
    rw [if_pos rfl, one_lv] at h1
    by_cases e : c ≤ y + 300 ∧ y + 300 < c'
    · exact .inr e
    · rw [if_neg e] at h1
      exact .inl (List.count_pos_iff.mp (by lia))
/-- a letter among the words was in the job, or is new -/
theorem FrontB.from {k c y c' : Nat} {t : Tr} {rs : List Tr} (hf : FrontB k [t] c y c' rs) {v : Nat} (hv : 300 ≤ v) (hm : v ∈ lvs rs) : v ∈ t.lv ∨ c ≤ v ∧ v < c' := by
  have h1 := hf.count hv
  rw [one_lv] at h1
  by_cases e : c ≤ v ∧ v < c'
  · exact .inr e
  · rw [if_neg e] at h1
    have := List.count_pos_iff.mpr hm
    exact .inl (List.count_pos_iff.mp (by lia))
theorem FrontB.to {k c y c' : Nat} {t : Tr} {rs : List Tr} (hf : FrontB k [t] c y c' rs) {v : Nat} (hv : 300 ≤ v) (hm : v ∈ t.lv ∨ c ≤ v ∧ v < c') : v = y + 300 ∨ v ∈ lvs rs := by
  have h1 := hf.count hv
  rw [one_lv] at h1
  by_cases e : v = y + 300
  · exact .inl e
  · rw [if_neg e] at h1
    refine .inr (List.count_pos_iff.mp ?_)
    rcases hm with hm | hm
    · have := List.count_pos_iff.mpr hm
      lia
    · rw [if_pos hm] at h1
      lia
theorem EndY.congr {G G' : Nat → Tr} {q As : List Tr} {c : Nat} {rows : List (Nat × Nat × Nat)} (h : EndY G q c rows As) (hc : 300 ≤ c) (hG : ∀ v, 300 ≤ v → (v ∈ lvs q ∨ c ≤ v) → G v = G' v) : EndY G' q c rows As := by
  induction h with
  | nil => exact .nil
  | step hf hy hl hl2 _ ih =>
    rename_i k c y c' t ts rs As Bs rows _
    have hle := hf.le.1
    have e1 : news G c (c' - c) = news G' c (c' - c) := List.map_congr_left fun i _ => hG _ (by lia) (.inr (by lia))
    rw [e1]
    refine .step hf ?_ hl hl2 (ih (by lia) fun v hv hm => hG v hv ?_)
    · rw [← hy]
      refine (hG _ (by lia) ?_).symm
      have h1 := hf.count (v := y + 300) (by lia)
      rw [if_pos rfl, one_lv] at h1
      by_cases e : c ≤ y + 300 ∧ y + 300 < c'
      · exact .inr e.1
      · rw [if_neg e] at h1
        exact .inl (List.mem_append_left _ (List.count_pos_iff.mp (by lia)))
    · rcases hm with hm | hm
      · rw [lvs_append] at hm
        rcases List.mem_append.mp hm with hm | hm
        · exact .inl (by rw [lvs_cons]; exact List.mem_append_right _ hm)
        · rcases hf.from hv hm with q | q
          · exact .inl (by rw [lvs_cons]; exact List.mem_append_left _ q)
          · exact .inr q.1
      · exact .inr (by lia)
/-- an end has types -/
theorem endy_ex {q : List Tr} {c : Nat} {rows : List (Nat × Nat × Nat)} (h : EndB q c rows) (hc : 300 ≤ c) (hl : Lin q c) : ∃ G As, EndY G q c rows As := by
  induction h with
  | nil => exact ⟨fun _ => .lf 0, [], .nil⟩
  | step hf _ _ ih =>
    rename_i k c y c' t ts rs rows _ _
    obtain ⟨hl1, hy, _⟩ := hl.next hf
    have hle := hf.le.1
    obtain ⟨G, ABs, hE⟩ := ih (Nat.le_trans hc hle) hl1
    have e := hE.len
    rw [List.length_append] at e
    obtain ⟨As, Bs, rfl, ha, hb⟩ : ∃ As Bs, ABs = As ++ Bs ∧ As.length = ts.length ∧ Bs.length = rs.length :=
      ⟨ABs.take ts.length, ABs.drop ts.length, (List.take_append_drop _ _).symm, by rw [List.length_take, e, Nat.min_eq_left (Nat.le_add_right _ _)], by rw [List.length_drop, e, Nat.add_sub_cancel_left]⟩
    refine ⟨fun v => if v = y + 300 then arrows Bs (.lf (y + 300)) else G v, _, .step hf (if_pos rfl) hb ha (hE.congr (by lia) fun v hv hm => ?_)⟩
    rw [if_neg]
    rintro rfl
    rcases hm with hm | hm
    · exact hy hm
    · have := (hl (y + 300) (by lia)).2
      have h3 := hl.next hf
      rcases h3.2.2 with q | q
      · have := this (by rw [lvs_cons]; exact List.mem_append_left _ q)
        lia
      · lia
theorem EndY.tail {G : Nat → Tr} {q As : List Tr} {c : Nat} {rows : List (Nat × Nat × Nat)} (h : EndY G q c rows As) {v : Nat} (hv : 300 ≤ v) (hm : v ∈ lvs q) : (G v).tl = v := by
  induction h with
  | nil => exact absurd hm (by simp [lvs])
  | step hf hy hl hl2 _ ih =>
    rw [lvs_append, List.mem_append] at ih
    rw [lvs_cons] at hm
    rcases List.mem_append.mp hm with hm | hm
    · rcases hf.to hv (.inl hm) with e | e
      · rw [e, hy, tl_arrows]; rfl
      · exact ih (.inr e)
    · exact ih (.inl hm)

end
section
-- PLAIN
theorem sum_map_le {α : Type} (f : α → Nat) {x : α} : ∀ {l : List α}, x ∈ l → f x ≤ (l.map f).sum
  | y :: l, h => by
    rw [List.map_cons, List.sum_cons]
    rcases List.mem_cons.mp h with rfl | h
    · lia
    · have := sum_map_le f h; lia
theorem len_le_sum {α : Type} (f : α → Nat) (hf : ∀ x, 1 ≤ f x) : ∀ l : List α, l.length ≤ (l.map f).sum
  | [] => Nat.le_refl _
  | y :: l => by
    rw [List.map_cons, List.sum_cons, List.length_cons]
    have := hf y
    have := len_le_sum f hf l
    lia
/-- the letters of terms that are not B, C, I -/
noncomputable def vrs (q : List Tr) : List Nat := (lvs q).filter (300 ≤ ·)
theorem mem_vrs {q : List Tr} {v : Nat} : v ∈ vrs q ↔ v ∈ lvs q ∧ 300 ≤ v := by simp [vrs]
theorem vrs_append (a b : List Tr) : vrs (a ++ b) = vrs a ++ vrs b := by simp [vrs, lvs_append]
theorem vrs_cons (t : Tr) (b : List Tr) : vrs (t :: b) = vrs [t] ++ vrs b := by rw [← vrs_append]; rfl
theorem FrontB.perm {k c y c' : Nat} {ts rs : List Tr} (h : FrontB k ts c y c' rs) (hc : 300 ≤ c) : (vrs ts ++ lvs (more c (c' - c))).Perm ((y + 300) :: vrs rs) := by
  have hle := h.le.1
  refine List.perm_iff_count.mpr fun v => ?_
  rw [List.count_append, List.count_cons, more_count]
  by_cases hv : 300 ≤ v
  · have h1 := h.count hv
    unfold vrs
    rw [List.count_filter (by simpa using hv), List.count_filter (by simpa using hv)]
    have e1 : (if c ≤ v ∧ v < c + (c' - c) then 1 else 0) = (if c ≤ v ∧ v < c' then 1 else 0) := by
      rw [Nat.add_sub_of_le hle]
    have e2 : (if (y + 300 == v) = true then 1 else 0) = (if v = y + 300 then 1 else 0) := by
      by_cases e : v = y + 300
      · subst e; simp
      · rw [if_neg e, if_neg]; simpa using fun q => e q.symm
    rw [e1, e2, h1, Nat.add_comm]
  · have h1 : ∀ q, (vrs q).count v = 0 := fun q => List.count_eq_zero.mpr fun hm => hv (mem_vrs.mp hm).2
    rw [h1, h1, if_neg (by lia), if_neg]
    simp; lia
theorem news_map (G : Nat → Tr) (c : Nat) : ∀ k, news G c k = (lvs (more c k)).map G
  | 0 => rfl
  | k + 1 => by
    rw [more_succ, lvs_append, news_add, List.map_append, news_map G c k]; rfl
theorem arrows_weigh {f g : Tr → Nat} (h : ∀ a b, f (.nd a b) = g a + f b) (x : Tr) : ∀ Us, f (arrows Us x) = (Us.map g).sum + f x
  | [] => by simp [arrows]
  | u :: us => by rw [arrows, h, arrows_weigh h x us, List.map_cons, List.sum_cons]; lia
/-- weights of the types of an end: each front's letter adds its own -/
theorem EndY.weigh {fp fn : Tr → Nat} (hp : ∀ a b, fp (.nd a b) = fn a + fp b) (hn : ∀ a b, fn (.nd a b) = fp a + fn b) {G : Nat → Tr} {q As : List Tr} {c : Nat} {rows : List (Nat × Nat × Nat)} (h : EndY G q c rows As) (hc : 300 ≤ c) :
    (As.map fn).sum + ((vrs q).map fun v => fp (G v)).sum = (rows.map fun r => fp (.lf (r.2.1 + 300)) + fn (.lf (r.2.1 + 300))).sum := by
  induction h with
  | nil => rfl
  | step hf hy hl hl2 _ ih =>
    rename_i k c y c' t ts rs As Bs rows _
    have hle := hf.le.1
    have h1 := ih (by lia)
    have h2 := ((hf.perm hc).map fun v => fp (G v)).sum_nat
    rw [List.map_append, List.sum_append_nat, List.map_cons, List.sum_cons, hy, arrows_weigh hp] at h2
    rw [vrs_append, List.map_append, List.map_append, List.sum_append_nat, List.sum_append_nat] at h1
    rw [vrs_cons, List.map_cons, List.sum_cons, List.map_append, List.sum_append_nat, List.map_cons, List.sum_cons, arrows_weigh hn, news_map, List.map_map]
    have e : ((lvs (more c (c' - c))).map (fp ∘ G)).sum = ((lvs (more c (c' - c))).map fun v => fp (G v)).sum := rfl
    rw [e]
    dsimp only
    lia
noncomputable def Tr.sz (t : Tr) : Nat := t.lv.length
theorem EndY.size {G : Nat → Tr} {q As : List Tr} {c : Nat} {rows : List (Nat × Nat × Nat)} (h : EndY G q c rows As) (hc : 300 ≤ c) : (As.map Tr.sz).sum + ((vrs q).map fun v => (G v).sz).sum = 2 * rows.length := by
  rw [h.weigh (fp := Tr.sz) (fn := Tr.sz) (fun a b => List.length_append) (fun a b => List.length_append) hc]
  show (rows.map fun _ => 2).sum = _
  clear h
  induction rows with
  | nil => rfl
  | cons r rows ih => rw [List.map_cons, List.sum_cons, ih, List.length_cons]; lia
/-- the front's letter's type is no more than twice the jobs -/
theorem EndY.size_of {G : Nat → Tr} {q As : List Tr} {c : Nat} {rows : List (Nat × Nat × Nat)} (h : EndY G q c rows As) (hc : 300 ≤ c) : (∀ A ∈ As, A.sz ≤ 2 * rows.length) ∧ (∀ v ∈ vrs q, (G v).sz ≤ 2 * rows.length) ∧ As.length ≤ 2 * rows.length := by
  have h1 := h.size hc
  refine ⟨fun A hA => ?_, fun v hv => ?_, ?_⟩
  · have := sum_map_le Tr.sz hA; lia
  · have := sum_map_le (fun v => (G v).sz) hv
    lia
  · have := len_le_sum Tr.sz (fun t => Tr.lv_pos t) As; lia
theorem sz_arrows (x : Tr) (Us : List Tr) : (arrows Us x).sz = (Us.map Tr.sz).sum + x.sz := arrows_weigh (fun _ _ => List.length_append) x Us
theorem EndY.head_size {G : Nat → Tr} {q As : List Tr} {c : Nat} {rows : List (Nat × Nat × Nat)} (h : EndY G q c rows As) (hc : 300 ≤ c) {k y c' : Nat} {t : Tr} {ts rs As' : List Tr} {x : Tr} (hq : q = t :: ts) (hf : FrontB k [t] c y c' rs) (hA : As = arrows (news G c (c' - c)) x :: As') :
    (G (y + 300)).sz ≤ 2 * rows.length ∧ ∀ v, c ≤ v → v < c' → (G v).sz ≤ 2 * rows.length := by
  subst hq hA
  have h1 := h.size_of hc
  have h2 : ∀ v, c ≤ v → v < c' → (G v).sz ≤ 2 * rows.length := by
    intro v hv1 hv2
    have h3 := h1.1 _ List.mem_cons_self
    rw [sz_arrows] at h3
    have : G v ∈ news G c (c' - c) := List.mem_map.mpr ⟨v - c, List.mem_range.mpr (Nat.sub_lt_sub_right hv1 hv2), by rw [Nat.add_sub_cancel' hv1]⟩
    have := sum_map_le Tr.sz this
    lia
  refine ⟨?_, h2⟩
  have h3 := (hf.perm hc).mem_iff.mpr (List.mem_cons_self (a := y + 300))
  rcases List.mem_append.mp h3 with h4 | h4
  · exact h1.2.1 _ (by rw [vrs_cons]; exact List.mem_append_left _ h4)
  · have := more_mem h4
    have hle := hf.le.1
    exact h2 _ this.1 (Nat.add_sub_of_le hle ▸ this.2)
theorem Pt.one {W : Tr → Prop} {G : Nat → Tr} {t A : Tr} (h : Pt W G [t] A) : Ty W G t A := by
  obtain ⟨As, h1, h2⟩ := h.out
  cases h1
  exact h2
theorem TyL.split2 {W : Tr → Prop} {G : Nat → Tr} {t t' A A' : List Tr} (h : TyL W G (t ++ t') (A ++ A')) (hl : A.length = t.length) : TyL W G t A ∧ TyL W G t' A' := by
  obtain ⟨A1, A2, e, h1, h2⟩ := h.split
  have := h1.len
  obtain ⟨rfl, rfl⟩ := List.append_inj e (by lia)
  exact ⟨h1, h2⟩
theorem FrontB.combs_le {k c y c' : Nat} {p rs : List Tr} (h : FrontB k p c y c' rs) : combs rs ≤ combs p := by
  induction h with
  | var _ _ => rw [combs_cons]; lia
  | app _ _ ih =>
    rename_i f a r _ _ _
    have e1 : lvs (f :: a :: r) = lvs (.nd f a :: r) := by simp [lvs_cons, Tr.lv]
    have e2 : combs (f :: a :: r) = combs (.nd f a :: r) := by unfold combs; rw [e1]
    lia
  | comb hc hok _ he hf ih =>
    rename_i k c y c' code r r' rs _
    have e1 : combs r' = combs r := by
      have := ctr_len he (· < 300)
      unfold combs
      rw [this, lvs_append, List.countP_append]
      have e := more_combs hok.2.2.1 (arity code - r.length)
      unfold combs at e
      rw [e]; rfl
    rw [combs_cons]
    lia
/-- an end's jobs have its types -/
theorem EndY.typed {G : Nat → Tr} {q As : List Tr} {c : Nat} {rows : List (Nat × Nat × Nat)} (h : EndY G q c rows As) (hc : 300 ≤ c) {N : Nat} (hN : 2 * rows.length ≤ N) : TyL (fun t => t.lv.length ≤ N * 4 ^ combs q) G q As := by
  induction h with
  | nil => exact .nil
  | step hf hy hl hl2 hE ih =>
    rename_i k c y c' t ts rs As Bs rows
    have hle := hf.le.1
    have hs := EndY.head_size (.step hf hy hl hl2 hE) hc rfl hf rfl
    rw [List.length_cons] at hN hs
    have h1 := ih (by lia) (by lia)
    obtain ⟨h2, h3⟩ := h1.split2 hl2
    rw [combs_append] at h2 h3
    have hNp : N ≤ N * 4 ^ combs ts := Nat.le_mul_of_pos_right _ (Nat.pow_pos (by lia))
    have hNq : N * 4 ^ combs ts ≤ N * 4 ^ combs ts * 4 ^ combs rs := Nat.le_mul_of_pos_right _ (Nat.pow_pos (by lia))
    have hC := Cl.size (N * 4 ^ combs ts)
    have hp : Pt (fun t => t.lv.length ≤ N * 4 ^ combs ts * 4 ^ (combs rs + 0)) G (.lf (y + 300) :: rs) (.lf (y + 300)) := by
      refine Pt.intro (As := Bs) (h3.mono fun t ht => ?_) ?_
      · rw [Nat.pow_add, ← Nat.mul_assoc] at ht; exact ht
      · rw [← hy]
        refine .var (by lia) ?_
        show (G (y + 300)).sz ≤ N * 4 ^ combs ts * 4 ^ combs rs
        lia
    have h4 := (front_exp hC hf (G := G) (fun v hv1 hv2 => by
      show (G v).sz ≤ N * 4 ^ combs ts * 1
      have := hs.2 v hv1 hv2
      lia) hp).one
    rw [combs_cons]
    refine .cons (h4.mono fun t ht => ?_) (h2.mono fun t ht => Nat.le_trans ht ?_)
    · rw [Nat.add_comm, Nat.pow_add, ← Nat.mul_assoc]; exact ht
    · have hcr := hf.combs_le
      exact Nat.mul_le_mul_left _ (Nat.pow_le_pow_right (by lia) (by lia))

end
section
-- PLAIN
/-- what _law_told notes: the types that wait, the sides ahead of arrows till now -/
inductive ToldB : List Tr → List Tr → List (Nat × Nat × Nat) → Prop
  | nil {hs : List Tr} : ToldB [] hs []
  | step {Us As Bs hs : List Tr} {y p : Nat} {rows : List (Nat × Nat × Nat)} : (arrows Us (.lf p)).Ok → (arrows Us (.lf p)).sz ≤ 200 → (arrows Bs (.lf p)).Ok → (arrows Bs (.lf p)).sz ≤ 200 → (hs ++ Us).length ≤ 800 → As.length ≤ 200 →
      ((hs ++ Us).map Tr.tl).Nodup → (hs ++ Us)[y]? = some (arrows Bs (.lf p)) → ToldB (As ++ Bs) (hs ++ Us) rows → ToldB (arrows Us (.lf p) :: As) hs ((Us.length, y, Bs.length) :: rows)
/-- every typing of the jobs is an case -/
noncomputable def Most (hs q As : List Tr) : Prop := ∀ G' As', TyL (fun _ => True) G' q As' → ∃ s, As' = As.map (Tr.inst s) ∧ ∀ v ∈ lvs q, 300 ≤ v → G' v = (gof hs v).inst s
theorem sz_lf (n : Nat) : (Tr.lf n).sz = 1 := rfl
theorem Tr.Ok.arrows : ∀ {Us : List Tr} {x : Tr}, (Mine.arrows Us x).Ok → (∀ u ∈ Us, u.Ok) ∧ x.Ok
  | [], x, h => ⟨nofun, h⟩
  | u :: us, x, h => ⟨List.forall_mem_cons.mpr ⟨h.1, (Tr.Ok.arrows h.2).1⟩, (Tr.Ok.arrows h.2).2⟩
theorem leaf_of {s : Nat → Tr} {a : Tr} {n : Nat} (h : a.inst s = .lf n) : ∃ p, a = .lf p := by
  cases a with
  | lf p => exact ⟨p, rfl⟩
  | nd a b => exact Tr.noConfusion h
theorem gof_at {hs : List Tr} {y : Nat} (h : y < hs.length) : hs[y]? = some (gof hs (y + 300)) := by
  unfold gof
  rw [Nat.add_sub_cancel, List.getD_eq_getElem?_getD, List.getElem?_eq_getElem h]; rfl
theorem TyL.to {W : Tr → Prop} {G G' : Nat → Tr} {t A : List Tr} {y : Nat} (h : TyL W G t A) (hy : y ∉ lvs t) (hG : ∀ v, v ≠ y → G v = G' v) : TyL W G' t A := h.congr fun v hv _ => hG v fun e => hy (e ▸ hv)
theorem told_end {G : Nat → Tr} {q A' : List Tr} {c : Nat} {rows : List (Nat × Nat × Nat)} (h : EndY G q c rows A') : ∀ {hs As : List Tr}, c = 300 + hs.length → Lin q c → TyL (fun _ => True) (gof hs) q As → Most hs q As →
    ∀ s : Nat → Tr, As.map (Tr.inst s) = A' → (∀ v, 300 ≤ v → v < c → (gof hs v).inst s = G v ∧ (G v).tl = v) → (∀ A ∈ As, A.Ok) → (∀ A ∈ hs, A.Ok) → 2 * rows.length ≤ 200 → ToldB As hs rows := by
  induction h with
  | nil =>
    intro hs As hc hl ht hm s hs' hv hok hok2 hr
    cases ht
    exact .nil
  | step hf hy hlB hlA hE ih =>
    rename_i k c y c' t ts rs As0 Bs rows
    intro hs As hc hl ht hm s hs' hv hok hok2 hr
    have h300 : 300 ≤ c := by lia
    have hsz := EndY.size_of (.step hf hy hlB hlA hE) h300
    have hhd := EndY.head_size (.step hf hy hlB hlA hE) h300 rfl hf rfl
    have hle := hf.le
    obtain ⟨hl1, hyn, hyt⟩ := hl.next hf
    rw [lvs_append] at hyn
    have hy1 : y + 300 ∉ lvs ts := fun q => hyn (List.mem_append_left _ q)
    have hy2 : y + 300 ∉ lvs rs := fun q => hyn (List.mem_append_right _ q)
    have hlt : ∀ v ∈ t.lv, 300 ≤ v → v < c := fun v hv h3 => (hl v h3).2 (by rw [lvs_cons]; exact List.mem_append_left _ hv)
    have hlts : ∀ v ∈ lvs ts, 300 ≤ v → v < c := fun v hv h3 => (hl v h3).2 (by rw [lvs_cons]; exact List.mem_append_right _ hv)
    cases ht with
    | cons hA ht =>
      rename_i A As
      have hlen := ht.len
      -- the job's type
      obtain ⟨Us, a, ec, rfl, hP⟩ := front_red hf hc (Pt.intro .nil hA) (by
        intro v hv'
        rw [one_lv] at hv'
        by_cases h3 : 300 ≤ v
        · exact hlt v hv' h3
        · lia)
      obtain ⟨Bs', hrs, hyT⟩ := hP.out
      have hlr := hrs.len
      have hyG : gof (hs ++ Us) (y + 300) = arrows Bs' a := by
        generalize hT : arrows Bs' a = T at hyT
        generalize hN : y + 300 = n at hyT
        cases hyT with
        | var _ _ => rfl
        | b _ => lia
        | c _ => lia
        | i _ => lia
      have hts : TyL (fun _ => True) (gof (hs ++ Us)) ts As := ht.congr fun v hv' h3 => (gof_append h3 (by have := hlts v hv' h3; lia)).symm
      have hkl : c' - c = Us.length := by rw [ec, Nat.add_sub_cancel_left]
      -- any typing of the next jobs is one of these
      have back : ∀ (G' : Nat → Tr) (As' Bs'' : List Tr) (e : Tr), TyL (fun _ => True) G' ts As' → TyL (fun _ => True) G' rs Bs'' → ∃ s', As' = As.map (Tr.inst s') ∧ a.inst s' = e ∧ Bs'' = Bs'.map (Tr.inst s') ∧ ∀ v ∈ lvs (ts ++ rs), 300 ≤ v → G' v = (gof (hs ++ Us) v).inst s' := by
        intro G' As' Bs'' e g1 g2
        obtain ⟨GG, eG, eY⟩ : ∃ GG : Nat → Tr, (∀ v, v ≠ y + 300 → G' v = GG v) ∧ GG (y + 300) = arrows Bs'' e :=
          ⟨fun v => if v = y + 300 then arrows Bs'' e else G' v, fun v hv' => (if_neg hv').symm, if_pos rfl⟩
        have g1' := g1.to hy1 eG
        have g2' := g2.to hy2 eG
        have g3 : Pt (fun _ => True) GG (.lf (y + 300) :: rs) e := by
          refine Pt.intro g2' ?_
          rw [← eY]
          exact .var (by lia) trivial
        have g4 := (front_exp (W := fun _ _ => True) Cl.triv hf (fun _ _ _ => trivial) (j := 0) g3).one
        obtain ⟨s', e1, e2⟩ := hm _ _ (.cons g4 g1')
        rw [List.map_cons, List.cons.injEq, arrows_inst] at e1
        obtain ⟨e1, e3⟩ := e1
        obtain ⟨e4, e5⟩ := arrows_inj (by rw [news_length, List.length_map]; lia) e1
        rw [hkl] at e4
        have hall : ∀ v, 300 ≤ v → (v ∈ lvs (t :: ts) ∨ c ≤ v ∧ v < c') → GG v = (gof (hs ++ Us) v).inst s' := by
          intro v h3 hv'
          by_cases hvc : v < c
          · rw [gof_append h3 (by lia)]
            rcases hv' with hv' | hv'
            · exact e2 v hv' h3
            · lia
          · rcases hv' with hv' | hv'
            · exact absurd ((hl v h3).2 hv') hvc
            · have := congrArg (fun l => l[v - c]?) e4
              simp only [news, List.getElem?_map] at this
              have h7 := Nat.not_lt.mp hvc
              have h6 : v - c < Us.length := hkl ▸ Nat.sub_lt_sub_right h7 hv'.2
              rw [List.getElem?_range h6, Option.map_some] at this
              rw [Nat.add_sub_of_le h7] at this
              have h5 : (hs ++ Us)[v - 300]? = Us[v - c]? := by rw [List.getElem?_append_right (Nat.le_sub_of_add_le (by rw [Nat.add_comm, ← hc]; exact h7)), Nat.sub_sub, ← hc]
              rw [List.getElem?_eq_getElem h6] at this h5
              simp only [Option.map_some, Option.some.injEq] at this
              simp only [gof, List.getD_eq_getElem?_getD, h5, Option.getD_some]
              exact this
        refine ⟨s', e3, e5.symm, ?_, ?_⟩
        · have := hall (y + 300) (by lia) (by
            rcases hyt with q | q
            · exact .inl (by rw [lvs_cons]; exact List.mem_append_left _ q)
            · exact .inr q)
          rw [eY, hyG, arrows_inst] at this
          exact (arrows_inj (by rw [List.length_map, ← g2.len, ← hlr]) this).1
        · intro v hv' h3
          have hne : v ≠ y + 300 := by
            rintro rfl
            rw [lvs_append] at hv'
            exact hyn hv'
          rw [eG v hne]
          refine hall v h3 ?_
          rw [lvs_append] at hv'
          rcases List.mem_append.mp hv' with q | q
          · exact .inl (by rw [lvs_cons]; exact List.mem_append_right _ q)
          · rcases hf.from h3 q with q | q
            · exact .inl (by rw [lvs_cons]; exact List.mem_append_left _ q)
            · exact .inr q
      -- the last of the job's type is a letter
      obtain ⟨p, rfl⟩ : ∃ p, a = .lf p := by
        obtain ⟨s', _, e, _⟩ := back _ _ _ (.lf 0) hts hrs
        exact leaf_of e
      have hlc : (hs ++ Us).length = c' - 300 := by rw [List.length_append, ec, hc, Nat.add_assoc, Nat.add_sub_cancel_left]
      -- the end's types are an case
      rw [List.map_cons, List.cons.injEq, arrows_inst] at hs'
      obtain ⟨e1, e2⟩ := hs'
      obtain ⟨e3, e4⟩ := arrows_inj (by rw [news_length, List.length_map]; lia) e1
      have hall : ∀ v, 300 ≤ v → v < c' → (gof (hs ++ Us) v).inst s = G v ∧ (G v).tl = v := by
        intro v h3 hv'
        by_cases hvc : v < c
        · rw [gof_append h3 (by lia)]
          exact hv v h3 hvc
        · refine ⟨?_, ?_⟩
          · have := congrArg (fun l => l[v - c]?) e3
            simp only [news, List.getElem?_map] at this
            have h7 := Nat.not_lt.mp hvc
            have h8 := Nat.sub_lt_sub_right h7 hv'
            rw [List.getElem?_range h8, Option.map_some] at this
            rw [Nat.add_sub_of_le h7] at this
            have h5 : (hs ++ Us)[v - 300]? = Us[v - c]? := by rw [List.getElem?_append_right (Nat.le_sub_of_add_le (by rw [Nat.add_comm, ← hc]; exact h7)), Nat.sub_sub, ← hc]
            have h6 : v - c < Us.length := hkl ▸ h8
            rw [List.getElem?_eq_getElem h6] at this h5
            simp only [Option.map_some, Option.some.injEq] at this
            simp only [gof, List.getD_eq_getElem?_getD, h5, Option.getD_some]
            exact this
          · rcases hf.to h3 (.inr ⟨by lia, hv'⟩) with e | e
            · rw [e, hy, tl_arrows]; rfl
            · exact hE.tail h3 (by rw [lvs_append]; exact List.mem_append_right _ e)
      have hyc : y + 300 < c' := by
        rcases hyt with q | q
        · have := hlt _ q (by lia); lia
        · exact q.2
      have hBs : Bs'.map (Tr.inst s) = Bs := by
        have := (hall (y + 300) (by lia) hyc).1
        rw [hyG, hy, arrows_inst] at this
        exact (arrows_inj (by rw [List.length_map, hlB, hlr]) this).1
      have hat : (hs ++ Us)[y]? = some (arrows Bs' (.lf p)) := by rw [← hyG]; exact gof_at (by rw [hlc]; exact Nat.lt_sub_of_add_lt hyc)
      have hokU := Tr.Ok.arrows (hok _ List.mem_cons_self)
      have hok3 : ∀ A ∈ hs ++ Us, A.Ok := fun A hA => (List.mem_append.mp hA).elim (hok2 A) (hokU.1 A)
      have hokB : (arrows Bs' (.lf p)).Ok := hok3 _ (List.mem_of_getElem? hat)
      rw [List.length_cons] at hr hsz hhd
      have hrow : (c' - c, y, rs.length) = (Us.length, y, Bs'.length) := by rw [hkl, hlr]
      rw [hrow]
      refine .step (hok _ List.mem_cons_self) ?_ hokB ?_ (by lia) ?_ ?_ hat ?_
      · have h1 := inst_size s (arrows Us (.lf p))
        have h2 := hsz.1 _ List.mem_cons_self
        rw [arrows_inst, e1] at h1
        unfold Tr.sz at *
        lia
      · have h1 := inst_size s (arrows Bs' (.lf p))
        rw [← hyG, (hall _ (by lia) hyc).1] at h1
        rw [← hyG]
        have := hhd.1
        unfold Tr.sz at *
        lia
      · have := hsz.2.2
        rw [List.length_cons] at this
        lia
      · refine List.pairwise_iff_getElem.mpr fun i j hi hj hij e => ?_
        rw [List.length_map] at hi hj
        rw [List.getElem_map, List.getElem_map] at e
        have hi' : gof (hs ++ Us) (i + 300) = (hs ++ Us)[i] := by have := gof_at hi; rw [List.getElem?_eq_getElem hi] at this; exact (Option.some.inj this).symm
        have hj' : gof (hs ++ Us) (j + 300) = (hs ++ Us)[j] := by have := gof_at hj; rw [List.getElem?_eq_getElem hj] at this; exact (Option.some.inj this).symm
        have a1 := hall (i + 300) (Nat.le_add_left _ _) (Nat.add_lt_of_lt_sub (hlc ▸ hi))
        have a2 := hall (j + 300) (Nat.le_add_left _ _) (Nat.add_lt_of_lt_sub (hlc ▸ hj))
        rw [hi'] at a1
        rw [hj'] at a2
        have b1 : ((hs ++ Us)[i].inst s).tl = i + 300 := by rw [a1.1]; exact a1.2
        have b2 : ((hs ++ Us)[j].inst s).tl = j + 300 := by rw [a2.1]; exact a2.2
        rw [tl_inst, e, ← tl_inst, b2] at b1
        lia
      · refine ih (by rw [List.length_append]; lia) hl1 (hts.append hrs) ?_ s (by rw [List.map_append, e2, hBs]) (fun v h3 hv' => hall v h3 hv') (fun A hA => ?_) hok3 (by lia)
        · intro G' ABs g
          obtain ⟨As', Bs'', rfl, g1, g2⟩ := g.split
          obtain ⟨s', q1, q3, q4, q5⟩ := back G' As' Bs'' (.lf 0) g1 g2
          exact ⟨s', by rw [q1, q4, List.map_append], q5⟩
        · rcases List.mem_append.mp hA with q | q
          · exact hok A (List.mem_cons_of_mem _ q)
          · exact (Tr.Ok.arrows hokB).1 A q

end
section
-- PLAIN
theorem Ty.closed {W : Tr → Prop} {G G' : Nat → Tr} {t A : Tr} (h : Ty W G t A) (ht : ∀ v ∈ t.lv, v = 256 ∨ v = 257 ∨ v = 258) : Ty W G' t A := h.congr fun v hv h3 => by have := ht v hv; lia
theorem comb_kind {code : Nat} (hc : code = 256 ∨ code = 257 ∨ code = 258) (c : Nat) : (∀ x ∈ (ctype code c).lv, c ≤ x ∧ x < c + 3) ∧ (∀ G, Ty (fun _ => True) G (.lf code) (ctype code c)) ∧ (∀ W G A, Ty W G (.lf code) A → ∃ s, A = (ctype code c).inst s) := by
  rcases hc with rfl | rfl | rfl
  · refine ⟨fun x hx => ?_, fun G => .b (x := .lf c) (y := .lf (c + 1)) (z := .lf (c + 2)) trivial, fun W G A h => ?_⟩
    · simp [ctype, Tr.lv] at hx; lia
    · cases h with
      | var h => lia
      | b h =>
        rename_i x y z
        refine ⟨fun n => if n = c then x else if n = c + 1 then y else z, ?_⟩
        simp [ctype, Tr.inst, bty]
  · refine ⟨fun x hx => ?_, fun G => .c (x := .lf c) (y := .lf (c + 1)) (z := .lf (c + 2)) trivial, fun W G A h => ?_⟩
    · simp [ctype, Tr.lv] at hx; lia
    · cases h with
      | var h => lia
      | c h =>
        rename_i x y z
        refine ⟨fun n => if n = c then x else if n = c + 1 then y else z, ?_⟩
        simp [ctype, Tr.inst, cty]
  · refine ⟨fun x hx => ?_, fun G => .i (x := .lf c) trivial, fun W G A h => ?_⟩
    · simp [ctype, Tr.lv] at hx; lia
    · cases h with
      | var h => lia
      | i h =>
        rename_i x
        exact ⟨fun n => x, by simp [ctype, Tr.inst]⟩
/-- the type that _law_kind makes: it is had, and every other is an case of it -/
theorem kind_ex {G : Nat → Tr} {N : Nat} (hN : N ≤ 200000) : ∀ (P A : Tr), Ty (fun t => t.lv.length ≤ N) G P A → (∀ v ∈ P.lv, v = 256 ∨ v = 257 ∨ v = 258) → ∀ (c : Nat) (ts : List Tr), 256 ≤ c → ts.length + P.lv.length ≤ 300 → c + 4 * P.lv.length ≤ 1000 →
    ∃ K c', c' + 1 ≤ c + 4 * P.lv.length ∧ c ≤ c' ∧ (∀ x ∈ K.lv, c ≤ x ∧ x < c') ∧ (∀ G, Ty (fun _ => True) G P K) ∧ (∀ G A, Ty (fun _ => True) G P A → ∃ s, A = K.inst s) ∧ ∀ ns res, KindB ns (K :: ts) c' res → KindB ((P.enc 49).reverse ++ ns) ts c res := by
  intro P
  induction P with
  | lf code =>
    intro A hA hP c ts hc hl hm
    have hcode := hP code (List.mem_singleton.mpr rfl)
    obtain ⟨h1, h2, h3⟩ := comb_kind hcode c
    have e1 : (Tr.lf code).lv.length = 1 := rfl
    rw [e1] at hl hm
    exact ⟨ctype code c, c + 3, by lia, by lia, h1, h2, fun G A => h3 _ G A, fun ns res h => .comb hcode (by lia) hc (by lia) h⟩
  | nd f a ihf iha =>
    intro A hA hP c ts hc hl hm
    have e1 : (Tr.nd f a).lv.length = f.lv.length + a.lv.length := List.length_append
    have hf1 := Tr.lv_pos f
    have ha1 := Tr.lv_pos a
    have hPf : ∀ v ∈ f.lv, v = 256 ∨ v = 257 ∨ v = 258 := fun v hv => hP v (List.mem_append_left _ hv)
    have hPa : ∀ v ∈ a.lv, v = 256 ∨ v = 257 ∨ v = 258 := fun v hv => hP v (List.mem_append_right _ hv)
    rw [e1] at hl hm
    cases hA with
    | app hB hf ha =>
      rename_i A0
      obtain ⟨Ka, c1, i1, i2, i3, i4, i5, i6⟩ := iha A0 ha hPa c ts hc (by lia) (by lia)
      obtain ⟨Kf, c2, j1, j2, j3, j4, j5, j6⟩ := ihf _ hf hPf c1 (Ka :: ts) (by lia) (by rw [List.length_cons]; lia) (by lia)
      -- a typing of both is a unifier
      have uni : ∀ G A0 A, Ty (fun _ => True) G f (.nd A0 A) → Ty (fun _ => True) G a A0 → ∃ s, Kf.inst s = .nd A0 A ∧ (Tr.nd Ka (.lf c2)).inst s = .nd A0 A ∧ (Tr.lf c2).inst s = A := by
        intro G A0 A h1 h2
        obtain ⟨s1, k1⟩ := j5 G _ h1
        obtain ⟨s2, k2⟩ := i5 G _ h2
        refine ⟨fun n => if n = c2 then A else if n < c1 then s2 n else s1 n, ?_, ?_, ?_⟩
        · rw [k1]
          refine inst_congr fun l hl => ?_
          have := j3 l hl
          rw [if_neg (by lia), if_neg (by lia)]
        · rw [k2]
          have e : Ka.inst (fun n => if n = c2 then A else if n < c1 then s2 n else s1 n) = Ka.inst s2 := by
            refine inst_congr fun l hl => ?_
            have := i3 l hl
            rw [if_neg (by lia), if_pos (by lia)]
          simp only [Tr.inst, e, if_true]
        · simp only [Tr.inst, if_true]
      have hT : ∀ t A, Ty (fun t => t.lv.length ≤ N) G t A → Ty (fun _ => True) G t A := fun t A h => h.mono fun _ _ => trivial
      obtain ⟨s, u1, u2, u3⟩ := uni G A0 A (hT _ _ hf) (hT _ _ ha)
      have hM := met_ex s N hN _ (Kf.lv ++ (Tr.nd Ka (.lf c2)).lv) (Nat.le_refl _) Kf (.nd Ka (.lf c2)) (.lf c2) (fun l hl => List.mem_append_left _ hl) (fun l hl => List.mem_append_right _ hl) (by rw [u1, u2]) (by rw [u1]; exact hf.wit) (by rw [u3]; exact hB)
      obtain ⟨n, r, hM⟩ := hM
      have hr : ∀ x ∈ r.lv, c ≤ x ∧ x < c2 + 1 := by
        intro x hx
        rcases hM.mem (s := s) (by rw [u1, u2]) hx with h | h | h
        · have := j3 x h; lia
        · rcases List.mem_append.mp h with h | h
          · have := i3 x h; lia
          · rw [List.mem_singleton.mp h]; lia
        · rw [List.mem_singleton.mp h]; lia
      refine ⟨r, c2 + 1, by lia, by lia, hr, ?_, ?_, ?_⟩
      · intro G'
        obtain ⟨s', v1, v2⟩ := hM.sound
        have h1 := (j4 G').inst s'
        have h2 := (i4 G').inst s'
        rw [v1] at h1
        rw [v2]
        exact .app trivial (h1.closed hPf) (h2.closed hPa)
      · intro G' A' h
        cases h with
        | app _ h1 h2 =>
          obtain ⟨s', w1, w2, w3⟩ := uni G' _ A' h1 h2
          exact ⟨s', by rw [hM.most (by rw [w1, w2]), w3]⟩
      · intro ns res h
        have e2 : ((Tr.nd f a).enc 49).reverse ++ ns = (a.enc 49).reverse ++ ((f.enc 49).reverse ++ (49 :: ns)) := by
          simp [Tr.enc]
        rw [e2]
        refine i6 _ _ (j6 _ _ ?_)
        exact .app hM (Tr.ok_of fun v hv => by have := hr v hv; lia) (by lia) (by lia) (by lia) h
/-- how often a letter stands among the sides (false) or not (true) -/
noncomputable def oc (x : Nat) : Bool → Tr → Nat
  | true, .lf n => if n = x then 1 else 0
  | false, .lf _ => 0
  | b, .nd u v => oc x (!b) u + oc x b v
theorem oc_nd (x : Nat) (b : Bool) (u v : Tr) : oc x b (.nd u v) = oc x (!b) u + oc x b v := by cases b <;> rfl
theorem oc_count (x : Nat) : ∀ t : Tr, t.lv.count x = oc x true t + oc x false t
  | .lf n => by
    show [n].count x = (if n = x then 1 else 0) + 0
    rw [List.count_singleton]
    by_cases e : n = x <;> simp [e]
  | .nd a b => by
    rw [oc_nd, oc_nd, Tr.lv, List.count_append, oc_count x a, oc_count x b]
    simp only [Bool.not_true, Bool.not_false]
    lia
theorem oc_inst {s : Nat → Tr} {x l : Nat} (h : 1 ≤ oc x true (s l)) : ∀ (t : Tr) (b : Bool), oc l b t ≤ oc x b (t.inst s)
  | .lf n, true => by
    show (if n = l then 1 else 0) ≤ oc x true (s n)
    by_cases e : n = l
    · rw [if_pos e, e]; exact h
    · rw [if_neg e]; exact Nat.zero_le _
  | .lf n, false => Nat.zero_le _
  | .nd u v, b => by
    rw [Tr.inst, oc_nd, oc_nd]
    have h1 := oc_inst h u (!b)
    have h2 := oc_inst h v b
    lia
theorem oc_tl : ∀ t : Tr, 1 ≤ oc t.tl true t
  | .lf n => by simp [oc, Tr.tl]
  | .nd a b => by
    rw [oc_nd]
    have := oc_tl b
    show 1 ≤ _ + oc b.tl true b
    lia
/-- a term of B, C, I alone: each letter stands as often among the sides as not -/
theorem oc_even (x : Nat) {W : Tr → Prop} {G : Nat → Tr} {t A : Tr} (h : Ty W G t A) (ht : ∀ v ∈ t.lv, v = 256 ∨ v = 257 ∨ v = 258) : oc x true A = oc x false A := by
  induction h with
  | var h _ => have := ht _ (List.mem_singleton.mpr rfl); lia
  | b _ => simp only [bty, oc_nd, Bool.not_true, Bool.not_false]; lia
  | c _ => simp only [cty, oc_nd, Bool.not_true, Bool.not_false]; lia
  | i _ => simp only [oc_nd, Bool.not_true, Bool.not_false]; lia
  | app _ _ _ h1 h2 =>
    have a1 := h1 fun v hv => ht v (List.mem_append_left _ hv)
    have a2 := h2 fun v hv => ht v (List.mem_append_right _ hv)
    simp only [oc_nd, Bool.not_true, Bool.not_false] at a1
    lia
theorem EndY.heads {G : Nat → Tr} {q As : List Tr} {c : Nat} {rows : List (Nat × Nat × Nat)} (h : EndY G q c rows As) (x : Nat) : (rows.map fun r => if r.2.1 + 300 = x then 1 else 0).sum ≤ (lvs q).count x + (if c ≤ x then 1 else 0) := by
  induction h with
  | nil => exact Nat.zero_le _
  | step hf hy hl hl2 _ ih =>
    rename_i k c y c' t ts rs As Bs rows _
    have hle := hf.le.1
    rw [List.map_cons, List.sum_cons]
    rw [lvs_append, List.count_append] at ih
    rw [lvs_cons, List.count_append]
    dsimp only
    by_cases h3 : 300 ≤ x
    · have h1 := hf.count h3
      rw [one_lv] at h1
      have e : (if y + 300 = x then 1 else 0) = (if x = y + 300 then 1 else 0) := by
        by_cases e : x = y + 300
        · rw [if_pos e, if_pos e.symm]
        · rw [if_neg e, if_neg (Ne.symm e)]
      rw [e]
      by_cases h4 : c ≤ x
      · rw [if_pos h4]
        by_cases h5 : c' ≤ x
        · rw [if_pos h5] at ih
          rw [if_neg (show ¬ (c ≤ x ∧ x < c') by lia)] at h1
          lia
        · rw [if_neg h5] at ih
          rw [if_pos ⟨h4, by lia⟩] at h1
          lia
      · rw [if_neg h4]
        rw [if_neg (show ¬ c' ≤ x by lia)] at ih
        rw [if_neg (show ¬ (c ≤ x ∧ x < c') by lia)] at h1
        lia
    · rw [if_neg (show ¬ y + 300 = x by lia)]
      have h6 : ∀ (rows : List (Nat × Nat × Nat)), (rows.map fun r => if r.2.1 + 300 = x then 1 else 0).sum = 0 := by
        intro rows
        induction rows with
        | nil => rfl
        | cons r rows ih => rw [List.map_cons, List.sum_cons, ih, if_neg (by lia)]
      rw [h6]; lia
/-- THE PLAIN LAW -/
theorem plain_law (M : Tr) (hl : M.lv.length ≤ 6) (hM : ∀ v ∈ M.lv, v = 256 ∨ v = 257 ∨ v = 258) :
    ∃ K rows, KindB (M.enc 49).reverse [] 256 K ∧ EndB [M] 300 rows ∧ ToldB [K] [] rows ∧ rows.length ≤ 18 ∧ K.Ok ∧ K.sz ≤ 36 ∧ ∀ x ∈ K.lv, K.lv.count x = 2 := by
  have hcl : combs [M] ≤ 6 := by
    have : combs [M] ≤ (lvs [M]).length := List.countP_le_length
    rw [one_lv] at this
    lia
  have hwt : wt [M] ≤ 18 := by unfold wt; rw [one_lv]; lia
  have hgd : Gd 300 [M] := fun v hv => by
    rw [one_lv] at hv
    have := hM v hv
    lia
  have hno : ∀ v, 300 ≤ v → v ∉ lvs [M] := fun v hv hm => by
    rw [one_lv] at hm
    have := hM v hm
    lia
  obtain ⟨rows, hE, hr⟩ := end_ex _ [M] 300 (Nat.le_refl _) hgd (by lia) (Nat.le_refl _) (by lia)
  have hlin : Lin [M] 300 := fun v hv => ⟨by rw [List.count_eq_zero.mpr (hno v hv)]; lia, fun hm => absurd hm (hno v hv)⟩
  obtain ⟨G, As, hY⟩ := endy_ex hE (Nat.le_refl _) hlin
  obtain ⟨A, rfl⟩ : ∃ A, As = [A] := List.length_eq_one_iff.mp hY.len
  have hty := hY.typed (Nat.le_refl _) (N := 36) (by lia)
  have hN : 36 * 4 ^ combs [M] ≤ 200000 := by
    have := Nat.pow_le_pow_right (n := 4) (by lia) hcl
    lia
  cases hty with
  | cons hty _ =>
    obtain ⟨K, c', k1, k2, k3, k4, k5, k6⟩ := kind_ex hN M A hty hM 256 [] (by lia) (by simp; lia) (by lia)
    obtain ⟨s, hs⟩ := k5 G A (hty.mono fun _ _ => trivial)
    have hKok : K.Ok := Tr.ok_of fun v hv => by have := k3 v hv; lia
    have hA36 : A.sz ≤ 36 := by
      have := (hY.size_of (Nat.le_refl _)).1 A List.mem_cons_self
      lia
    refine ⟨K, rows, ?_, hE, ?_, by lia, hKok, ?_, ?_⟩
    · have := k6 [] K .fin
      rwa [List.append_nil] at this
    · refine told_end hY (hs := []) rfl hlin (.cons (k4 _) .nil) ?_ s (by rw [List.map_cons, List.map_nil, hs]) (fun v h1 h2 => by lia) (by simpa using hKok) nofun (by lia)
      intro G' As' h
      cases h with
      | cons h h' =>
        cases h'
        obtain ⟨s', e⟩ := k5 _ _ h
        exact ⟨s', by rw [e]; rfl, fun v hv h3 => absurd hv (hno v h3)⟩
    · have := inst_size s K
      rw [← hs] at this
      unfold Tr.sz at *
      lia
    · intro x hx
      have e1 := oc_even x (k4 G) hM
      have e2 := oc_count x K
      have e3 := List.count_pos_iff.mpr hx
      have e4 := oc_inst (s := s) (oc_tl (s x)) K false
      rw [← hs] at e4
      have e5 := hY.weigh (fp := oc (s x).tl true) (fn := oc (s x).tl false) (fun a b => oc_nd _ _ _ _) (fun a b => oc_nd _ _ _ _) (Nat.le_refl _)
      rw [List.map_cons, List.map_nil, List.sum_cons, List.sum_nil] at e5
      have e6 := hY.heads (s x).tl
      have e7 : (rows.map fun r => oc (s x).tl true (.lf (r.2.1 + 300)) + oc (s x).tl false (.lf (r.2.1 + 300))).sum = (rows.map fun r => if r.2.1 + 300 = (s x).tl then 1 else 0).sum := rfl
      rw [e7] at e5
      have e8 : (lvs [M]).count (s x).tl + (if 300 ≤ (s x).tl then 1 else 0) ≤ 1 ∨ (s x).tl < 300 := by
        by_cases h3 : 300 ≤ (s x).tl
        · left
          rw [List.count_eq_zero.mpr (hno _ h3), if_pos h3]
          lia
        · right; lia
      rcases e8 with e8 | e8
      · lia
      · have e9 : (rows.map fun r => if r.2.1 + 300 = (s x).tl then 1 else 0).sum = 0 := by
          clear e5 e6 e7 hY hE hr k6
          induction rows with
          | nil => rfl
          | cons r rows ih => rw [List.map_cons, List.sum_cons, ih, if_neg (by lia)]
        lia

end
local macro_rules | `(tactic| walk_at $s:str) => `(tactic| k_extra $(Lean.Syntax.mkStrLit ("my " ++ s.getString)))
local macro_rules | `(tactic| k_all) => `(tactic| k_extra "my k_all")
local macro_rules | `(tactic| k_inst) => `(tactic| k_extra "my k_inst")
local macro_rules | `(tactic| k_mem) => `(tactic| k_extra "my k_mem")
local macro_rules | `(tactic| k_in) => `(tactic| k_extra "my k_in")
local macro_rules | `(tactic| k_ne) => `(tactic| k_extra "my k_ne")
example : PySem.Challenge.rw_ti0018_01 = PySem.Challenge.rw_ti0018_01 ∧ hd.heap_39 = hd.heap_39 := by
  k_fill
  exact ⟨rfl, rfl⟩

section
noncomputable abbrev Led := List (Addr × Obj)
noncomputable abbrev Mo (w : World) : Model := model PySem.Challenge.rw_ti0018_01.row.prog w
/-- a call of f with args upon a ledger: it ends, hands back r and leaves a ledger, as post says -/
noncomputable def Does (w : World) (D U : Nat) (f : Value) (args : List Value) (news : Led) (P : (Value → Led → Prop) → Prop) : Prop :=
  ∀ (dp un : Nat) (gd : Option (List Code)) (env : Env) (outer : List Env) (A₀ : Around) (base h₀ : Heap) (L : Addr) (m : Str → Option Value) (sH : Heap) (sG : Array GenState) (sD : Drawn) (sT : Nat) (sO : OsState) (R : Result → Shared → Prop)
    (p : Program) (loose : List Str) (mean : ExcName → Option Value) (mg mb : Str → Option Value),
    env.frame = some L → env.scope.kind = .function →
    Below A₀ base outer h₀ → Fr h₀ L sH m → (hd.heap_39 w.params).In h₀ → News h₀ L sH news → Top p loose mean mg mb h₀ →
    dp + D < recursionLimit → un + U < cLine →
    (P fun r n' => ∀ h' tk', Fr h₀ L h' m → News h₀ L h' n' → R (.ok (.ret r)) (Shared.mk h' sG sD tk' sO)) →
    codeAny (model PySem.Challenge.rw_ti0018_01.row.prog w) { handled := none, depth := dp, frames := some (env :: outer), guards := gd, units := un } (.call f ⟨args, []⟩) R (Shared.mk sH sG sD sT sO)

theorem room_of {dp D n : Nat} (h : dp + D < recursionLimit) (hn : n ≤ dp + D) : n < recursionLimit := Nat.lt_of_le_of_lt hn h

section
open PySem.Calls
variable {prog : Program} {w : World} {A A₀ : Around} {E : Value → Shared → Prop} {sH : Heap} {sG : Array GenState} {sD : Drawn} {sT : Nat} {sO : OsState} {K : Frag} {C L : Addr} {h₀ base : Heap} {m mg mb : Str → Option Value} {news : List (Addr × Obj)} {p : Program} {loose : List Str} {mean : ExcName → Option Value} {Q : Value → Shared → Prop}
theorem code_defF {env : Env} {outer : List Env} {R : Result → Shared → Prop} {name qual : Str} {params : Arguments} {body : List Stmt} {scope : Scope} {dV kV doc pm cdv ct oc : Value} {an od : Option Addr} {osl : Array (Option Value)} {f : Addr} {args : Args} {binds : List (Str × Value)}
    (B : Below A₀ base outer h₀) (F : Fr h₀ L sH m) (X₀ : K.In h₀) (N : News h₀ L sH news) (T : Top p loose mean mg mb h₀) (hA : A.frames = some (env :: outer)) (hf : env.frame = some L) (hke : env.scope.kind = .function)
    (ho : K.lookup f = some ⟨oc, od, .func (fnOf name qual params body scope dV kV doc pm an cdv ct), osl⟩) (hcd : codeIn K cdv qual = true) (hroom : A.depth < recursionLimit)
    (hbind : BindsTo (Shared.mk sH sG sD sT sO) (fnOf name qual params body scope dV kV doc pm an cdv ct) args binds) (hloc : ∀ y ∈ binds, scope.names.lookup y.1 = some .local)
    (h : ∀ g L' h₁, Fr h₀ L g m → Fr g L' h₁ (fun y => binds.reverse.lookup y) → News g L' h₁ news → Below A base (env :: outer) g → K.In g → Top p loose mean mg mb g →
      wpAny (model prog w) (A.deeper (envOf qual scope L' f cdv)) (execs body (envOf qual scope L' f cdv))
        (fun fl s' => LeaveK h₀ L m g R (match fl with | .ret v => v | _ => .none) s')
        (fun _ _ => False)
        (Shared.mk h₁ sG sD (sT + binds.length) sO))
    (hco : scope.isCoroutine = false) (hgen : scope.isGenerator = false) (hk : scope.kind = .function)
    (hcell : ∀ x ∈ scope.names, x.2 ≠ .cell) : codeAny (model prog w) A (.call (.ref f) args) R (Shared.mk sH sG sD sT sO) :=
  code_def B F X₀ N T hA hf hke ho hcd hroom hbind hloc (fun g L' h₁ FG F' N' B' X' T' => wpAny_mono (h g L' h₁ FG F' N' B' X' T') (fun _ _ x => x) fun _ _ x => x.elim) hco hgen hk hcell
theorem code_defCF {env : Env} {outer : List Env} {R : Result → Shared → Prop} {name qual : Str} {params : Arguments} {body : List Stmt} {scope : Scope} {dV kV doc pm cdv ct oc : Value} {an od : Option Addr} {osl : Array (Option Value)} {f : Addr} {args : Args} {binds : List (Str × Value)}
    (B : Below A₀ base outer h₀) (F : Fr h₀ L sH m) (X₀ : K.In h₀) (N : News h₀ L sH news) (T : Top p loose mean mg mb h₀) (hA : A.frames = some (env :: outer)) (hf : env.frame = some L) (hke : env.scope.kind = .function)
    (ho : K.lookup f = some ⟨oc, od, .func (fnOf name qual params body scope dV kV doc pm an cdv ct), osl⟩) (hcd : codeIn K cdv qual = true) (hroom : A.depth < recursionLimit)
    (hbind : BindsTo (Shared.mk sH sG sD sT sO) (fnOf name qual params body scope dV kV doc pm an cdv ct) args binds) (hkind : (binds.all fun y => scope.names.lookup y.1 == some .local || scope.names.lookup y.1 == some .cell) = true)
    (hnd : ((cellsFrom 0 scope.names []).map (·.1)).Nodup)
    (h : ∀ g L' h₁ tk cells, Fr h₀ L g m → Fr g L' h₁ (bindL (envOfC qual scope L' f cdv).kindOf binds fun _ => none) → News g L' h₁ (cells ++ news) →
      CellsAre (bindC (envOfC qual scope L' f cdv).kindOf binds fun _ => none) (cellsFrom (L' + 1) scope.names []) cells → Below A base (env :: outer) g → K.In g → Top p loose mean mg mb g → (∀ p ∈ news, p.1 < L') →
      wpAny (model prog w) (A.deeper (envOfC qual scope L' f cdv)) (execs body (envOfC qual scope L' f cdv))
        (fun fl s' => LeaveK h₀ L m g R (match fl with | .ret v => v | _ => .none) s')
        (fun _ _ => False)
        (Shared.mk h₁ sG sD tk sO))
    (hco : scope.isCoroutine = false) (hgen : scope.isGenerator = false) (hk : scope.kind = .function) : codeAny (model prog w) A (.call (.ref f) args) R (Shared.mk sH sG sD sT sO) :=
  code_defC B F X₀ N T hA hf hke ho hcd hroom hbind hkind hnd (fun g L' h₁ tk cells FG F' N' Y B' X' T' l => wpAny_mono (h g L' h₁ tk cells FG F' N' Y B' X' T' l) (fun _ _ x => x) fun _ _ x => x.elim) hco hgen hk
end


/-- the walk halts here: a rule by hand follows -/
@[irreducible] noncomputable def Stop (P : Prop) : Prop := P
theorem Stop.mk {P : Prop} (h : Stop P) : P := by unfold Stop at h; exact h
theorem Stop.go {P : Prop} (h : P) : Stop P := by unfold Stop; exact h

theorem Does.use {w : World} {D U : Nat} {f : Value} {args : List Value} {news : Led} {P : (Value → Led → Prop) → Prop} (H : Does w D U f args news P)
    {dp un : Nat} {gd : Option (List Code)} {env : Env} {outer : List Env} {A₀ : Around} {base h₀ : Heap} {L : Addr} {m : Str → Option Value} {sH : Heap} {sG : Array GenState} {sD : Drawn} {sT : Nat} {sO : OsState} {Q E : Value → Shared → Prop}
    {p : Program} {loose : List Str} {mean : ExcName → Option Value} {mg mb : Str → Option Value}
    (B : Below A₀ base outer h₀) (F : Fr h₀ L sH m) (X : (hd.heap_39 w.params).In h₀) (N : News h₀ L sH news) (T : Top p loose mean mg mb h₀)
    (hf : env.frame = some L) (hk : env.scope.kind = .function) (hd : dp + D < recursionLimit) (hu : un + U < cLine)
    (ret : P fun r n' => ∀ h' tk', Fr h₀ L h' m → News h₀ L h' n' → Q r (Shared.mk h' sG sD tk' sO)) :
    wpAny (model PySem.Challenge.rw_ti0018_01.row.prog w) { handled := none, depth := dp, frames := some (env :: outer), guards := gd, units := un } (call f args) Q E (Shared.mk sH sG sD sT sO) :=
  wpAny_call (H _ _ _ _ _ _ _ _ _ _ _ _ _ _ _ _ _ _ _ _ _ hf hk B F X N T hd hu ret)

section
variable {prog : Program} {w : World} {A : Around} {sH : Heap} {sG : Array GenState} {sD : Drawn} {sT : Nat} {sO : OsState} {env : Env} {h₀ : Heap} {L : Addr}
inductive WNext {σ : Type} (h₀ : Heap) (L : Addr) (sG : Array GenState) (sD : Drawn) (sO : OsState) (ps : σ → List (Str × Value)) (led : σ → Led) (I : σ → Prop) (μ : σ → Nat) (c : σ) (s₂ : Shared) : Prop
  | mk (c' : σ) (h' : Heap) (tk : Nat) (m' : Str → Option Value) (news' : Led) (e : s₂ = (Shared.mk h' sG sD tk sO)) (F : Fr h₀ L h' m') (N : News h₀ L h' news') (h1 : ∀ p ∈ led c', p ∈ news') (h2 : ∀ p ∈ ps c', m' p.1 = some p.2) (h3 : I c') (h4 : μ c' < μ c) : WNext h₀ L sG sD sO ps led I μ c s₂
/-- what a turn of a while must leave -/
noncomputable def WEnd {σ : Type} (h₀ : Heap) (L : Addr) (sG : Array GenState) (sD : Drawn) (sO : OsState) (ps : σ → List (Str × Value)) (led : σ → Led) (I : σ → Prop) (μ : σ → Nat) (Q : Flow → Shared → Prop) (c : σ) (f : Flow) (s₂ : Shared) : Prop :=
  match f with
  | .ret v => Q (.ret v) s₂
  | .brk => Q .next s₂
  | _ => WNext h₀ L sG sD sO ps led I μ c s₂
theorem wend_next {σ : Type} {ps : σ → List (Str × Value)} {led : σ → Led} {I : σ → Prop} {μ : σ → Nat} {Q : Flow → Shared → Prop} {c : σ} {h' : Heap} {tk : Nat} {m' : Str → Option Value} {news' : Led} (c' : σ)
    (F : Fr h₀ L h' m') (N : News h₀ L h' news') (h1 : ∀ p ∈ led c', p ∈ news') (h2 : ∀ p ∈ ps c', m' p.1 = some p.2) (h3 : I c') (h4 : μ c' < μ c) :
    WEnd h₀ L sG sD sO ps led I μ Q c .next (Shared.mk h' sG sD tk sO) := ⟨c', h', tk, m', news', rfl, F, N, h1, h2, h3, h4⟩
theorem kstB_id {ps : List (Str × Value)} {m₁ : Str → Option Value} (h1 : ∀ p ∈ ps, m₁ p.1 = some p.2) : kstB m₁ ps = m₁ := by
  funext y
  exact kstB_eq h1 fun _ => rfl
theorem whl {σ : Type} {test : Expr} {body : List Stmt} {pos : Pos} {m₀ : Str → Option Value} {news : Led} {Q : Flow → Shared → Prop} (ps : σ → List (Str × Value)) (led : σ → Led) (I : σ → Prop) (μ : σ → Nat) (c₀ : σ)
    (F : Fr h₀ L sH m₀) (N : News h₀ L sH news) (h1 : ∀ p ∈ led c₀, p ∈ news) (h2 : ∀ p ∈ ps c₀, m₀ p.1 = some p.2) (h3 : I c₀)
    (turn : ∀ End : σ → Flow → Shared → Prop, (∀ c f s₂, WEnd h₀ L sG sD sO ps led I μ Q c f s₂ → End c f s₂) → ∀ c u h tk, I c → Fr h₀ L h (kstB u (ps c)) → News h₀ L h (led c) →
      wpAny (model prog w) A (isTrue test env (eval test env)) (fun b s₂ =>
        if b = true then wpAny (model prog w) A (execs body env) (End c) (fun _ _ => False) s₂ else Q .next s₂) (fun _ _ => False) (Shared.mk h sG sD tk sO)) :
    wpAny (model prog w) A (exec (.While test body [] pos) env) Q (fun _ _ => False) (Shared.mk sH sG sD sT sO) := by
  refine While_inv2 (fun n m nx => ∃ c : σ, nx = led c ∧ μ c = n ∧ I c ∧ (∀ p ∈ ps c, m p.1 = some p.2)) F (fun p hp => N p (h1 p hp)) ⟨c₀, rfl, rfl, h3, h2⟩ ?_ PassesOwn.never
  rintro n m₁ nx h tk F₁ N₁ ⟨c, hnx, hsz, hI, h2'⟩
  rw [hnx] at N₁
  rw [← hsz]
  refine wpAny_mono (turn (WEnd h₀ L sG sD sO ps led I μ Q) (fun _ _ _ x => x) c m₁ h tk hI (by rw [kstB_id h2']; exact F₁) N₁) (fun b s₂ p => ?_) fun _ _ x => x
  cases b with
  | false => simpa using p
  | true =>
    simp only [if_true] at p ⊢
    refine wpAny_mono p (fun f s₃ q => ?_) fun _ _ x => x
    cases f with
    | ret v => exact q
    | brk => exact q
    | next =>
      obtain ⟨c', h', tk', m', news', rfl, F', N', a1, a2, a3, a4⟩ := q
      exact ⟨h', tk', m', led c', μ c', rfl, F', fun p hp => N' p (a1 p hp), a4, c', rfl, rfl, a3, a2⟩
    | cont =>
      obtain ⟨c', h', tk', m', news', rfl, F', N', a1, a2, a3, a4⟩ := q
      exact ⟨h', tk', m', led c', μ c', rfl, F', fun p hp => N' p (a1 p hp), a4, c', rfl, rfl, a3, a2⟩
end

/-- a text by its signs -/
abbrev S (l : List Nat) : Str := ⟨l.toArray⟩
theorem S_len (l : List Nat) : (S l).length = l.length := by simp [Str.length]
theorem item_S {l : List Nat} {p c : Nat} (h : l[p]? = some c) : Txt.item (S l) (p : Int) = S [c] := by
  have hlt : p < l.length := by
    rcases Nat.lt_or_ge p l.length with h1 | h1
    · exact h1
    · rw [List.getElem?_eq_none h1] at h; cases h
  unfold Txt.item Txt.charAt
  rw [StrLaws.seqIndex_nonneg (by lia) (by rw [S_len]; lia)]
  simp [h]
section
variable {prog : Program} {w : World} {A : Around} {sH : Heap} {sG : Array GenState} {sD : Drawn} {sT : Nat} {sO : OsState} {E : Value → Shared → Prop} {Q : Value → Shared → Prop}
theorem sub_str {value slice : PySem.Expr} {l : List Nat} {p c : Nat} {t u : Tok} (hx : l[p]? = some c) (hl : l.length ≤ 1000000) (h : Q (.str (S [c]) sT) (Shared.mk sH sG sD (sT + 1) sO))
    (hs : subscripted slice false (.str (S l) t) (.int (p : Int) u) = operate [.str (S l) t, .int (p : Int) u] (getItem (.str (S l) t) (.int (p : Int) u)) := by with_unfolding_all rfl)
    (ht : ∀ r, letTemporaryGo value (.str (S l) t) r = pure () := by intro _; with_unfolding_all rfl) :
    wpAny (model prog w) A (subscriptTail value slice (.str (S l) t) (.int (p : Int) u)) Q E (Shared.mk sH sG sD sT sO) := by
  have hlt : p < l.length := by
    rcases Nat.lt_or_ge p l.length with h1 | h1
    · exact h1
    · rw [List.getElem?_eq_none h1] at hx; cases hx
  refine item_str (fitsSsize_of (N := 9223372036854775808) (by lia) (by lia) (Int.le_refl _)) (by rw [S_len]; lia) (by rw [S_len]; lia) (fun _ => ?_) hs ht
  rw [item_S hx]; exact h
theorem ord_S {c : Nat} {t : Tok} (h : Q (.int (c : Int) sT) (Shared.mk sH sG sD (sT + 1) sO)) : wpAny (model prog w) A (call (.builtin "ord") [.str (S [c]) t]) Q E (Shared.mk sH sG sD sT sO) := P.ord_of_char h
end

theorem int_cong {a b : Int} {t : Tok} (e : a = b) : some (Value.int a t) = some (Value.int b t) := by rw [e]

end
section
/-- tokens only grow -/
theorem runs_grow {M : Model} {Γ : Ctx} {p : Pos} {t : Sem Fin} {fs : List Frame} {s s' : Shared} {e : End} (h : Runs M Γ p t fs s e s') : s.toks ≤ s'.toks := by
  k_with "my k_in" => first | with_reducible assumption | exact Frag.In.keeps (by with_reducible assumption) (Fr.keep (by with_reducible assumption))
  k_with "my k_ne" => (refine neN ?_; (try dsimp only); first | with_reducible assumption | (refine Ne.symm ?_; with_reducible assumption) | lia)
  k_with "my ROOM" => ((try dsimp only [Around.deeper, Around.mark, Around.in1]); first | exact room3 (by assumption) rfl | exact room2 (by assumption) rfl | lia)
  k_with "my ite" => first | (refine ite_pos (by with_reducible assumption) ?_) | (refine ite_neg (by with_reducible assumption) ?_) | (refine ite_pos (decide_eq_true (by with_reducible assumption)) ?_) | (refine ite_neg (Bool.eq_false_iff.mp (decide_eq_false (by with_reducible assumption))) ?_)
  k_with "my exec While" => (try k_fold); refine Stop.mk ?_
  k_with "my subscriptTail Name Name str int" => (refine sub_str (by assumption) (by assumption) ?_)
  k_with "my call builtin:ord" => (refine ord_S ?_)
  induction h <;> first
    | exact Nat.le_refl _
    | assumption
    | (exact Nat.le_trans (by k_asm) (by k_asm))
    | (dsimp only [Shared.setGen] at *; first | assumption | exact Nat.le_trans (by k_asm) (by k_asm) | exact Nat.le_of_succ_le (by k_asm))
theorem wp_grow {α : Type} {M : Model} {Γ : Ctx} : ∀ (t : Sem α) (Q : α → Pos → Shared → Prop) (E : Value → Pos → Shared → Prop) (p : Pos) (s : Shared) (n : Nat), n ≤ s.toks → Sem.wp M Γ t Q E p s → Sem.wp M Γ t (fun a p' s' => n ≤ s'.toks ∧ Q a p' s') (fun a p' s' => n ≤ s'.toks ∧ E a p' s') p s := by
  intro t Q E
  induction t with
  | pure a => intro p s n hn h; exact ⟨hn, h⟩
  | raise e => intro p s n hn h; exact ⟨hn, h⟩
  | unsupported w => intro p s n hn h; exact h
  | finish e => intro p s n hn h; exact h
  | rule tag k ih => intro p s n hn h; exact ih () p s n hn h
  | «at» q k ih => intro p s n hn h; exact ih () q s n hn h
  | load a part k ih =>
    intro p s n hn h
    obtain ⟨o, ho, h⟩ := h
    exact ⟨o, ho, ih o p s n hn h⟩
  | update a part f k ih => intro p s n hn h; exact ⟨h.1, ih () p _ n hn h.2⟩
  | alloc o k ih => intro p s n hn h; exact ih _ p _ n hn h
  | loadIfAlive a k ih => intro p s n hn h; exact ih _ p s n hn h
  | point l k ih => intro p s n hn h; exact ih () p s n hn h
  | register a k ih => intro p s n hn h; exact h
  | fresh k ih => intro p s n hn h; exact ih _ p _ n (Nat.le_succ_of_le hn) h
  | ask k ih => intro p s n hn h; exact ih _ p s n hn h
  | choose src m k ih => intro p s n hn h; exact ⟨h.1, ih _ p _ n hn h.2⟩
  | os q l k ih => intro p s n hn h; exact ih _ p _ n hn h
  | call c hd g l k ih =>
    intro p s n hn h
    obtain ⟨r, s', hr, h⟩ := h
    exact ⟨r, s', hr, ih r p s' n (Nat.le_trans hn (runs_grow hr)) h⟩
  | handled own k ih => intro p s n hn h; exact ih _ p s n hn h
  | newGen c k ih => intro p s n hn h; exact ih _ p _ n hn h
  | genState g k ih =>
    intro p s n hn h
    obtain ⟨o, ho, h⟩ := h
    exact ⟨o, ho, ih _ p s n hn h⟩
  | resume g r l k ih =>
    intro p s n hn h
    obtain ⟨res, s', hr, h⟩ := h
    refine ⟨res, s', hr, ih _ p s' n (Nat.le_trans hn ?_) h⟩
    unfold Wakes at hr
    split at hr
    · cases hr
    · split at hr
      · obtain ⟨e₁, s₁, hr, _, _, rfl⟩ := hr
        have := runs_grow hr
        exact this
      · rw [hr.2]; exact Nat.le_refl _
      · rw [hr.2]; exact Nat.le_refl _
    · obtain ⟨e₁, s₁, hr, _, _, rfl⟩ := hr
      have := runs_grow hr
      exact this
    · rw [hr.2]; exact Nat.le_refl _
    · rw [hr.2]; exact Nat.le_refl _
  | yield v g l k ih => intro p s n hn h; exact h
  | stack k ih => intro p s n hn h; exact ih _ p s n hn h
  | fork c k ih => intro p s n hn h; exact h
  | thread k ih => intro p s n hn h; exact ih _ p s n hn h
  | await a f d l k ih => intro p s n hn h; exact h
theorem any_grow {α : Type} {M : Model} {A : Around} {t : Sem α} {Q : α → Shared → Prop} {E : Value → Shared → Prop} {sH : Heap} {sG : Array GenState} {sD : Drawn} {sT : Nat} {sO : OsState} (h : wpAny M A t Q E (Shared.mk sH sG sD sT sO)) : wpAny M A t (fun a s' => sT ≤ s'.toks ∧ Q a s') E (Shared.mk sH sG sD sT sO) :=
  fun Γ p hΓ => Sem.wp_mono M Γ t (fun _ _ _ h' => h') (fun _ _ _ h' => h'.2) p (Shared.mk sH sG sD sT sO) (wp_grow t _ _ p (Shared.mk sH sG sD sT sO) sT (Nat.le_refl _) (h Γ p hΓ))
theorem grow_in {α : Type} {M : Model} {A : Around} {t : Sem α} {Q : α → Shared → Prop} {E : Value → Shared → Prop} {sH : Heap} {sG : Array GenState} {sD : Drawn} {sT : Nat} {sO : OsState} (h : wpAny M A t (fun a s' => sT ≤ s'.toks → Q a s') E (Shared.mk sH sG sD sT sO)) : wpAny M A t Q E (Shared.mk sH sG sD sT sO) :=
  wpAny_mono (any_grow h) (fun _ _ q => q.2 q.1) fun _ _ e => e

/-- a call of f with args upon a ledger, with a bound for the tokens -/
noncomputable def DoesT (w : World) (D U : Nat) (f : Value) (args : List Value) (news : Led) (lo : Nat) (P : (Nat → Value → Led → Prop) → Prop) : Prop :=
  ∀ (dp un : Nat) (gd : Option (List Code)) (env : Env) (outer : List Env) (A₀ : Around) (base h₀ : Heap) (L : Addr) (m : Str → Option Value) (sH : Heap) (sG : Array GenState) (sD : Drawn) (sT : Nat) (sO : OsState) (R : Result → Shared → Prop)
    (p : Program) (loose : List Str) (mean : ExcName → Option Value) (mg mb : Str → Option Value),
    env.frame = some L → env.scope.kind = .function →
    Below A₀ base outer h₀ → Fr h₀ L sH m → (hd.heap_39 w.params).In h₀ → News h₀ L sH news → Top p loose mean mg mb h₀ →
    dp + D < recursionLimit → un + U < cLine → lo ≤ sT →
    (P fun tk' r n' => ∀ h', Fr h₀ L h' m → News h₀ L h' n' → R (.ok (.ret r)) (Shared.mk h' sG sD tk' sO)) →
    codeAny (model PySem.Challenge.rw_ti0018_01.row.prog w) { handled := none, depth := dp, frames := some (env :: outer), guards := gd, units := un } (.call f ⟨args, []⟩) R (Shared.mk sH sG sD sT sO)
theorem DoesT.use {w : World} {D U lo : Nat} {f : Value} {args : List Value} {news : Led} {P : (Nat → Value → Led → Prop) → Prop} (H : DoesT w D U f args news lo P)
    {dp un : Nat} {gd : Option (List Code)} {env : Env} {outer : List Env} {A₀ : Around} {base h₀ : Heap} {L : Addr} {m : Str → Option Value} {sH : Heap} {sG : Array GenState} {sD : Drawn} {sT : Nat} {sO : OsState} {Q E : Value → Shared → Prop}
    {p : Program} {loose : List Str} {mean : ExcName → Option Value} {mg mb : Str → Option Value}
    (B : Below A₀ base outer h₀) (F : Fr h₀ L sH m) (X : (hd.heap_39 w.params).In h₀) (N : News h₀ L sH news) (T : Top p loose mean mg mb h₀)
    (hf : env.frame = some L) (hk : env.scope.kind = .function) (hd : dp + D < recursionLimit) (hu : un + U < cLine) (hlo : lo ≤ sT)
    (ret : P fun tk' r n' => ∀ h', Fr h₀ L h' m → News h₀ L h' n' → sT ≤ tk' → Q r (Shared.mk h' sG sD tk' sO)) :
    wpAny (model PySem.Challenge.rw_ti0018_01.row.prog w) { handled := none, depth := dp, frames := some (env :: outer), guards := gd, units := un } (call f args) Q E (Shared.mk sH sG sD sT sO) :=
  grow_in (wpAny_call (H _ _ _ _ _ _ _ _ _ _ _ _ _ _ _ _ _ _ _ _ _ hf hk B F X N T hd hu hlo ret))
theorem Does.useG {w : World} {D U : Nat} {f : Value} {args : List Value} {news : Led} {P : (Value → Led → Prop) → Prop} (H : Does w D U f args news P)
    {dp un : Nat} {gd : Option (List Code)} {env : Env} {outer : List Env} {A₀ : Around} {base h₀ : Heap} {L : Addr} {m : Str → Option Value} {sH : Heap} {sG : Array GenState} {sD : Drawn} {sT : Nat} {sO : OsState} {Q E : Value → Shared → Prop}
    {p : Program} {loose : List Str} {mean : ExcName → Option Value} {mg mb : Str → Option Value}
    (B : Below A₀ base outer h₀) (F : Fr h₀ L sH m) (X : (hd.heap_39 w.params).In h₀) (N : News h₀ L sH news) (T : Top p loose mean mg mb h₀)
    (hf : env.frame = some L) (hk : env.scope.kind = .function) (hd : dp + D < recursionLimit) (hu : un + U < cLine)
    (ret : P fun r n' => ∀ h' tk', Fr h₀ L h' m → News h₀ L h' n' → sT ≤ tk' → Q r (Shared.mk h' sG sD tk' sO)) :
    wpAny (model PySem.Challenge.rw_ti0018_01.row.prog w) { handled := none, depth := dp, frames := some (env :: outer), guards := gd, units := un } (call f args) Q E (Shared.mk sH sG sD sT sO) :=
  grow_in (wpAny_call (H _ _ _ _ _ _ _ _ _ _ _ _ _ _ _ _ _ _ _ _ _ hf hk B F X N T hd hu ret))

end
section
set_option maxRecDepth 100000 in
set_option maxHeartbeats 8000000 in
theorem isterminal (w : World) (x : Int) (t : Tok) (news : Led) : Does w 5 20 (.ref 157) [.int x t] news (fun K => K (.bool (decide (x < 256))) news) := by
  unfold Does
  intro dp un gd env outer A₀ base h₀ L m sH sG sD sT sO R p loose mean mg mb hf hk B F X N T hd hu hret
  k_dflt (refine' code_defF ?k1 ?k2 ?k3 ?k4 ?k5 ?kA ?kF ?kK ?k6 ?k7 ?k8 ?k9 ?kB ?_ ?c2 ?c3 ?c4 ?c5; (case kA => exact rfl); (case kF => exact hf); (case kK => exact hk); (case k1 => exact B); (case k2 => exact F); (case k3 => exact X); (case k4 => exact N); (case k5 => exact T); (case k6 => k_is); (case k7 => k_is); (case k8 => (refine room_of hd ?_; dsimp only; lia)); (case k9 => first | exact BindsTo.of_eq rfl | exact binds_K (by k_in) rfl (by k_is) rfl rfl rfl); (case c5 => decide); (case kB => exact locs rfl); (case c2 => exact rfl); (case c3 => exact rfl); (case c4 => exact rfl); k_whole)
  intro g' L' h1 FG' F' N' B' X' T'
  (try dsimp only)
  (try k_fold)
  k_steps
  exact hret _ _ (by k_asm) (by k_asm)


set_option maxRecDepth 100000 in
set_option maxHeartbeats 8000000 in
theorem behind (w : World) (k : Nat) (hk : k < 256) (tr : Tr) (htr : tr.Ok) (pre post : List Nat) (hlen : (pre ++ tr.enc k ++ post).length ≤ 1000000) (t t2 : Tok) (news : Led) :
    Does w 10 100 (.ref 183) [.str (S (pre ++ tr.enc k ++ post)) t, .int (pre.length : Int) t2] news (fun K => ∀ t', K (.int ((pre.length + (tr.enc k).length : Nat) : Int) t') news) := by
  k_with "my call ref" => ((refine Does.use (isterminal _ _ _ _) (by k_asm) (by k_asm) (by k_asm) (by k_asm) (by k_asm) rfl rfl (by walk_at "ROOM") (by walk_at "ROOM") ?_; intro h9zz k9zz F9zz N9zz; (try k_sweep))); (try revert N9zz); (try revert F9zz); (try revert k9zz); (try revert h9zz); intros
  generalize hx : pre ++ tr.enc k ++ post = x at *
  unfold Does
  intro dp un gd env outer A₀ base h₀ L m sH sG sD sT sO R p loose mean mg mb hf hk B F X N T hd hu hret
  k_dflt (refine' code_defF ?k1 ?k2 ?k3 ?k4 ?k5 ?kA ?kF ?kK ?k6 ?k7 ?k8 ?k9 ?kB ?_ ?c2 ?c3 ?c4 ?c5; (case kA => exact rfl); (case kF => exact hf); (case kK => exact hk); (case k1 => exact B); (case k2 => exact F); (case k3 => exact X); (case k4 => exact N); (case k5 => exact T); (case k6 => k_is); (case k7 => k_is); (case k8 => (refine room_of hd ?_; dsimp only; lia)); (case k9 => first | exact BindsTo.of_eq rfl | exact binds_K (by k_in) rfl (by k_is) rfl rfl rfl); (case c5 => decide); (case kB => exact locs rfl); (case c2 => exact rfl); (case c3 => exact rfl); (case c4 => exact rfl); k_whole)
  intro g' L' h1 FG' F' N' B' X' T'
  (try dsimp only)
  (try k_fold)
  k_steps
  refine Stop.go ?_
  rename Fr _ _ _ _ => F1
  rename News _ _ _ _ => N1
  (try k_fold)
  refine whl (σ := List Nat × List Tr × Tok × Tok) (fun c => [("text", .str (S x) t), ("place", .int (c.1.length : Int) c.2.2.1), ("want", .int (c.2.1.length : Int) c.2.2.2)]) (fun _ => news)
    (fun c => c.1 ++ encs k c.2.1 ++ post = x ∧ ∀ t ∈ c.2.1, t.Ok) (fun c => (encs k c.2.1).length) (pre, [tr], t2, ?tok) F1 N1 (fun _ h => h) ?h2 ?h3 ?turn
  case h2 => repeat' (first | exact List.forall_mem_nil _ | refine List.forall_mem_cons.mpr ⟨by first | rfl | (dsimp only; refine Eq.trans (b := some (Value.int _ _)) rfl ?_; refine int_cong ?_; simp only [List.length_append, List.length_cons, List.length_nil]; lia), ?_⟩)
  case h3 => exact ⟨by simpa [encs] using hx, by simpa using htr⟩
  case turn =>
    intro End1 hE1
    rintro ⟨pr, ts, tp, tw⟩ u h tk hJ0 F2 N2
    (try k_fold)
    obtain ⟨hx1, hts⟩ := hJ0
    clear F1 N1
    (try dsimp only at hx1 hts F2 N2 ⊢)
    rcases ts with _ | ⟨t0, ts⟩
    · k_steps
      have : pr.length = pre.length + (tr.enc k).length := by
        have := congrArg List.length (hx1.trans hx.symm)
        simp [encs] at this; lia
      rw [this]
      exact hret _ _ _ (by k_asm) (by k_asm)
    · have hne : (((t0 :: ts).length : Int) != 0) = true := by simp; lia
      rcases t0 with n | ⟨a, b⟩
      · have hc : x[pr.length]? = some n := by rw [← hx1]; simp [encs_lf]
        have hn : 256 ≤ n := hts (.lf n) (List.mem_cons_self)
        have hd0 : decide ((n : Int) < 256) = false := by simp; lia
        k_steps
        (first | refine hE3 _ _ _ ?_ | refine hE2 _ _ _ ?_ | refine hE1 _ _ _ ?_)
        refine' wend_next (pr ++ [n], ts, _, _) (by k_asm) (by k_asm) (fun _ h => h) ?h2 ?h3 ?h4
        case h2 => repeat' (first | exact List.forall_mem_nil _ | refine List.forall_mem_cons.mpr ⟨by first | rfl | (dsimp only; refine Eq.trans (b := some (Value.int _ _)) rfl ?_; refine int_cong ?_; simp only [List.length_append, List.length_cons, List.length_nil]; lia), ?_⟩)
        case h3 => exact ⟨by rw [← hx1]; simp [encs_lf], fun t ht => hts t (List.mem_cons_of_mem _ ht)⟩
        case h4 => simp [encs_lf]
      · have hc : x[pr.length]? = some k := by rw [← hx1]; simp [encs_nd]
        have hd0 : decide ((k : Int) < 256) = true := by simp; lia
        k_steps
        (first | refine hE3 _ _ _ ?_ | refine hE2 _ _ _ ?_ | refine hE1 _ _ _ ?_)
        refine' wend_next (pr ++ [k], a :: b :: ts, _, _) (by k_asm) (by k_asm) (fun _ h => h) ?h2 ?h3 ?h4
        case h2 => repeat' (first | exact List.forall_mem_nil _ | refine List.forall_mem_cons.mpr ⟨by first | rfl | (dsimp only; refine Eq.trans (b := some (Value.int _ _)) rfl ?_; refine int_cong ?_; simp only [List.length_append, List.length_cons, List.length_nil]; lia), ?_⟩)
        case h3 =>
          have hab : (Tr.nd a b).Ok := hts _ (List.mem_cons_self)
          refine ⟨by rw [← hx1]; simp [encs_nd], ?_⟩
          intro t ht
          rcases List.mem_cons.mp ht with rfl | ht
          · exact hab.1
          · rcases List.mem_cons.mp ht with rfl | ht
            · exact hab.2
            · exact hts t (List.mem_cons_of_mem _ ht)
        case h4 => simp [encs_nd]
theorem behind' (w : World) {k : Nat} (hk : k < 256) {x : List Nat} {tr : Tr} {pre post : List Nat} (hx : x = pre ++ tr.enc k ++ post) (htr : tr.Ok) (hlen : x.length ≤ 1000000) (t t2 : Tok) (news : Led) :
    Does w 10 100 (.ref 183) [.str (S x) t, .int (pre.length : Int) t2] news (fun K => ∀ t', K (.int ((pre.length + (tr.enc k).length : Nat) : Int) t') news) := by
  subst hx
  exact behind w k hk tr htr pre post hlen t t2 news

end
section
section
open PySem.Calls Builtin Builtin.ObjectAttr
noncomputable abbrev accObj (d : Addr) (its : Array Value) (n : Nat) : Obj := { cls := .ref 143, dict := some d, data := .seq its n }
theorem acc_at {h₀ h : Heap} {L x d : Addr} {its : Array Value} {n k : Nat} {es : List DictEntry} {news : Led} (N : News h₀ L h news) (h1 : (x, accObj d its n) ∈ news) (h2 : (d, dictOf es k) ∈ news) :
    InstAt h x (accObj d its n) 143 (some (dictOf es k)) := ⟨(N _ h1).1, rfl, rfl, (N _ h2).1⟩

variable {prog : Program} {w : World} {A : Around} {E : Value → Shared → Prop} {s : Shared} {K : Frag} {x C dx L : Addr} {h₀ : Heap} {m : Str → Option Value} {news news' : Led} {ox od : Obj} {es es' : List DictEntry} {n n' : Nat} {name : Str} {v : Value}

theorem canon_list_ga : (Manifest.canonical "list.__getattribute__" != "object.__getattribute__") = false := by decide +kernel
theorem method_acc {f : Value} {tf : String} {od : Option Obj} {pl : Sem Bool} {Q : Value × List Value → Shared → Prop} (X : K.In s.heap) (I : InstAt s.heap x ox C od) (hga : findIn K (.ref C) "__getattribute__" = some (some (.builtin "list.__getattribute__"))) (hk : findIn K (.ref C) "__getattr__" = some none)
    (hf : findIn K (.ref C) name = some (some f)) (ht : Looks (model prog w) s.heap (typeOf f) (.type tf)) (htf : ((Value.type tf != Value.type "function") && (Value.type tf != Value.type "method_descriptor") && (Value.type tf != Value.type "wrapper_descriptor")) = false) (hs : shadowIn od name = some false) (h : Q (f, [.ref x]) s) :
    wpAny (model prog w) A (getMethod (.ref x) name pl) Q E s := by
  unfold getMethod specialOf
  refine wpAny_bind (wpAny_bind (I.type.here ((looks_findIn X hga).here ?_)))
  (try dsimp only)
  rw [canon_list_ga, if_neg (by decide)]
  refine wpAny_bind (wpAny_bind (I.type.here ((looks_findIn X hk).here ?_)))
  refine wpAny_bind (wpAny_bind (I.type.here ((looks_findIn X hf).here (wpAny_bind (ht.here ?_)))))
  rw [if_neg (by rw [htf]; decide)]
  refine wpAny_bind (wpAny_loadPart I.at_ ?_)
  have hd := I.dict
  cases e : ox.dict with
  | none => exact wpAny_bind (wpAny_rule (wpAny_pure h))
  | some dx =>
    cases od with
    | none => rw [e] at hd; exact hd.elim
    | some o =>
      rw [e] at hd
      obtain ⟨r, a, b⟩ := Option.map_eq_some_iff.mp hs
      refine wpAny_bind (wpAny_bind (wpAny_loadPart hd ?_))
      rw [nsLook_of a]
      refine wpAny_pure ?_
      simp only [b]
      exact wpAny_bind (wpAny_rule (wpAny_pure h))

noncomputable def overList (K : Frag) (C : Addr) : Bool := (clsIn K C).any fun cd => cd.mro == [.ref C, .type "list", .type "object"]
theorem refuse_list (self : Value) (C : Addr) : refuseLoop self "__setattr__" [.ref C, .type "list", .type "object"] = pure () := by
  rw [refuseLoop_ref]
  kernel_rfl
theorem osa_openL {od : Option Obj} {tk : Tok} {r : Option Value} {R : Result → Shared → Prop} (X : K.In s.heap) (I : InstAt s.heap x ox C od) (hp : overList K C = true) (ht : takerIn K C name = some r)
    (h : ∀ b, wpAny (model prog w) A.in1 (match r with | some a => setByDescriptor a (.ref x) v | none => storeInOwnDict (.ref x) (.ref C) (.str name tk) name v b)
      (fun fin s' => match fin with | .done f => R (.ok f) s' | .again c' => c'.quiet = true ∧ codeAny (model prog w) A c' R s') (fun e s' => R (.error e) s') s) :
    codeAny (model prog w) A (.call (.builtin "object.__setattr__") ⟨[.ref x, .str name tk, v], []⟩) R s := by
  have SF := PySem.F.store_object
  obtain ⟨cd, hc, ho⟩ := any_some hp
  have ho : cd.mro = [.ref C, .type "list", .type "object"] := beq_iff_eq.mp ho
  have sub : Looks (model prog w) s.heap (isInstance (.ref x) (.type "object")) true := I.type.andThen (looks_mroIn X (by unfold mroIn; rw [hc, Option.bind_some, ho]; simp))
  refine codeAny_call_builtin SF.slot.plain SF.entry (@check_slot (model prog w) _ _ s "object.__setattr__" "object" "__setattr__" (.ref x) [.str name tk, v] [] _ SF.kind SF.split sub (SF.args (.ref x) (.str name tk) v) ?_)
  obtain ⟨attr, ha, hr⟩ := Option.bind_eq_some_iff.mp ht
  have hm : Looks (model prog w) s.heap (mroOf (.ref C)) cd.mro := (looks_clsIn X hc).andThen .now
  have L3 : Looks (model prog w) s.heap (storeTaker? attr) r := by
    cases attr with
    | none => cases hr; exact .now
    | some a =>
      obtain ⟨b, hb, rfl⟩ := Option.map_eq_some_iff.mp hr
      refine (looks_takesIn X hb).andThen ?_
      cases b <;> exact .now
  rw [osa_eq, refuse_eq]
  refine wpAny_bind (wpAny_bind (I.type.here (wpAny_bind (hm.here ?_))))
  rw [ho, refuse_list]
  refine wpAny_pure (wpAny_bind (I.type.here (wpAny_bind ((looks_findIn X ha).here (wpAny_bind (L3.here ?_))))))
  exact h _

theorem osa_dictL {ox od od' : Obj} {dx : Addr} {tk : Tok} {pre post : List (Addr × Obj)} {R : Result → Shared → Prop} (F : Fr h₀ L s.heap m) (N : News h₀ L s.heap (pre ++ (dx, od) :: post)) (X : K.In s.heap)
    (I : InstAt s.heap x ox C (some od)) (hd : ox.dict = some dx) (hp : overList K C = true) (ht : takerIn K C name = some none) (hh : (clsIn K C).any (·.hasDict) = true)
    (hl : (lookIn name od).isSome = true) (h1 : ∀ p ∈ pre, p.1 ≠ dx) (h2 : ∀ p ∈ post, p.1 ≠ dx)
    (e : Obj.putName name (PyData.keyHash w.params name) (.str name s.toks) v od = od') (e' : od'.data = .dict es.toArray n) (hz : es.length ≤ 1000)
    (h : ∀ h', Fr h₀ L h' m → News h₀ L h' (pre ++ (dx, od') :: post) → R (.ok (.ret .none)) { s with heap := h', toks := s.toks + 1 }) :
    codeAny (model prog w) A (.call (.builtin "object.__setattr__") ⟨[.ref x, .str name tk, v], []⟩) R s := by
  refine osa_openL X I hp ht fun b => ?_
  obtain ⟨cd, hc, hd'⟩ := any_some hh
  obtain ⟨U1, U2⟩ := news_upd (f := Obj.putName name (PyData.keyHash w.params name) (.str name s.toks) v) F N h1 h2 e (by obtain ⟨_, _, dd, _⟩ := od'; cases e'; rfl)
  have D := (N (dx, od) (by simp)).1
  have D' := (U2 (dx, od') (by simp)).1
  obtain ⟨hx, hcl, hn, -⟩ := I
  obtain ⟨oc, odi, oda, osl⟩ := ox
  (try dsimp only at hcl hd)
  subst hcl hd
  refine wpAny_bind (wpAny_pure (wpAny_bind (wpAny_bind (wpAny_loadPart hx (wpAny_bind ((looks_clsIn X hc).here ?_))))))
  rw [hd']
  refine wpAny_pure (a := some dx) (wpAny_bind (wpAny_pure (wpAny_bind ?_)))
  unfold nsSet
  refine wpAny_bind (wpAny_bind (wpAny_askSetting (wpAny_pure (wpAny_bind (wpAny_mkText (wpAny_bind (wpAny_loadPart D ?_)))))))
  unfold lookIn at hl
  split at hl
  · rename_i es₀ n₀ q
    rw [q]
    (try dsimp only)
    have c : (!es₀.any (·.key.isStr name) && es₀.any (·.refKey)) = false := by
      rw [← Array.any_toList, ← Array.any_toList]
      split at hl
      · rename_i en he
        rw [List.any_eq_true.mpr ⟨en, List.mem_of_find?_eq_some he, List.find?_some he⟩]; rfl
      · split at hl
        · cases hl
        · rename_i z; rw [Bool.not_eq_true] at z; rw [z, Bool.and_false]
    rw [aRefKeyMayBeTheName_at, c]
    refine wpAny_updatePart D ?_
    refine wpAny_bind (wpAny_lookBehind D' (by rw [e']; exact pastItsLine_dict (by rw [List.size_toArray, sizeLine_eq]; lia)) ?_)
    exact wpAny_pure (h _ U1 U2)
  · cases hl

theorem set_acc {Q : Unit → Shared → Prop} (F : Fr h₀ L s.heap m) (X₀ : K.In h₀) (N : News h₀ L s.heap news) (I : InstAt s.heap x ox C (some (dictOf es n))) (hd : ox.dict = some dx)
    (hs : findIn K (.ref C) "__setattr__" = some (some (.builtin "object.__setattr__"))) (hp : overList K C = true) (ht : takerIn K C name = some none) (hh : hasDictIn K C = true) (hl : (getL name es).isSome = true)
    (e : (putL name (PyData.keyHash w.params name) (.str name (s.toks + 1)) v es, putN name es n) = (es', n')) (U : Upd dx (dictOf es n) (dictOf es' n') news news') (hz : es'.length ≤ 1000)
    (h : ∀ h', Fr h₀ L h' m → News h₀ L h' news' → Q () { s with heap := h', toks := s.toks + 2 }) :
    wpAny (model prog w) A (setAttr (.ref x) name v) Q E s := by
  obtain ⟨pre, post, rfl, rfl, a, b⟩ := U.split
  obtain ⟨e1, e2⟩ := Prod.mk.inj e
  exact set_plain (X₀.keeps F.keep) I hs (osa_dictL (s := { s with toks := s.toks + 1 }) F N (X₀.keeps F.keep) I hd hp ht hh hl a b (by rw [putName_dict, e1, e2]) rfl hz fun h' F' N' => h h' F' N')
end

end
section
section
open PySem.Calls Builtin Builtin.ObjectAttr
variable {prog : Program} {w : World} {A : Around} {E : Value → Shared → Prop} {s : Shared} {K : Frag} {x C dx L : Addr} {h₀ : Heap} {m : Str → Option Value} {news news' : Led} {ox od : Obj} {es es' : List DictEntry} {n n' : Nat} {name : Str} {v : Value} {Q : Value → Shared → Prop}

/-- a method of a built-in type upon an case of a class that is below it -/
theorem call_below {i owner nm : String} {b : Builtin} {self : Value} {rest : List Value} (hk : builtinKind i = some .method ∨ builtinKind i = some .slot) (hs : splitId i = some (owner, nm))
    (hi : Looks (model prog w) s.heap (isInstance self (.type owner)) true) (hp : plainId i = true) (hb : entryFor table i = some b) (ha : argsOk i ⟨self :: rest, []⟩)
    (hc : wpAny (model prog w) A.in1 (b ⟨self :: rest, []⟩) (fun fin s' => ∃ v, fin = .done (.ret v) ∧ Q v s') E s) : wpAny (model prog w) A (call (.builtin i) (self :: rest)) Q E s := by
  have fin : wpAny (model prog w) A.in1 (b ⟨self :: rest, []⟩) (fun fin s' => match fin with | .done f => (match (Except.ok f : Result) with | .ok (.ret v) => Q v s' | .ok _ => False | .error e => E e s') | .again c' => c'.quiet = true ∧ codeAny (model prog w) A c' (fun r s' => match r with | .ok (.ret v) => Q v s' | .ok _ => False | .error e => E e s') s') E s :=
    wpAny_mono hc (fun f s' z => by obtain ⟨v, rfl, q⟩ := z; exact q) fun _ _ z => z
  refine wpAny_call (codeAny_call_builtin hp hb ?_)
  have sg : ∀ {sig}, Manifest.signature? i = some sig → Bind.checkArgs i sig ⟨self :: rest, []⟩ = pure () := fun {sig} e => by simpa only [argsOk, e] using ha
  rcases hk with hk | hk <;>
  · simp only [checkBuiltinCall, hk, hs]
    refine wpAny_bind (hi.here ?_)
    simp only [Bool.not_true, Bool.false_eq_true, if_false]
    cases e : Manifest.signature? i with
    | none => exact wpAny_pure fin
    | some sig =>
      show wpAny _ _ (Bind.checkArgs i sig ⟨self :: rest, []⟩) _ _ s
      rw [sg e]; exact wpAny_pure fin

theorem upd_both {h : Heap} {d : Addr} {o o' : Obj} {f : Obj → Obj} (F : Fr h₀ L h m) (N : News h₀ L h news) (U : Upd d o o' news news') (e : f o = o') (hf : o'.isFreed = false) : Fr h₀ L (h.update d f) m ∧ News h₀ L (h.update d f) news' := by
  obtain ⟨pre, post, rfl, rfl, a, b⟩ := U.split
  exact news_upd F N a b e hf
theorem upd_at {h : Heap} {d : Addr} {o o' : Obj} (N : News h₀ L h news) (U : Upd d o o' news news') : h.get? d = some o := by
  obtain ⟨pre, post, rfl, rfl, a, b⟩ := U.split
  exact (N _ (List.mem_append_right _ (List.mem_cons_self ..))).1

theorem append_acc {its : Array Value} {k : Nat} (F : Fr h₀ L s.heap m) (X₀ : K.In h₀) (N : News h₀ L s.heap news) (hsub : subIn K (.ref 143) (.type "list") = some true) (hz : its.size ≤ 1000000)
    (U : Upd x (accObj dx its k) (accObj dx (its.push v) (k + 1)) news news') (h : ∀ h', Fr h₀ L h' m → News h₀ L h' news' → Q .none { s with heap := h' }) :
    wpAny (model prog w) A (call (.builtin "list.append") [.ref x, v]) Q E s := by
  have hx := upd_at N U
  have hi : Looks (model prog w) s.heap (isInstance (.ref x) (.type "list")) true := ((Looks.ld (part := none) hx).andThen .now : Looks (model prog w) s.heap (typeOf (.ref x)) (.ref 143)).andThen (looks_subIn (X₀.keeps F.keep) hsub)
  refine call_below (.inl (by decide +kernel)) (by decide +kernel : splitId "list.append" = some ("list", "append")) hi (by decide +kernel) PySem.F.entry_list_append (PySem.F.args_list_append_2 _ _) ?_
  have hz1 : its.size ≤ sizeLine := by rw [sizeLine_eq]; lia
  show wpAny _ _ (updateSeq x (·.push v) >>= fun _ => ret .none) _ _ s
  obtain ⟨F', N'⟩ := upd_both (f := Obj.mapSeq (·.push v)) F N U (by simp [Obj.mapSeq]) rfl
  exact wpAny_bind (wpAny_updateSeq hx rfl (wpAny_pure ⟨.none, rfl, h _ F' N'⟩) hz1)
end


/-- the one attribute of an _Accumulator -/
noncomputable abbrev isz (hh : Int) (kt : Tok) (iv : Value) : Obj := dictOf [⟨hh, .str (Str.ofString "_initial_size") kt, iv⟩] 1
/-- an _Accumulator upon the ledger -/
noncomputable abbrev acc (x d : Addr) (vs : List Value) (n : Nat) (hh : Int) (kt : Tok) (iv : Value) (rest : Led) : Led := (x, accObj d vs.toArray n) :: (d, isz hh kt iv) :: rest

set_option maxRecDepth 100000 in
set_option maxHeartbeats 8000000 in
theorem acc_push (w : World) (x d n hh kt iv) (vs : List Value) (rest : Led) (a b : Str) (ta tb : Tok) (hdx : @Ne Nat d x) (hxr : ∀ p ∈ rest, p.1 ≠ x) (hz : vs.length ≤ 1000) :
    Does w 10 100 (.ref 87) [.ref x, .str a ta, .str b tb] (acc x d vs n hh kt iv rest)
      (fun K => ∀ q n₂, (∀ p ∈ acc x d vs n hh kt iv rest, p.1 < q) → K .none ((q, { cls := .type "tuple", data := .seq [.str a ta, .str b tb].toArray }) :: acc x d (vs ++ [.ref q]) n₂ hh kt iv rest)) := by
  k_with_none
  k_with "my k_in" => first | with_reducible assumption | exact Frag.In.keeps (by with_reducible assumption) (Fr.keep (by with_reducible assumption))
  k_with "my k_ne" => (refine neN ?_; (try dsimp only); first | with_reducible assumption | (refine Ne.symm ?_; with_reducible assumption) | lia)
  k_with "my ROOM" => ((try dsimp only [Around.deeper, Around.mark, Around.in1]); first | exact room3 (by assumption) rfl | exact room2 (by assumption) rfl | lia)
  k_with "my ite" => first | (refine ite_pos (by with_reducible assumption) ?_) | (refine ite_neg (by with_reducible assumption) ?_) | (refine ite_pos (decide_eq_true (by with_reducible assumption)) ?_) | (refine ite_neg (Bool.eq_false_iff.mp (decide_eq_false (by with_reducible assumption))) ?_)
  k_with "my exec While" => (try k_fold); refine Stop.mk ?_
  k_with "my subscriptTail Name Name str int" => (refine sub_str (by assumption) (by assumption) ?_)
  k_with "my call builtin:ord" => (refine ord_S ?_)
  k_with "my k_all" => with_reducible assumption
  k_with "my k_inst" => (refine' acc_at (by k_asm) (by k_mem) (by k_mem))
  k_with "my call builtin:list.append" => (((k_dflt (refine' append_acc (by k_asm) (by k_asm) (by k_asm) (by k_is) ?_ (by k_upd) ?_; k_whole)); (next => (simp; lia)); intro hpzz Fpzz Npzz; (try k_sweep))); (try revert Npzz); (try revert Fpzz); (try revert hpzz); intros
  k_with "my getMethod ref" => (k_dflt (refine' method_acc (by k_in) (by k_inst) (by k_is) (by k_is) (by k_is) (by first | exact looks_typeIn (by k_in) (by k_is) | exact Looks.of_pure PySem.F.type_list_append) (by decide) (by rfl) ?_; k_whole))
  unfold Does
  intro dp un gd env outer A₀ base h₀ L m sH sG sD sT sO R p loose mean mg mb hf hk B F X N T hd hu hret
  k_dflt (refine' code_defF ?k1 ?k2 ?k3 ?k4 ?k5 ?kA ?kF ?kK ?k6 ?k7 ?k8 ?k9 ?kB ?_ ?c2 ?c3 ?c4 ?c5; (case kA => exact rfl); (case kF => exact hf); (case kK => exact hk); (case k1 => exact B); (case k2 => exact F); (case k3 => exact X); (case k4 => exact N); (case k5 => exact T); (case k6 => k_is); (case k7 => k_is); (case k8 => (refine room_of hd ?_; dsimp only; lia)); (case k9 => first | exact BindsTo.of_eq rfl | exact binds_K (by k_in) rfl (by k_is) rfl rfl rfl); (case c5 => decide); (case kB => exact locs rfl); (case c2 => exact rfl); (case c3 => exact rfl); (case c4 => exact rfl); k_whole)
  intro g' L' h1 FG' F' N' B' X' T'
  (try dsimp only)
  (try k_fold)
  k_steps
  rename Fr _ _ _ _ => F9
  rename News _ _ _ _ => N9
  (try simp only [List.push_toArray] at N9)
  refine hret _ _ ?_ _ _ F9 N9
  (refine kst_ltOf ?_; simp only [AllLt]; assumption)

end
section
section
open PySem.Calls
variable {prog : Program} {w : World} {A₀ A : Around} {s : Shared} {base h₀ : Heap} {outer : List Env} {L : Addr} {m mg mb : Str → Option Value} {env : Env} {news : List (Addr × Obj)} {K : Frag} {p : Program} {loose : List Str} {mean : ExcName → Option Value}
  {R : Result → Shared → Prop} {name qual : Str} {params : Arguments} {body : List Stmt} {scope : Scope} {dV kV doc pm cdv ct oc : Value} {an od : Option Addr} {osl : Array (Option Value)} {f cc : Addr} {args : Args} {binds : List (Str × Value)}
theorem code_superF (B : Below A₀ base outer h₀) (F : Fr h₀ L s.heap m) (X₀ : K.In h₀) (N : News h₀ L s.heap news) (T : Top p loose mean mg mb h₀) (hA : A.frames = some (env :: outer)) (hf : env.frame = some L) (hke : env.scope.kind = .function)
    (ho : K.lookup f = some ⟨oc, od, .func (ksFn name qual params body scope dV kV doc pm an cdv ct cc), osl⟩) (hcd : codeIn K cdv qual = true) (hroom : A.depth < recursionLimit)
    (hbind : BindsTo s (ksFn name qual params body scope dV kV doc pm an cdv ct cc) args binds) (hloc : ∀ y ∈ binds, scope.names.lookup y.1 = some .local)
    (h : ∀ g L' h₁, Fr h₀ L g m → Fr g L' h₁ (fun y => binds.reverse.lookup y) → News g L' h₁ news → Below A base (env :: outer) g → K.In g → Top p loose mean mg mb g → (∀ p ∈ news, p.1 < L') →
      _root_.PySem.wpAt (model prog w) (A.deeper (ksEnv qual scope L' f cdv cc)) (.func body (ksEnv qual scope L' f cdv cc)) (execs body (ksEnv qual scope L' f cdv cc))
        (fun fl s' => LeaveK h₀ L m g R (match fl with | .ret v => v | _ => .none) s')
        (fun _ _ => False)
        { s with heap := h₁, toks := s.toks + binds.length })
    (hcell : ∀ x ∈ scope.names, x.2 ≠ .cell) (hco : scope.isCoroutine = false) (hgen : scope.isGenerator = false) (hk : scope.kind = .function) : codeAny (model prog w) A (.call (.ref f) args) R s :=
  ks_code_super B F X₀ N T hA hf hke ho hcd hroom hbind hloc (fun g L' h₁ a b c d e f g => ks_wpAt_mono (h _ L' h₁ a b c d e f g) (fun _ _ x => x) fun _ _ x => x.elim) hcell hco hgen hk
end

section
open PySem.Calls Builtin Builtin.ObjectAttr
variable {prog : Program} {w : World} {A : Around} {E : Value → Shared → Prop} {s : Shared} {K : Frag} {x C D so L : Addr} {h₀ : Heap} {m : Str → Option Value} {news news' : Led} {ox : Obj} {odx : Option Obj} {name : Str} {v : Value}

noncomputable abbrev boundB (bt id : String) (x : Addr) : Obj := { cls := .type bt, data := .fields #[.builtin id, .ref x] }
theorem slot_wget : Slot "wrapper_descriptor" "__get__" "wrapper_descriptor.__get__" := .of (owner := "wrapper_descriptor") (n := "__get__") (by rw [typeLookup_type, builtinLookup_eq_fast]; kernel_rfl) (by decide +kernel) (by decide +kernel) (by decide +kernel)
  (by first | exact .inl (by decide +kernel) | exact .inr (by decide +kernel)) (by rw [isSubtype_type]; kernel_rfl)
theorem slot_mget : Slot "method_descriptor" "__get__" "method_descriptor.__get__" := .of (owner := "method_descriptor") (n := "__get__") (by rw [typeLookup_type, builtinLookup_eq_fast]; kernel_rfl) (by decide +kernel) (by decide +kernel) (by decide +kernel)
  (by first | exact .inl (by decide +kernel) | exact .inr (by decide +kernel)) (by rw [isSubtype_type]; kernel_rfl)
theorem entry_wget : entryFor table "wrapper_descriptor.__get__" = some Builtin.«wrapper_descriptor.__get__» := entryFor_of_tree (by kernel_rfl)
theorem entry_mget : entryFor table "method_descriptor.__get__" = some Builtin.«method_descriptor.__get__» := entryFor_of_tree (by kernel_rfl)
theorem args_wget (a b c : Value) : argsOk "wrapper_descriptor.__get__" ⟨[a, b, c], []⟩ := by unfold argsOk; kernel_rfl
theorem args_mget (a b c : Value) : argsOk "method_descriptor.__get__" ⟨[a, b, c], []⟩ := by unfold argsOk; kernel_rfl
theorem type_llen : typeOf (.builtin "list.__len__") = pure (.type "wrapper_descriptor") := by show builtinType _ = _; rw [builtinType_eq_fast]; kernel_rfl
theorem type_linit : typeOf (.builtin "list.__init__") = pure (.type "wrapper_descriptor") := by show builtinType _ = _; rw [builtinType_eq_fast]; kernel_rfl
theorem type_lpop : typeOf (.builtin "list.pop") = pure (.type "method_descriptor") := by show builtinType _ = _; rw [builtinType_eq_fast]; kernel_rfl

theorem looks_isi {M : Model} {h : Heap} {g d tk os} {a b b' : Value} {r : Bool} {Q : Bool → Shared → Prop} (hi : Looks M h (isInstance a b) r) (e : b' = b) (q : Q r ⟨h, g, d, tk, os⟩) : wpAny M A (isInstance a b') Q E ⟨h, g, d, tk, os⟩ := by
  subst e; exact hi.at q
theorem get_len {Q : Value → Shared → Prop} (hi : Looks (model prog w) s.heap (isInstance (.ref x) (.type "list")) true)
    (h : Q (.ref s.heap.objs.size) { s with heap := s.heap.push (boundB "method-wrapper" "list.__len__" x) }) :
    wpAny (model prog w) A (call (.builtin "wrapper_descriptor.__get__") [.builtin "list.__len__", .ref x, .ref C]) Q E s := by
  obtain ⟨hp, g, d, t, os⟩ := s
  (try dsimp only at hi h)
  refine wpAny_call_entry slot_wget type_llen entry_wget ?_ (args_wget _ _ _)
  unfold Builtin.«wrapper_descriptor.__get__»
  repeat (first | (with_reducible refine looks_isi hi (by kernel_rfl) ?_) | (with_reducible refine wpAny_newObj_type ?_ (by size_fits)) | lk | wp_step)
  all_goals exact ⟨_, rfl, h⟩
theorem get_init {Q : Value → Shared → Prop} (hi : Looks (model prog w) s.heap (isInstance (.ref x) (.type "list")) true)
    (h : Q (.ref s.heap.objs.size) { s with heap := s.heap.push (boundB "method-wrapper" "list.__init__" x) }) :
    wpAny (model prog w) A (call (.builtin "wrapper_descriptor.__get__") [.builtin "list.__init__", .ref x, .ref C]) Q E s := by
  obtain ⟨hp, g, d, t, os⟩ := s
  (try dsimp only at hi h)
  refine wpAny_call_entry slot_wget type_linit entry_wget ?_ (args_wget _ _ _)
  unfold Builtin.«wrapper_descriptor.__get__»
  repeat (first | (with_reducible refine looks_isi hi (by kernel_rfl) ?_) | (with_reducible refine wpAny_newObj_type ?_ (by size_fits)) | lk | wp_step)
  all_goals exact ⟨_, rfl, h⟩
theorem get_pop {Q : Value → Shared → Prop} (hi : Looks (model prog w) s.heap (isInstance (.ref x) (.type "list")) true)
    (h : Q (.ref s.heap.objs.size) { s with heap := s.heap.push (boundB "builtin_function_or_method" "list.pop" x) }) :
    wpAny (model prog w) A (call (.builtin "method_descriptor.__get__") [.builtin "list.pop", .ref x, .ref C]) Q E s := by
  obtain ⟨hp, g, d, t, os⟩ := s
  (try dsimp only at hi h)
  refine wpAny_call_entry slot_mget type_lpop entry_mget ?_ (args_mget _ _ _)
  unfold Builtin.«method_descriptor.__get__»
  repeat (first | (with_reducible refine looks_isi hi (by kernel_rfl) ?_) | (with_reducible refine wpAny_newObj_type ?_ (by size_fits)) | lk | wp_step)
  all_goals exact ⟨_, rfl, h⟩

theorem super_body {h : Heap} {g d t os} {tn gid : String} {a : Value} {l₀ l : List Value} {v : Obj} {tk : Tok} {Q : Fin → Shared → Prop}
    (hso : h.get? so = some (ks_superObj D x C)) (hno : Looks (model prog w) h (opaqueClassAbove (.ref C)) none)
    (hC : Looks (model prog w) h (mroOf (.ref C)) l₀) (hl : (l₀.dropWhile (· != .ref D)).drop 1 = l) (X : K.In h)
    (hf : alongIn K name l = some (some a)) (hta : typeOf a = pure (.type tn)) (hg : typeLookup (.type tn) "__get__" = pure (some (.builtin gid))) (hxC : x ≠ C) (hn : (name == ("__class__" : Str)) = false)
    (hget : ∀ (A' : Around) (E' : Value → Shared → Prop) (Q' : Value → Shared → Prop), Q' (.ref h.objs.size) ⟨h.push v, g, d, t, os⟩ → wpAny (model prog w) A' (call (.builtin gid) [a, .ref x, .ref C]) Q' E' ⟨h, g, d, t, os⟩)
    (hq : Q (.done (.ret (.ref h.objs.size))) ⟨h.push v, g, d, t, os⟩) :
    wpAny (model prog w) A (Builtin.«super.__getattribute__» ⟨[.ref so, .str name tk], []⟩) Q E ⟨h, g, d, t, os⟩ := by
  have hne : (Value.ref x == Value.ref C) = false := by simp [hxC]
  have hdt : (ks_superObj D x C).data = .fields #[.ref D, .ref x, .ref C] := rfl
  have f0 : (#[.ref D, .ref x, .ref C] : Array Value)[0]? = some (.ref D) := rfl
  have f1 : (#[.ref D, .ref x, .ref C] : Array Value)[1]? = some (.ref x) := rfl
  have f2 : (#[.ref D, .ref x, .ref C] : Array Value)[2]? = some (.ref C) := rfl
  unfold Builtin.«super.__getattribute__»
  repeat (first
    | (with_reducible refine wpAny_field hso hdt f0 ?_) | (with_reducible refine wpAny_field hso hdt f1 ?_) | (with_reducible refine wpAny_field hso hdt f2 ?_)
    | (with_reducible refine ks_wpAny_notOpaque hno ?_)
    | (with_reducible refine Looks.at hC ?_; rw [hl])
    | (refine ks_forIn_along X (fun _ _ => rfl) rfl ?_ hf)
    | (with_reducible refine wpAny_of_eq hta ?_) | (with_reducible refine wpAny_of_eq hg ?_)
    | (with_reducible refine hget _ _ _ ?_)
    | (simp only [hn, hne, Bool.or_false, Bool.false_eq_true, if_false])
    | wp_step
    | dsimp only)
  all_goals exact hq
/-- what super() reads of a built-in type's own: it is bound to the case -/
theorem super_reads {tn gid : String} {a : Value} {l₀ l : List Value} {v : Obj} {pl : Sem Bool} {Q : Value × List Value → Shared → Prop}
    (hso : s.heap.get? so = some (ks_superObj D x C)) (hno : Looks (model prog w) s.heap (opaqueClassAbove (.ref C)) none)
    (hC : Looks (model prog w) s.heap (mroOf (.ref C)) l₀) (hl : (l₀.dropWhile (· != .ref D)).drop 1 = l) (X : K.In s.heap)
    (hf : alongIn K name l = some (some a)) (hta : typeOf a = pure (.type tn)) (hg : typeLookup (.type tn) "__get__" = pure (some (.builtin gid))) (hxC : x ≠ C) (hn : (name == ("__class__" : Str)) = false)
    (hget : ∀ (A' : Around) (E' : Value → Shared → Prop) (s' : Shared) (Q' : Value → Shared → Prop), s'.heap = s.heap → Q' (.ref s'.heap.objs.size) { s' with heap := s'.heap.push v } → wpAny (model prog w) A' (call (.builtin gid) [a, .ref x, .ref C]) Q' E' s')
    (h : Q (.ref s.heap.objs.size, []) { s with heap := s.heap.push v, toks := s.toks + 1 }) :
    wpAny (model prog w) A (getMethod (.ref so) name pl) Q E s := by
  obtain ⟨hp, g, d, t, os⟩ := s
  have hlk := F.ks_slot_super_ga.lookup
  have hT : ∀ t', (⟨hp, g, d, t', os⟩ : Shared).TypeIs (.ref so) "super" := fun _ => ⟨_, hso, rfl⟩
  unfold getMethod
  refine wpAny_bind (wpAny_specialOf (hT _) hlk ?_)
  show wpAny _ _ (if (Manifest.canonical "super.__getattribute__" != "object.__getattribute__") = true then _ else _) _ _ _
  rw [if_pos F.ks_canon_super_ga]
  unfold getAttr getAttrBy
  refine wpAny_bind (wpAny_bind (wpAny_mkText (wpAny_holding (wpAny_bind (wpAny_typeOf (hT _) (wpAny_bind (wpAny_of_eq hlk ?_)))))))
  show wpAny _ _ (getAttrByItsOwn (.ref so) (.str name t) (.type "super") (.builtin "super.__getattribute__") true false) _ _ _
  unfold getAttrByItsOwn hookBefore callGetattribute boundAndCalled
  refine wpAny_bind (wpAny_of_eq (show (if onTheHeap (.type "super") then typeLookup (.type "super") "__getattr__" else pure none) = pure none from rfl) ?_)
  refine wpAny_bind (wpAny_attempt (wpAny_holding ?_))
  show wpAny _ _ (bindSpecial (.builtin "super.__getattribute__") (.ref so) >>= _) _ _ _
  refine wpAny_bind (wpAny_of_eq (F.ks_slot_super_ga.bind _) ?_)
  have body : wpAny (model prog w) A (call (.builtin "super.__getattribute__") [.ref so, .str name t]) (fun z s' => z = .ref hp.objs.size ∧ s' = ⟨hp.push v, g, d, t + 1, os⟩) (fun _ _ => False) ⟨hp, g, d, t + 1, os⟩ :=
    wpAny_call_entry F.ks_slot_super_ga (hT _) F.ks_entry_super_ga (super_body hso hno hC hl X hf hta hg hxC hn (fun A' E' Q' q => hget A' E' _ Q' rfl q) ⟨_, rfl, rfl, rfl⟩) (F.ks_gaArgs_super _ _)
  refine wpAny_mono body (fun z s' hz => ?_) fun _ _ z => z.elim
  obtain ⟨rfl, rfl⟩ := hz
  exact wpAny_pure (wpAny_pure h)

theorem super_acc {tn gid : String} {a : Value} {v : Obj} {pl : Sem Bool} {Q : Value × List Value → Shared → Prop} (F : Fr h₀ L s.heap m) (X₀ : K.In h₀) (N : News h₀ L s.heap news) (hso : (so, ks_superObj D x C) ∈ news) (I : InstAt s.heap x ox C odx)
    (ho : nsIn K cStatics "thirdparty.any" = some none) (hm : ks_superIn K C D name = some (some a)) (hta : typeOf a = pure (.type tn)) (hg : typeLookup (.type tn) "__get__" = pure (some (.builtin gid))) (hn : (name == ("__class__" : Str)) = false) (hv : v.isFreed = false)
    (hget : ∀ (A' : Around) (E' : Value → Shared → Prop) (s' : Shared) (Q' : Value → Shared → Prop), s'.heap = s.heap → Q' (.ref s'.heap.objs.size) { s' with heap := s'.heap.push v } → wpAny (model prog w) A' (call (.builtin gid) [a, .ref x, .ref C]) Q' E' s')
    (h : ∀ q h', Fr h₀ L h' m → News h₀ L h' ((q, v) :: news) → (∀ p ∈ news, p.1 < q) → Q (.ref q, []) { s with heap := h', toks := s.toks + 1 }) : wpAny (model prog w) A (getMethod (.ref so) name pl) Q E s := by
  have X : K.In s.heap := X₀.keeps F.keep
  unfold ks_superIn at hm
  obtain ⟨cd, hc, hm⟩ := Option.bind_eq_some_iff.mp hm
  have LC : Looks (model prog w) s.heap (mroOf (.ref C)) cd.mro := (looks_clsIn X hc).andThen .now
  exact super_reads (N _ hso).1 (looks_opaque X ho) LC rfl X hm hta hg (ks_ne X I hc) hn hget (h _ _ (F.push _) (N.push F _ hv) fun p hp => Heap.lt_size (N p hp).1)

theorem callWith_bb {bt id : String} {q : Addr} {pos : Pos} {env : Env} {Q : Value → Shared → Prop} (ho : s.heap.get? q = some (boundB bt id x)) (hb : bt = "method-wrapper" ∨ bt = "builtin_function_or_method") (h : wpAny (model prog w) A (call (.ref q) []) Q E s) :
    wpAny (model prog w) A (callWith pos (.ref q) [] (backTo pos (starEach [] env)) []) Q E s := by
  have hcl : ∀ _ : Unit, (Value.type bt != Value.type "method") = true ∧ (Value.type bt == Value.type "builtin_function_or_method" || Value.type bt == Value.type "method-wrapper") = true := by
    intro _; rcases hb with rfl | rfl <;> decide
  have kp : ∀ (s' : Shared), s'.heap.get? q = some (boundB bt id x) → ∀ {A' : Around} {E' : Value → Shared → Prop} {Q' : Keeper → Shared → Prop}, Q' .machine s' → wpAny (model prog w) A' (keeperOf (.ref q)) Q' E' s' := by
    intro s' hs A' E' Q' hq
    unfold keeperOf
    refine wpAny_bind (wpAny_load hs ?_)
    simp only [(hcl ()).1, (hcl ()).2, if_true]
    exact wpAny_pure hq
  unfold callWith
  refine wpAny_bind (wpAny_holding ?_)
  refine evalArgs_nil3 (wpAny_bind (wpAny_standAt (wpAny_bind (kp s ho ?_))))
  exact wpAny_bind (wpAny_mono h (fun r s₂ hr => wpAny_bind (wpAny_holding (wpAny_point (wpAny_pure hr)))) fun _ _ z => z)

theorem call_bb {bt id : String} {b : Builtin} {q : Addr} {Q : Value → Shared → Prop} (ho : s.heap.get? q = some (boundB bt id x)) (hb : bt = "method-wrapper" ∨ bt = "builtin_function_or_method")
    (hc : Looks (model prog w) s.heap (checkBoundCall id ⟨[.ref x], []⟩) ()) (hq : (Code.builtin id ⟨[.ref x], []⟩).quiet = true) (he : entryFor table id = some b)
    (h : ∀ A' E', wpAny (model prog w) A' (b ⟨[.ref x], []⟩) (fun fin s' => ∃ v, fin = .done (.ret v) ∧ Q v s') E' s) : wpAny (model prog w) A (call (.ref q) []) Q E s := by
  have hcl : (Value.type bt == Value.type "method" || Value.type bt == Value.type "builtin_function_or_method" || Value.type bt == Value.type "method-wrapper") = true ∧ (Value.type bt != Value.type "method") = true := by
    rcases hb with rfl | rfl <;> decide
  refine wpAny_call (codeAny_of_tree ?_)
  show wpAny _ A.in1 (callAny (.ref q) ⟨[], []⟩) _ _ s
  simp only [callAny]
  refine wpAny_bind (wpAny_load ho ?_)
  simp only [hcl.1, if_true]
  show wpAny _ _ (if (Value.type bt != Value.type "method") = true then _ else _) _ _ _
  rw [if_pos hcl.2]
  refine wpAny_bind (hc.here ?_)
  refine wpAny_bind (wpAny_pure (wpAny_pure ⟨hq, codeAny_builtin he (wpAny_mono (h _ _) (fun f s' z => ?_) fun _ _ z => z)⟩))
  obtain ⟨v, rfl, z⟩ := z
  exact z

theorem llen_args : checkBoundCall "list.__len__" ⟨[.ref x], []⟩ = pure () := by kernel_rfl
theorem linit_args : checkBoundCall "list.__init__" ⟨[.ref x], []⟩ = pure () := by kernel_rfl
theorem len_bb {q d : Addr} {vs : Array Value} {n : Nat} {Q : Value → Shared → Prop} (N : News h₀ L s.heap news) (hq : (q, boundB "method-wrapper" "list.__len__" x) ∈ news) (hx : (x, accObj d vs n) ∈ news)
    (h : Q (.int vs.size s.toks) { s with toks := s.toks + 1 }) : wpAny (model prog w) A (call (.ref q) []) Q E s := by
  refine call_bb (N _ hq).1 (.inl rfl) (Looks.of_pure llen_args) (Code.quiet_builtin _ (by decide +kernel)) PySem.F.entry_list_len fun A' E' => ?_
  have hx := (N _ hx).1
  obtain ⟨hp, g, dr, t, os⟩ := s
  (try dsimp only at hx h)
  unfold Builtin.«list.__len__» seqSize
  wp_walk
  exact ⟨_, rfl, h⟩

theorem lpop_args (X : K.In s.heap) (hx : s.heap.get? x = some ox) (hc : ox.cls = .ref C) (hno : notCls ox = true) (hm : subIn K (.ref C) (.type "module") = some false) (hqn : (clsIn K C).map (·.qualname) = some (Str.ofString "_Accumulator")) (hC : (clsIn K C).isSome = true) (ht : typeIn K (.ref C) = some (.type "type")) :
    Looks (model prog w) s.heap (checkBoundCall "list.pop" ⟨[.ref x], []⟩) () := by
  obtain ⟨cd, hcd⟩ := Option.isSome_iff_exists.mp hC
  have L1 : Looks (model prog w) s.heap (typeOf (.ref x)) (.ref C) := hc ▸ (Looks.ld hx).andThen .now
  have L2 : Looks (model prog w) s.heap (isInstance (.ref x) (.type "module")) false := L1.andThen (looks_subIn X hm)
  have L3 : Looks (model prog w) s.heap (typeOf (.ref C)) (.type "type") := looks_typeIn X ht
  have L4 := looks_clsIn (M := model prog w) X hcd
  have L5 : Looks (model prog w) s.heap (isType (.ref x)) false := by
    intro A Q E s k q
    unfold isType loadHead
    refine wpAny_bind (wpAny_loadPart (k _ _ hx) ?_)
    obtain ⟨a, b, c, e⟩ := ox
    cases c <;> first | exact wpAny_pure q | cases hno
  have hsig : Manifest.signature? "list.pop" = some ⟨.positional, "list.pop", "pop", .self, [⟨"index", .posOnly, false⟩]⟩ := by
    rw [signature?_of (id := "list.pop") (n := ['p', 'o', 'p']) (o := ['t', 's', 'i', 'l']) (by kernel_rfl) PySem.F.owner_list]
    kernel_rfl
  have hk : builtinKind "list.pop" = some .method := by decide +kernel
  have hva : Manifest.varargsMethods.contains "list.pop" = false := by decide +kernel
  have fin : Bind.checkArgs "list.pop" ⟨.positional, s!"{(Str.ofString "_Accumulator").toString}.{Bind.lastOf "list.pop"}", "pop", .self, [⟨"index", .posOnly, false⟩]⟩ ⟨[.ref x], []⟩ = pure () := by
    kernel_rfl
  have hqn : cd.qualname = Str.ofString "_Accumulator" := by rw [hcd] at hqn; exact Option.some.inj hqn
  intro A Q E s' k q
  unfold checkBoundCall
  rw [hsig, hk]
  (try dsimp only)
  show wpAny _ _ (if (_ : Bool) = true then _ else _) _ _ _
  rw [if_neg (by decide)]
  refine wpAny_bind ((L2.keeps k).here ?_)
  rw [hva]
  show wpAny _ _ (if (_ : Bool) = true then _ else _) _ _ _
  rw [if_neg (by decide)]
  refine wpAny_bind ((L5.keeps k).here ?_)
  show wpAny _ _ (if (_ : Bool) = true then _ else _) _ _ _
  rw [if_neg (by decide)]
  refine wpAny_bind ((L1.keeps k).here ?_)
  (try dsimp only)
  refine wpAny_bind ((L4.keeps k).here ?_)
  rw [hqn]
  refine wpAny_bind ((L3.keeps k).here ?_)
  show wpAny _ _ (if (_ : Bool) = true then _ else _) _ _ _
  rw [if_pos (by decide), fin]
  exact wpAny_pure q

theorem mapSeq_acc {f : Array Value → Array Value} {d : Addr} {a b : Array Value} {n : Nat} (hf : f a = b) (hs : b.size ≠ a.size) : Obj.mapSeq f (accObj d a n) = accObj d b (n + 1) := by
  subst hf
  show ({ cls := .ref 143, dict := some d, data := .seq (f a) (if (f a).size == a.size then n else n + 1) } : Obj) = _
  rw [if_neg (by simpa using hs)]
theorem pop_bb {q d : Addr} {vs : List Value} {n : Nat} {Q : Value → Shared → Prop} (F : Fr h₀ L s.heap m) (X₀ : K.In h₀) (N : News h₀ L s.heap news) (hq : (q, boundB "builtin_function_or_method" "list.pop" x) ∈ news) (hz : vs.length ≤ 1000000)
    (hm : subIn K (.ref 143) (.type "module") = some false) (hqn : (clsIn K 143).map (·.qualname) = some (Str.ofString "_Accumulator")) (hC : (clsIn K 143).isSome = true) (ht : typeIn K (.ref 143) = some (.type "type"))
    (U : Upd x (accObj d (vs ++ [v]).toArray n) (accObj d vs.toArray (n + 1)) news news')
    (h : ∀ h', Fr h₀ L h' m → News h₀ L h' news' → Q v { s with heap := h' }) : wpAny (model prog w) A (call (.ref q) []) Q E s := by
  have hx := upd_at N U
  refine call_bb (N _ hq).1 (.inr rfl) (lpop_args (X₀.keeps F.keep) hx rfl rfl hm hqn hC ht) (Code.quiet_builtin _ (by decide +kernel)) PySem.F.entry_list_pop fun A' E' => ?_
  have hz1 : (vs ++ [v]).toArray.size ≤ sizeLine := by rw [sizeLine_eq]; simp; lia
  have e1 : (vs ++ [v]).toArray.eraseIdxIfInBounds vs.length = vs.toArray := by simp [Array.eraseIdxIfInBounds, List.eraseIdx_append_of_length_le]
  have hz2 : ((vs ++ [v]).toArray.eraseIdxIfInBounds vs.length).size ≤ sizeLine + 1 := by rw [e1, sizeLine_eq]; simp; lia
  have he : (vs ++ [v]).toArray.isEmpty = false := by simp
  have hi : seqIndex? (-1) (vs ++ [v]).toArray.size = some vs.length := by
    rw [StrLaws.seqIndex_neg (by lia) (by simp; lia)]
    simp
    lia
  have hget : (vs ++ [v]).toArray[vs.length]? = some v := by simp
  obtain ⟨F', N'⟩ := upd_both (f := Obj.mapSeq (·.eraseIdxIfInBounds vs.length)) F N U (mapSeq_acc e1 (by simp)) rfl
  obtain ⟨hp, g, dr, t, os⟩ := s
  (try dsimp only at hx h F' N')
  generalize (vs ++ [v]).toArray = its at *
  unfold Builtin.«list.pop»
  repeat (first | (simp only [he, hi, hget, Option.bind_some, Option.map_some, Bool.false_eq_true, if_false]) | (with_reducible refine wpAny_updateSeq (f := fun x => x.eraseIdxIfInBounds vs.length) hx rfl ?_ hz1 hz2) | wp_step)
  all_goals exact ⟨_, rfl, h _ F' N'⟩

theorem init_bb {q d : Addr} {n : Nat} {Q : Value → Shared → Prop} (F : Fr h₀ L s.heap m) (N : News h₀ L s.heap news) (hq : (q, boundB "method-wrapper" "list.__init__" x) ∈ news)
    (U : Upd x (accObj d #[] n) (accObj d #[] n) news news')
    (h : ∀ h', Fr h₀ L h' m → News h₀ L h' news' → Q .none { s with heap := h' }) : wpAny (model prog w) A (call (.ref q) []) Q E s := by
  have hx := upd_at N U
  refine call_bb (N _ hq).1 (.inl rfl) (Looks.of_pure linit_args) (Code.quiet_builtin _ (by decide +kernel)) PySem.F.entry_list_init fun A' E' => ?_
  have hz1 : (#[] : Array Value).size ≤ sizeLine := by rw [sizeLine_eq]; simp
  have hz2 : (#[] : Array Value).size ≤ sizeLine + 1 := by rw [sizeLine_eq]; simp
  obtain ⟨F', N'⟩ := upd_both (f := Obj.mapSeq (fun _ => #[])) F N U (by simp [Obj.mapSeq]) rfl
  obtain ⟨hp, g, dr, t, os⟩ := s
  (try dsimp only at hx h F' N')
  unfold Builtin.«list.__init__»
  repeat (first | (with_reducible refine wpAny_updateSeq (f := fun _ => #[]) hx rfl ?_ hz1 hz2) | wp_step)
  all_goals exact ⟨_, rfl, h _ F' N'⟩
end

end
section
set_option maxRecDepth 100000 in
set_option maxHeartbeats 8000000 in
theorem acc_count (w : World) (x d n hh kt iv) (vs : List Value) (rest : Led) :
    Does w 10 100 (.ref 140) [.ref x] (acc x d vs n hh kt iv rest) (fun K => ∀ t, K (.int vs.length t) (acc x d vs n hh kt iv rest)) := by
  k_with_none
  k_with "my k_in" => first | with_reducible assumption | exact Frag.In.keeps (by with_reducible assumption) (Fr.keep (by with_reducible assumption))
  k_with "my k_ne" => (refine neN ?_; (try dsimp only); first | with_reducible assumption | (refine Ne.symm ?_; with_reducible assumption) | lia)
  k_with "my ROOM" => ((try dsimp only [Around.deeper, Around.mark, Around.in1]); first | exact room3 (by assumption) rfl | exact room2 (by assumption) rfl | lia)
  k_with "my ite" => first | (refine ite_pos (by with_reducible assumption) ?_) | (refine ite_neg (by with_reducible assumption) ?_) | (refine ite_pos (decide_eq_true (by with_reducible assumption)) ?_) | (refine ite_neg (Bool.eq_false_iff.mp (decide_eq_false (by with_reducible assumption))) ?_)
  k_with "my exec While" => (try k_fold); refine Stop.mk ?_
  k_with "my subscriptTail Name Name str int" => (refine sub_str (by assumption) (by assumption) ?_)
  k_with "my call builtin:ord" => (refine ord_S ?_)
  k_with "my k_all" => with_reducible assumption
  k_with "my k_inst" => (refine' acc_at (by k_asm) (by k_mem) (by k_mem))
  k_with "my getMethod ref" => ((k_dflt (refine' super_acc (v := boundB _ _ _) (by k_asm) (by k_asm) (by k_asm) (by k_mem) (by k_inst) (by k_is) (by ks_is) type_llen slot_wget.lookup (by decide) rfl (fun A' E' s' Q' hs hq => get_len (by (rw [hs]; exact InstAt.type (by k_inst) |>.andThen (looks_subIn (by k_in) (by k_is)))) hq) ?_; k_whole); intro qpzz hpzz Fpzz Npzz l1zz; (try k_lt l1zz))); (try revert l1zz); (try revert Npzz); (try revert Fpzz); (try revert hpzz); (try revert qpzz); intros
  k_with "my callWith ref" => (refine' callWith_bb (News.get (by k_asm) (by k_mem)) (by first | exact .inl rfl | exact .inr rfl) ?_)
  k_with "my call ref" => (refine' len_bb (by k_asm) (by k_mem) (by k_mem) ?_)
  k_with "my call builtin:list.append" => (((k_dflt (refine' append_acc (by k_asm) (by k_asm) (by k_asm) (by k_is) ?_ (by k_upd) ?_; k_whole)); (next => (simp; lia)); intro hpzz Fpzz Npzz; (try k_sweep))); (try revert Npzz); (try revert Fpzz); (try revert hpzz); intros
  k_with "my getMethod ref" => (k_dflt (refine' method_acc (by k_in) (by k_inst) (by k_is) (by k_is) (by k_is) (by first | exact looks_typeIn (by k_in) (by k_is) | exact Looks.of_pure PySem.F.type_list_append) (by decide) (by rfl) ?_; k_whole))
  unfold Does
  intro dp un gd env outer A₀ base h₀ L m sH sG sD sT sO R p loose mean mg mb hf hk B F X N T hd hu hret
  k_dflt (refine' code_superF ?k1 ?k2 ?k3 ?k4 ?k5 ?kA ?kF ?kK ?k6 ?k7 ?k8 ?k9 ?kB ?_ ?c1 ?c2 ?c3 ?c4; (case kA => exact rfl); (case kF => exact hf); (case kK => exact hk); (case k1 => exact B); (case k2 => exact F); (case k3 => exact X); (case k4 => exact N); (case k5 => exact T); (case k6 => k_is); (case k7 => k_is); (case k8 => (refine room_of hd ?_; dsimp only; lia)); (case k9 => exact BindsTo.of_eq rfl); (case kB => exact locs rfl); (case c1 => decide); (case c2 => exact rfl); (case c3 => exact rfl); (case c4 => exact rfl))
  intro g' L' h1 FG' F' N' B' X' T' l1
  (try dsimp only)
  (try k_lt l1)
  k_steps
  rename Fr _ _ _ _ => F9
  rename News _ _ _ _ => N9
  (try simp only [List.push_toArray] at N9)
  exact hret _ _ _ F9 (fun p hp => N9 p (List.mem_cons_of_mem _ (List.mem_cons_of_mem _ hp)))


set_option maxRecDepth 100000 in
set_option maxHeartbeats 8000000 in
theorem acc_pop (w : World) (x d n hh kt iv) (vs : List Value) (v : Value) (rest : Led) (hdx : @Ne Nat d x) (hxr : ∀ p ∈ rest, p.1 ≠ x) (hz : vs.length < 1000) :
    Does w 20 200 (.ref 103) [.ref x] (acc x d (vs ++ [v]) n hh kt iv rest) (fun K => K v (acc x d vs (n + 1) hh kt iv rest)) := by
  k_with "my getMethod ref" => ((k_dflt (refine' super_acc (v := boundB _ _ _) (by k_asm) (by k_asm) (by k_asm) (by k_mem) (by k_inst) (by k_is) (by ks_is) type_lpop slot_mget.lookup (by decide) rfl (fun A' E' s' Q' hs hq => get_pop (by (rw [hs]; exact InstAt.type (by k_inst) |>.andThen (looks_subIn (by k_in) (by k_is)))) hq) ?_; k_whole); intro qpzz hpzz Fpzz Npzz l1zz; (try k_lt l1zz))); (try revert l1zz); (try revert Npzz); (try revert Fpzz); (try revert hpzz); (try revert qpzz); intros
  k_with "my call ref" => (((refine' pop_bb (by k_asm) (by k_asm) (by k_asm) (by k_mem) ?_ (by k_is) (by rfl) (by rfl) (by k_is) (by k_upd) ?_); (next => lia); intro hpzz Fpzz Npzz; (try k_sweep))); (try revert Npzz); (try revert Fpzz); (try revert hpzz); intros
  k_with "my call ref" => ((refine Does.use (acc_count _ _ _ _ _ _ _ _ _) (by k_asm) (by k_asm) (by k_asm) (by k_asm) (by k_asm) rfl rfl (by walk_at "ROOM") (by walk_at "ROOM") ?_; intro t9zz h9zz k9zz F9zz N9zz; (try k_sweep))); (try revert N9zz); (try revert F9zz); (try revert k9zz); (try revert h9zz); (try revert t9zz); intros
  k_with "my wpAt" => first | with_reducible refine ks_wpAt_execs_cons ?_ | with_reducible refine ks_wpAt_Return_some ?_ | k_dflt (refine ks_wpAt_MethodCall ?_)
  have hne : (((vs ++ [v]).length : Int) == 0) = false := by simp; lia
  unfold Does
  intro dp un gd env outer A₀ base h₀ L m sH sG sD sT sO R p loose mean mg mb hf hk B F X N T hd hu hret
  k_dflt (refine' code_superF ?k1 ?k2 ?k3 ?k4 ?k5 ?kA ?kF ?kK ?k6 ?k7 ?k8 ?k9 ?kB ?_ ?c1 ?c2 ?c3 ?c4; (case kA => exact rfl); (case kF => exact hf); (case kK => exact hk); (case k1 => exact B); (case k2 => exact F); (case k3 => exact X); (case k4 => exact N); (case k5 => exact T); (case k6 => k_is); (case k7 => k_is); (case k8 => (refine room_of hd ?_; dsimp only; lia)); (case k9 => exact BindsTo.of_eq rfl); (case kB => exact locs rfl); (case c1 => decide); (case c2 => exact rfl); (case c3 => exact rfl); (case c4 => exact rfl))
  intro g' L' h1 FG' F' N' B' X' T' l1
  (try dsimp only)
  (try k_lt l1)
  k_steps
  rename Fr _ _ _ _ => F9
  rename News _ _ _ _ => N9
  (try simp only [List.push_toArray] at N9)
  exact hret _ _ F9 (fun p hp => N9 p (List.mem_cons_of_mem _ (List.mem_cons_of_mem _ hp)))

end
section
section
open PySem.Calls Builtin Builtin.ObjectAttr
variable {prog : Program} {w : World} {A : Around} {E : Value → Shared → Prop} {s : Shared} {K : Frag} {x C dx L l : Addr} {h₀ : Heap} {m : Str → Option Value} {news news' : Led} {ox : Obj} {od : Option Obj} {name : Str} {v : Value}

theorem list_below {d : Addr} {its : Array Value} {n : Nat} {h : Heap} (X : K.In h) (hx : h.get? x = some (accObj d its n)) (hsub : subIn K (.ref 143) (.type "list") = some true) : Looks (model prog w) h (isInstance (.ref x) (.type "list")) true :=
  ((Looks.ld (part := none) hx).andThen .now : Looks (model prog w) h (typeOf (.ref x)) (.ref 143)).andThen (looks_subIn X hsub)

theorem getSlice_acc {sl : Addr} {vs : Array Value} {n : Nat} {vl vu : Value} {lo hi : Option Int} {Q : Value → Shared → Prop} (X : K.In s.heap) (I : InstAt s.heap x (accObj dx vs n) 143 od) (hq : noSeq K 143 = true) (hsub : subIn K (.ref 143) (.type "list") = some true)
    (hs : findIn K (.ref 143) "__getitem__" = some (some (.builtin "list.__getitem__"))) (hsl : s.heap.IsSliceOf sl vl vu .none) (pl : IsPart vl lo) (pu : IsPart vu hi) (hz : vs.size ≤ sizeLine)
    (h : Q (.ref s.heap.objs.size) { s with heap := s.heap.push { cls := .type "list", data := .seq (slicePick vs lo hi none) } }) :
    wpAny (model prog w) A (getItem (.ref x) (.ref sl)) Q E s := by
  obtain ⟨os, hos, hcs, hds⟩ := id hsl
  have hTs : s.TypeIs (.ref sl) "slice" := ⟨os, hos, hcs⟩
  have hi' := list_below (prog := prog) (w := w) X I.at_ hsub
  unfold getItem sequenceKey callSpecial? specialOf
  refine wpAny_holding (wpAny_bind (wpAny_bind (I.type.here (wpAny_bind ((anyM_none X hq).here ?_)))))
  rw [if_pos (show (!false) = true from rfl)]
  refine wpAny_pure (wpAny_bind (wpAny_bind (wpAny_bind (I.type.here ((looks_findIn X hs).here ?_)))))
  refine wpAny_holding ?_
  rw [PySem.F.slot_list_getitem.bind]
  refine wpAny_bind (wpAny_pure (wpAny_bind ?_))
  refine call_below (.inl (by decide +kernel)) (by decide +kernel : splitId "list.__getitem__" = some ("list", "__getitem__")) hi' (by decide +kernel) PySem.F.entry_list_getitem (args_list_getitem _ _) ?_
  show wpAny _ _ (Builtin.List.listSubscript? (.ref sl) >>= _) _ _ s
  unfold Builtin.List.listSubscript?
  refine wpAny_bind (wpAny_bind (wpAny_specialOf hTs slice_no_index ?_))
  simp only [Option.isNone_none, if_true]
  refine wpAny_pure ?_
  show wpAny _ _ (typeOf (.ref sl) >>= _) _ _ s
  refine wpAny_bind (wpAny_typeOf hTs ?_)
  rw [if_neg (by decide), listSliceParts_eq]
  refine wpAny_bind (wpAny_bind (wpAny_field hos hds (x := .none) rfl (wpAny_bind (wpAny_listPart .none ?_))))
  rw [if_neg (by decide)]
  refine wpAny_bind (wpAny_field hos hds (x := vl) rfl (wpAny_bind (wpAny_listPart pl ?_)))
  refine wpAny_bind (wpAny_field hos hds (x := vu) rfl (wpAny_bind (wpAny_listPart pu (wpAny_pure ?_))))
  refine wpAny_bind (m := Builtin.List.listItems (.ref x)) ?_
  unfold Builtin.List.listItems
  refine wpAny_bind (wpAny_seqItems I.at_ rfl (wpAny_pure ?_))
  refine wpAny_bind (wpAny_of_eq (sliceIndices_raw lo hi none vs.size (by simp)) ?_)
  exact wpAny_bind (wpAny_newObj_type (wpAny_pure ⟨_, rfl, wpAny_pure (wpAny_pure h)⟩) (Nat.le_trans (slicePick_size_le vs lo hi none) hz))

theorem getitem_acc_py {M : Model} (X : K.In s.heap) (I : InstAt s.heap x ox C od) (hs : findIn K (.ref C) "__getitem__" = some (some (.builtin "list.__getitem__"))) : Looks M s.heap (getitemInPython (.ref x)) false := by
  unfold getitemInPython
  exact ((I.type (M := M)).andThen (looks_findIn X hs)).andThen .now
theorem sub_acc {hp : Heap} {g d t os} {value slice : PySem.Expr} {vs : List Value} {n : Nat} {vl vu : Value} {lo hi : Option Int} {us : List Value} {Q : Value → Shared → Prop} {es : List DictEntry} {k : Nat} (F : Fr h₀ L hp m) (X₀ : K.In h₀) (N : News h₀ L hp news) (h1 : (x, accObj dx vs.toArray n) ∈ news) (h2 : (dx, dictOf es k) ∈ news)
    (hq : noSeq K 143 = true) (hsub : subIn K (.ref 143) (.type "list") = some true) (hs : findIn K (.ref 143) "__getitem__" = some (some (.builtin "list.__getitem__"))) (pl : IsPart vl lo) (pu : IsPart vu hi) (hz : vs.length ≤ 1000000) (hu : slicePick vs.toArray lo hi none = us.toArray)
    (h : ∀ q h', Fr h₀ L h' m → News h₀ L h' ((q, listOf us.toArray 0) :: news) → (∀ p ∈ news, p.1 < q) → Q (.ref q) ⟨h', g, d, t, os⟩)
    (hss : subscripted slice false (.ref x) (.ref hp.objs.size) = operate [.ref hp.objs.size, .ref x] (getItem (.ref x) (.ref hp.objs.size))) :
    wpAny (model prog w) A (subscriptTail value slice (.ref x) (.ref hp.objs.size)) Q E ⟨hp.push { cls := .type "slice", data := .fields #[vl, vu, .none] }, g, d, t, os⟩ := by
  have F1 := F.push { cls := .type "slice", data := .fields #[vl, vu, .none] }
  have N1 : News h₀ L (hp.push { cls := .type "slice", data := .fields #[vl, vu, .none] }) news := N.grown fun _ _ e => Heap.get?_push_of_some _ e
  have X1 : K.In (hp.push { cls := .type "slice", data := .fields #[vl, vu, .none] }) := X₀.keeps F1.keep
  have I := acc_at N1 h1 h2
  have N2 := News.push F1 N1 { cls := .type "list", data := .seq us.toArray }
  unfold subscriptTail
  refine wpAny_bind ((getitem_acc_py (s := ⟨_, g, d, t, os⟩) X1 I hs).here ?_)
  rw [hss]
  refine wpAny_bind (wpAny_operating ?_)
  refine getSlice_acc (s := ⟨_, g, d, t, os⟩) X1 I hq hsub hs (Heap.IsSliceOf.new ..) pl pu (by rw [sizeLine_eq]; simp; lia) ?_
  refine wpAny_bind (wpAny_letTemporaryGo (wpAny_pure ?_))
  rw [hu]
  exact h _ _ (F1.push _) N2 fun p hp => Heap.lt_size (N1 p hp).1

theorem mapSeq_acc' {f : Array Value → Array Value} {d : Addr} {a b : Array Value} {n : Nat} (hf : f a = b) : Obj.mapSeq f (accObj d a n) = accObj d b (if b.size == a.size then n else n + 1) := by
  subst hf
  rfl
theorem setSlice_acc {hp : Heap} {g d t os} {vs us : List Value} {n c : Nat} {vl vu : Value} {lo hi : Option Int} {Q : Unit → Shared → Prop} {es : List DictEntry} {k : Nat} (F : Fr h₀ L hp m) (X₀ : K.In h₀) (N : News h₀ L hp news) (h2 : (dx, dictOf es k) ∈ news) (hl : (l, listOf us.toArray c) ∈ news) (hxl : x ≠ l)
    (hq : noSeq K 143 = true) (hsub : subIn K (.ref 143) (.type "list") = some true) (hs : findIn K (.ref 143) "__setitem__" = some (some (.builtin "list.__setitem__"))) (pl : IsPart vl lo) (pu : IsPart vu hi) (hz : vs.length ≤ 1000000) (hz2 : us.length ≤ 1000000) (hb : sliceBounds lo hi none vs.toArray.size = (0, (vs.length : Int), 1))
    (U : Upd x (accObj dx vs.toArray n) (accObj dx us.toArray (if us.toArray.size == vs.toArray.size then n else n + 1)) news news')
    (h : ∀ h', Fr h₀ L h' m → News h₀ L h' news' → Q () ⟨h', g, d, t, os⟩) :
    wpAny (model prog w) A (setItem (.ref x) (.ref hp.objs.size) (.ref l)) Q E ⟨hp.push { cls := .type "slice", data := .fields #[vl, vu, .none] }, g, d, t, os⟩ := by
  have F1 := F.push { cls := .type "slice", data := .fields #[vl, vu, .none] }
  have N1 : News h₀ L (hp.push { cls := .type "slice", data := .fields #[vl, vu, .none] }) news := N.grown fun _ _ e => Heap.get?_push_of_some _ e
  have X1 : K.In (hp.push { cls := .type "slice", data := .fields #[vl, vu, .none] }) := X₀.keeps F1.keep
  have hx := upd_at N1 U
  have hL := (N1 _ hl).1
  have I : InstAt (hp.push { cls := .type "slice", data := .fields #[vl, vu, .none] }) x (accObj dx vs.toArray n) 143 (some (dictOf es k)) := ⟨hx, rfl, rfl, (N1 _ h2).1⟩
  have hi' := list_below (prog := prog) (w := w) X1 hx hsub
  obtain ⟨os', hos, hcs, hds⟩ := Heap.IsSliceOf.new hp vl vu .none
  have hTs : (⟨hp.push { cls := .type "slice", data := .fields #[vl, vu, .none] }, g, d, t, os⟩ : Shared).TypeIs (.ref hp.objs.size) "slice" := ⟨os', hos, hcs⟩
  have hTl : (⟨hp.push { cls := .type "slice", data := .fields #[vl, vu, .none] }, g, d, t, os⟩ : Shared).TypeIs (.ref l) "list" := ⟨_, hL, rfl⟩
  have hz1 : vs.toArray.size ≤ sizeLine := by rw [sizeLine_eq]; simp; lia
  have e1 : vs.toArray.extract 0 (0 : Int).toNat ++ us.toArray ++ vs.toArray.extract (max 0 (vs.length : Int)).toNat vs.toArray.size = us.toArray := by
    have : (max 0 (vs.length : Int)).toNat = vs.length := by lia
    rw [this]; simp
  obtain ⟨F2, N2⟩ := upd_both (f := Obj.mapSeq fun xs => xs.extract 0 (0 : Int).toNat ++ us.toArray ++ xs.extract (max 0 (vs.length : Int)).toNat xs.size) F1 N1 U (mapSeq_acc' e1) rfl
  have e2 : (vs.toArray.extract 0 (0 : Int).toNat ++ us.toArray ++ vs.toArray.extract (max 0 (vs.length : Int)).toNat vs.toArray.size).size ≤ sizeLine + 1 := by rw [e1, sizeLine_eq]; simp; lia
  unfold setItem sequenceKey callSpecial? specialOf
  refine wpAny_holding (wpAny_bind (wpAny_bind (I.type.here (wpAny_bind ((anyM_none X1 hq).here ?_)))))
  rw [if_pos (show (!false) = true from rfl)]
  refine wpAny_pure (wpAny_bind (wpAny_bind (wpAny_bind (I.type.here ((looks_findIn X1 hs).here ?_)))))
  refine wpAny_holding ?_
  rw [PySem.F.slot_list_setitem.bind]
  refine wpAny_bind (wpAny_pure (wpAny_bind ?_))
  refine call_below (.inr (by decide +kernel)) (by decide +kernel : splitId "list.__setitem__" = some ("list", "__setitem__")) hi' (by decide +kernel) PySem.F.entry_list_setitem (PySem.F.args_list_setitem_3 _ _ _) ?_
  show wpAny _ _ (Builtin.List.listSubscript? (.ref hp.objs.size) >>= _) _ _ _
  unfold Builtin.List.listSubscript?
  refine wpAny_bind (wpAny_bind (wpAny_specialOf hTs slice_no_index ?_))
  simp only [Option.isNone_none, if_true]
  refine wpAny_pure ?_
  show wpAny _ _ (typeOf (.ref hp.objs.size) >>= _) _ _ _
  refine wpAny_bind (wpAny_typeOf hTs ?_)
  rw [if_neg (by decide), listSliceParts_eq]
  refine wpAny_bind (wpAny_bind (wpAny_field hos hds (x := .none) rfl (wpAny_bind (wpAny_listPart .none ?_))))
  rw [if_neg (by decide)]
  refine wpAny_bind (wpAny_field hos hds (x := vl) rfl (wpAny_bind (wpAny_listPart pl ?_)))
  refine wpAny_bind (wpAny_field hos hds (x := vu) rfl (wpAny_bind (wpAny_listPart pu (wpAny_pure ?_))))
  have hsr : Builtin.List.listSameRef (.ref x) (.ref l) = false := by simp [Builtin.List.listSameRef, hxl]
  rw [hsr, if_neg (by decide)]
  unfold Builtin.List.listAllItems Builtin.List.listItems
  refine wpAny_bind (wpAny_bind (wpAny_typeOf hTl ?_))
  rw [if_pos (by decide)]
  refine wpAny_bind (wpAny_seqItems hL rfl (wpAny_pure ?_))
  refine wpAny_bind (wpAny_bind (wpAny_seqItems hx rfl (wpAny_pure ?_)))
  refine wpAny_bind (wpAny_of_eq (sliceIndices_raw lo hi none vs.toArray.size (by simp)) ?_)
  rw [hb]
  (try dsimp only)
  rw [if_pos (by decide)]
  refine wpAny_bind (wpAny_rule ?_)
  have ht : Builtin.List.listTooLong (vs.toArray.size + us.toArray.size) = false := by simp [Builtin.List.listTooLong, sizeLine_eq]; lia
  rw [ht, if_neg (by decide)]
  refine wpAny_bind (wpAny_updateSeq hx rfl ?_ hz1 e2)
  refine wpAny_bind (wpAny_letGo (wpAny_pure ⟨_, rfl, wpAny_pure (wpAny_pure ?_)⟩))
  exact h _ F2 N2
end

end
section
section
open PySem.Calls Builtin Builtin.ObjectAttr
variable {w : World} {h : Heap}
noncomputable abbrev KK (w : World) : Frag := hd.heap_39 w.params
set_option maxRecDepth 100000
theorem m_made (X : (KK w).In h) : Looks (Mo w) h (Bind.madeBy (.ref 143)) (some "list.__new__") := Looks.of_peek X (by kernel_rfl)
theorem m_base (X : (KK w).In h) : Looks (Mo w) h (Bind.staticBase (.ref 143)) (.ref 143) := Looks.of_peek X (by kernel_rfl)
theorem m_self (X : (KK w).In h) : Looks (Mo w) h (isSubtype (.ref 143) (.ref 143)) true := Looks.of_peek X (by kernel_rfl)
theorem m_list (X : (KK w).In h) : Looks (Mo w) h (isSubtype (.ref 143) (.type "list")) true := Looks.of_peek X (by kernel_rfl)
theorem m_call (X : (KK w).In h) : Looks (Mo w) h (specialOf (.ref 143) "__call__") (some (.builtin "type.__call__")) := Looks.of_peek X (by kernel_rfl)
theorem m_type (X : (KK w).In h) : Looks (Mo w) h (isInstance (.ref 143) (.type "type")) true := Looks.of_peek X (by kernel_rfl)
theorem m_istype (X : (KK w).In h) : Looks (Mo w) h (isType (.ref 143)) true := Looks.of_peek X (by kernel_rfl)
theorem m_del (X : (KK w).In h) : Looks (Mo w) h (classHasDel 143) false := Looks.of_peek X (by kernel_rfl)
theorem m_mro (X : (KK w).In h) : Looks (Mo w) h (mroOf (.ref 143)) [.ref 143, .type "list", .type "object"] := Looks.of_peek X (by kernel_rfl)
theorem m_init (X : (KK w).In h) : Looks (Mo w) h (typeLookup (.ref 143) "__init__") (some (.ref 80)) := Looks.of_peek X (by kernel_rfl)

theorem m_callAny (X : (KK w).In h) (v : Value) : Looks (Mo w) h (callAny (.ref 143) ⟨[v], []⟩) (.again (.call (.builtin "type.__call__") ⟨[.ref 143, v], []⟩)) := Looks.of_peek X (by kernel_rfl)
theorem m_callType (X : (KK w).In h) (v : Value) : Looks (Mo w) h (callAny (.builtin "type.__call__") ⟨[.ref 143, v], []⟩) (.again (.builtin "type.__call__" ⟨[.ref 143, v], []⟩)) := Looks.of_peek X (by kernel_rfl)
theorem m_callNew (X : (KK w).In h) (i : Int) (t : Tok) : Looks (Mo w) h (callAny (.builtin "list.__new__") ⟨[.ref 143, .int i t], []⟩) (.again (.builtin "list.__new__" ⟨[.ref 143, .int i t], []⟩)) := Looks.of_peek X (by kernel_rfl)
end

end
section
set_option maxRecDepth 100000 in
set_option maxHeartbeats 8000000 in
theorem acc_init (w : World) (x d n) (v : Value) (rest : Led) (hdx : @Ne Nat d x) (hxr : ∀ p ∈ rest, p.1 ≠ x) (hdr : ∀ p ∈ rest, p.1 ≠ d) :
    Does w 20 200 (.ref 80) [.ref x, v] ((x, accObj d #[] n) :: (d, dictOf [] 0) :: rest) (fun K => ∀ hh kt, K .none (acc x d [] n hh kt v rest)) := by
  k_with_none
  k_with "my k_in" => first | with_reducible assumption | exact Frag.In.keeps (by with_reducible assumption) (Fr.keep (by with_reducible assumption))
  k_with "my k_ne" => (refine neN ?_; (try dsimp only); first | with_reducible assumption | (refine Ne.symm ?_; with_reducible assumption) | lia)
  k_with "my ROOM" => ((try dsimp only [Around.deeper, Around.mark, Around.in1]); first | exact room3 (by assumption) rfl | exact room2 (by assumption) rfl | lia)
  k_with "my ite" => first | (refine ite_pos (by with_reducible assumption) ?_) | (refine ite_neg (by with_reducible assumption) ?_) | (refine ite_pos (decide_eq_true (by with_reducible assumption)) ?_) | (refine ite_neg (Bool.eq_false_iff.mp (decide_eq_false (by with_reducible assumption))) ?_)
  k_with "my exec While" => (try k_fold); refine Stop.mk ?_
  k_with "my subscriptTail Name Name str int" => (refine sub_str (by assumption) (by assumption) ?_)
  k_with "my call builtin:ord" => (refine ord_S ?_)
  k_with "my k_all" => with_reducible assumption
  k_with "my k_inst" => (refine' acc_at (by k_asm) (by k_mem) (by k_mem))
  k_with "my getMethod ref" => ((k_dflt (refine' super_acc (v := boundB _ _ _) (by k_asm) (by k_asm) (by k_asm) (by k_mem) (by k_inst) (by k_is) (by ks_is) type_llen slot_wget.lookup (by decide) rfl (fun A' E' s' Q' hs hq => get_len (by (rw [hs]; exact InstAt.type (by k_inst) |>.andThen (looks_subIn (by k_in) (by k_is)))) hq) ?_; k_whole); intro qpzz hpzz Fpzz Npzz l1zz; (try k_lt l1zz))); (try revert l1zz); (try revert Npzz); (try revert Fpzz); (try revert hpzz); (try revert qpzz); intros
  k_with "my callWith ref" => (refine' callWith_bb (News.get (by k_asm) (by k_mem)) (by first | exact .inl rfl | exact .inr rfl) ?_)
  k_with "my call ref" => (refine' len_bb (by k_asm) (by k_mem) (by k_mem) ?_)
  k_with "my call builtin:list.append" => (((k_dflt (refine' append_acc (by k_asm) (by k_asm) (by k_asm) (by k_is) ?_ (by k_upd) ?_; k_whole)); (next => (simp; lia)); intro hpzz Fpzz Npzz; (try k_sweep))); (try revert Npzz); (try revert Fpzz); (try revert hpzz); intros
  k_with "my getMethod ref" => (k_dflt (refine' method_acc (by k_in) (by k_inst) (by k_is) (by k_is) (by k_is) (by first | exact looks_typeIn (by k_in) (by k_is) | exact Looks.of_pure PySem.F.type_list_append) (by decide) (by rfl) ?_; k_whole))
  k_with "my getMethod ref" => ((k_dflt (refine' super_acc (v := boundB _ _ _) (by k_asm) (by k_asm) (by k_asm) (by k_mem) (by k_inst) (by k_is) (by ks_is) type_linit slot_wget.lookup (by decide) rfl (fun A' E' s' Q' hs hq => get_init (by (rw [hs]; exact InstAt.type (by k_inst) |>.andThen (looks_subIn (by k_in) (by k_is)))) hq) ?_; k_whole); intro qpzz hpzz Fpzz Npzz l1zz; (try k_lt l1zz))); (try revert l1zz); (try revert Npzz); (try revert Fpzz); (try revert hpzz); (try revert qpzz); intros
  k_with "my call ref" => ((refine' init_bb (by k_asm) (by k_asm) (by k_mem) (by k_upd) ?_; intro hpzz Fpzz Npzz; (try k_sweep))); (try revert Npzz); (try revert Fpzz); (try revert hpzz); intros
  k_with "my setAttr ref" => ((k_dflt (refine' set_acc (by k_asm) (by k_asm) (by k_asm) (by k_inst) (by exact rfl) (by k_is) (by rfl) (by k_is) (by k_is) (by k_get) (by k_put) (by k_upd) (by exact Nat.le_of_ble_eq_true rfl) ?_; k_whole; intro hpzz Fpzz Npzz; (try k_sweep)))); (try revert Npzz); (try revert Fpzz); (try revert hpzz); intros
  k_with "my wpAt" => first | with_reducible refine ks_wpAt_execs_cons ?_ | with_reducible refine ks_wpAt_Return_some ?_ | ((with_reducible show _root_.PySem.wpAt _ _ _ (exec (Stmt.Expr _ _) _) _ _ _); k_dflt (refine ks_wpAt_Expr_any ?_)) | k_dflt (refine ks_wpAt_MethodCall ?_)
  unfold Does
  intro dp un gd env outer A₀ base h₀ L m sH sG sD sT sO R p loose mean mg mb hf hk B F X N T hd hu hret
  k_dflt (refine' code_superF ?k1 ?k2 ?k3 ?k4 ?k5 ?kA ?kF ?kK ?k6 ?k7 ?k8 ?k9 ?kB ?_ ?c1 ?c2 ?c3 ?c4; (case kA => exact rfl); (case kF => exact hf); (case kK => exact hk); (case k1 => exact B); (case k2 => exact F); (case k3 => exact X); (case k4 => exact N); (case k5 => exact T); (case k6 => k_is); (case k7 => k_is); (case k8 => (refine room_of hd ?_; dsimp only; lia)); (case k9 => exact binds_K (by k_in) rfl (by k_is) rfl rfl rfl); (case kB => exact locs rfl); (case c1 => decide); (case c2 => exact rfl); (case c3 => exact rfl); (case c4 => exact rfl))
  intro g' L' h1 FG' F' N' B' X' T' l1
  (try dsimp only)
  (try k_lt l1)
  k_steps
  rename Fr _ _ _ _ => F9
  rename News _ _ _ _ => N9
  (try simp only [List.push_toArray] at N9)
  exact hret _ _ _ _ F9 (fun p hp => N9 p (List.mem_cons_of_mem _ (List.mem_cons_of_mem _ hp)))

end
section
section
open PySem.Calls Builtin Builtin.ObjectAttr
variable {w : World} {A : Around} {E : Value → Shared → Prop} {s : Shared} {L : Addr} {h₀ : Heap} {m : Str → Option Value} {news : Led}
set_option maxRecDepth 100000
set_option maxHeartbeats 2000000
theorem ty80 : typeIn (hd.heap_39 w.params) (.ref 80) = some (.type "function") := by k_is
theorem acc_make {i : Int} {tk : Tok} {R : Result → Shared → Prop} (F : Fr h₀ L s.heap m) (X₀ : (KK w).In h₀) (N : News h₀ L s.heap news)
    (h : ∀ x d h', Fr h₀ L h' m → News h₀ L h' ((x, accObj d #[] 0) :: (d, dictOf [] 0) :: news) → (∀ p ∈ news, p.1 < d) → d < x →
      codeAny (Mo w) (A.under (.builtin "type.__call__" ⟨[.ref 143, .int i tk], []⟩)) (.call (.ref 80) ⟨[.ref x, .int i tk], []⟩) (InitBack x R) { s with heap := h' }) :
    codeAny (Mo w) A (.call (.ref 143) ⟨[.int i tk], []⟩) R s := by
  have X := X₀.keeps F.keep
  refine codeAny_of_tree ?_
  refine (m_callAny X _).here ⟨rfl, codeAny_of_tree ?_⟩
  refine (m_callType X _).here ⟨Code.quiet_builtin _ (by decide +kernel), codeAny_builtin entry_typeCall ?_⟩
  unfold Builtin.«type.__call__»
  obtain ⟨hp, g, d, t, os⟩ := s
  have LM := m_mro (w := w) X
  have LB := m_made (w := w) X
  (try dsimp only at LM LB)
  repeat (first | simp only [List.isEmpty_cons, Bool.false_eq_true, if_false] | with_reducible refine wpAny_call ?_ | lk)
  have k : ∀ b o, hp.get? b = some o → ((hp.push emptyDict).push (accObj hp.objs.size #[] 0)).get? b = some o := fun b o e => Heap.get?_push_of_some _ (Heap.get?_push_of_some _ e)
  refine codeAny_of_tree ((m_callNew X i tk).here ⟨Code.quiet_builtin _ (by decide +kernel), codeAny_builtin_stack PySem.F.entry_list_new rfl fun p st => ?_⟩)
  have hown := owner_list_new
  have LT := m_istype (w := w) X
  have LS := m_list (w := w) X
  have LD := m_del (w := w) (X.keeps k)
  (try dsimp only at LT LS LD)
  simp only [hown]
  have hx : ((hp.push emptyDict).push (accObj hp.objs.size #[] 0)).get? (hp.push emptyDict).objs.size = some (accObj hp.objs.size #[] 0) := Heap.get?_push_size _ rfl
  have t1 : Looks (Mo w) ((hp.push emptyDict).push (accObj hp.objs.size #[] 0)) (typeOf (.ref (hp.push emptyDict).objs.size)) (.ref 143) := (Looks.ld hx).andThen .now
  have s1 := m_self (w := w) (X.keeps k)
  have i1 := m_init (w := w) (X.keeps k)
  have b1 : Looks (Mo w) ((hp.push emptyDict).push (accObj hp.objs.size #[] 0)) (bindSpecial (.ref 80) (.ref (hp.push emptyDict).objs.size)) (.ref 80, [.ref (hp.push emptyDict).objs.size]) := bind_fn (X.keeps k) _ ty80
  clear hx
  repeat ((fail_if_success (with_reducible show wpAny _ _ (isInstance _ _) _ _ _)); (first | simp only [Bool.not_true, Bool.false_eq_true, if_false] | with_reducible refine wpAny_call ?_ | lk))
  unfold isInstance callSpecial? specialOf
  repeat (first | simp only [Bool.not_true, Bool.false_eq_true, if_false] | with_reducible refine wpAny_call ?_ | lk)
  have N2 := (N.push F emptyDict).push (F.push emptyDict) (accObj hp.objs.size #[] 0)
  refine codeAny_mono (h (hp.push emptyDict).objs.size hp.objs.size _ ((F.push emptyDict).push (accObj hp.objs.size #[] 0)) N2 (fun p hp => Heap.lt_size (N p hp).1) (by rw [Heap.size_push]; exact Nat.lt_succ_self _)) fun r s' z => ?_
  rcases r with e | (v | _ | _ | _) <;> first | exact z | exact z.elim | skip
  obtain ⟨rfl, z⟩ := z
  exact wpAny_pure (wpAny_pure z)
end

set_option maxRecDepth 100000 in
set_option maxHeartbeats 8000000 in
theorem acc_new (w : World) (i : Int) (t : Tok) (rest : Led) : Does w 30 300 (.ref 143) [.int i t] rest (fun K => ∀ x d n hh kt, @Ne Nat d x → (∀ p ∈ rest, p.1 < d) → (∀ p ∈ rest, p.1 < x) → K (.ref x) (acc x d [] n hh kt (.int i t) rest)) := by
  unfold Does
  intro dp un gd env outer A₀ base h₀ L m sH sG sD sT sO R p loose mean mg mb hf hk B F X N T hd hu hret
  refine acc_make F X N fun x d h' F' N' l1 l2 => ?_
  have hdx : @Ne Nat d x := Nat.ne_of_lt l2
  refine acc_init w x d 0 (.int i t) rest hdx (fun p hp => Nat.ne_of_lt (Nat.lt_trans (l1 p hp) l2)) (fun p hp => Nat.ne_of_lt (l1 p hp)) _ _ _ _ _ _ _ _ _ _ _ _ _ _ _ _ _ _ _ _ _ hf hk B F' X N' T ?_ ?_ ?_
  · show dp + 1 + 20 < recursionLimit
    lia
  · show un + 1 + 200 < cLine
    lia
  · intro hh kt h9 tk9 F9 N9
    exact ⟨rfl, hret x d 0 hh kt hdx l1 (fun p hp => Nat.lt_trans (l1 p hp) l2) _ _ F9 N9⟩

end
section
theorem bounds_all (n : Nat) : sliceBounds none none none n = (0, (n : Int), 1) := by
  simp [sliceBounds]
theorem bounds_from0 (n : Nat) : sliceBounds (some 0) none none n = (0, (n : Int), 1) := by
  simp [sliceBounds]
  lia
theorem pick_from (vs : List Value) (i : Nat) : slicePick vs.toArray (some (i : Int)) none none = (vs.drop i).toArray := by
  have h1 : ¬ ((i : Int) < 0) := by lia
  have e : sliceBounds (some (i : Int)) none none vs.toArray.size = (((min i vs.length : Nat) : Int), ((vs.length : Nat) : Int), 1) := by
    simp only [sliceBounds, Option.getD_none, show (1 : Int) > 0 by decide, if_true, h1, if_false, List.size_toArray]
    congr 1
    lia
  rw [kmk_pick_nat _ e]
  have : (vs.drop (min i vs.length)).take (vs.length - min i vs.length) = vs.drop i := by
    rw [kmk_drop_min, List.take_of_length_le]
    simp; lia
  simpa using this
theorem pick_upto (vs : List Value) (i : Nat) : slicePick vs.toArray none (some (i : Int)) none = (vs.take i).toArray := by
  have h1 : ¬ ((i : Int) < 0) := by lia
  have e : sliceBounds none (some (i : Int)) none vs.toArray.size = (((0 : Nat) : Int), ((min i vs.length : Nat) : Int), 1) := by
    simp only [sliceBounds, Option.getD_none, show (1 : Int) > 0 by decide, if_true, h1, if_false, List.size_toArray]
    congr 1
    congr 1
    lia
  rw [kmk_pick_nat _ e]
  simp [kmk_take_min]
set_option maxRecDepth 100000 in
set_option maxHeartbeats 8000000 in
theorem acc_popfrom (w : World) (x d n hh kt iv) (vs : List Value) (rest : Led) (hdx : @Ne Nat d x) (hxr : ∀ p ∈ rest, p.1 ≠ x) (hz : vs.length < 1000) :
    Does w 20 200 (.ref 95) [.ref x] (acc x d vs n hh kt iv rest) (fun K => ∀ q n₂, (∀ p ∈ acc x d [] n₂ hh kt iv rest, p.1 < q) → K (.ref q) ((q, listOf vs.toArray 0) :: acc x d [] n₂ hh kt iv rest)) := by
  k_with_none
  k_with "my k_in" => first | with_reducible assumption | exact Frag.In.keeps (by with_reducible assumption) (Fr.keep (by with_reducible assumption))
  k_with "my k_ne" => (refine neN ?_; (try dsimp only); first | with_reducible assumption | (refine Ne.symm ?_; with_reducible assumption) | lia)
  k_with "my ROOM" => ((try dsimp only [Around.deeper, Around.mark, Around.in1]); first | exact room3 (by assumption) rfl | exact room2 (by assumption) rfl | lia)
  k_with "my ite" => first | (refine ite_pos (by with_reducible assumption) ?_) | (refine ite_neg (by with_reducible assumption) ?_) | (refine ite_pos (decide_eq_true (by with_reducible assumption)) ?_) | (refine ite_neg (Bool.eq_false_iff.mp (decide_eq_false (by with_reducible assumption))) ?_)
  k_with "my exec While" => (try k_fold); refine Stop.mk ?_
  k_with "my subscriptTail Name Name str int" => (refine sub_str (by assumption) (by assumption) ?_)
  k_with "my call builtin:ord" => (refine ord_S ?_)
  k_with "my k_all" => with_reducible assumption
  k_with "my k_inst" => (refine' acc_at (by k_asm) (by k_mem) (by k_mem))
  k_with "my getMethod ref" => ((k_dflt (refine' super_acc (v := boundB _ _ _) (by k_asm) (by k_asm) (by k_asm) (by k_mem) (by k_inst) (by k_is) (by ks_is) type_llen slot_wget.lookup (by decide) rfl (fun A' E' s' Q' hs hq => get_len (by (rw [hs]; exact InstAt.type (by k_inst) |>.andThen (looks_subIn (by k_in) (by k_is)))) hq) ?_; k_whole); intro qpzz hpzz Fpzz Npzz l1zz; (try k_lt l1zz))); (try revert l1zz); (try revert Npzz); (try revert Fpzz); (try revert hpzz); (try revert qpzz); intros
  k_with "my callWith ref" => (refine' callWith_bb (News.get (by k_asm) (by k_mem)) (by first | exact .inl rfl | exact .inr rfl) ?_)
  k_with "my call ref" => (refine' len_bb (by k_asm) (by k_mem) (by k_mem) ?_)
  k_with "my call builtin:list.append" => (((k_dflt (refine' append_acc (by k_asm) (by k_asm) (by k_asm) (by k_is) ?_ (by k_upd) ?_; k_whole)); (next => (simp; lia)); intro hpzz Fpzz Npzz; (try k_sweep))); (try revert Npzz); (try revert Fpzz); (try revert hpzz); intros
  k_with "my getMethod ref" => (k_dflt (refine' method_acc (by k_in) (by k_inst) (by k_is) (by k_is) (by k_is) (by first | exact looks_typeIn (by k_in) (by k_is) | exact Looks.of_pure PySem.F.type_list_append) (by decide) (by rfl) ?_; k_whole))
  k_with "my subscriptTail" => ((k_dflt (refine' sub_acc (by k_asm) (by k_asm) (by k_asm) (by k_mem) (by k_mem) (by k_is) (by k_is) (by k_is) (by kmk_part) (by kmk_part) (by lia) (by k_asm) ?_ (by with_unfolding_all rfl)); intro qpzz hpzz Fpzz Npzz l1zz; (try k_lt l1zz); (try k_sweep))); (try revert l1zz); (try revert Npzz); (try revert Fpzz); (try revert hpzz); (try revert qpzz); intros
  k_with "my setItem ref ref" => (((k_dflt (refine' setSlice_acc (by k_asm) (by k_asm) (by k_asm) (by k_mem) (by k_mem) (by k_ne) (by k_is) (by k_is) (by k_is) (by kmk_part) (by kmk_part) ?_ ?_ (by k_asm) (by k_upd) ?_)); (next => first | lia | (simp; lia)); (next => first | lia | (simp; lia) | simp); intro hpzz Fpzz Npzz; (try k_sweep))); (try revert Npzz); (try revert Fpzz); (try revert hpzz); intros
  k_with "my setAttr ref" => ((k_dflt (refine' set_acc (by k_asm) (by k_asm) (by k_asm) (by k_inst) (by exact rfl) (by k_is) (by rfl) (by k_is) (by k_is) (by k_get) (by k_put) (by k_upd) (by exact Nat.le_of_ble_eq_true rfl) ?_; k_whole; intro hpzz Fpzz Npzz; (try k_sweep)))); (try revert Npzz); (try revert Fpzz); (try revert hpzz); intros
  have hs1 : slicePick vs.toArray (some 0) none none = vs.toArray := by simpa using pick_from vs 0
  have hb1 : sliceBounds (some 0) none none vs.toArray.size = (0, (vs.length : Int), 1) := by simpa using bounds_from0 vs.length
  unfold Does
  intro dp un gd env outer A₀ base h₀ L m sH sG sD sT sO R p loose mean mg mb hf hk B F X N T hd hu hret
  k_dflt (refine' code_defF ?k1 ?k2 ?k3 ?k4 ?k5 ?kA ?kF ?kK ?k6 ?k7 ?k8 ?k9 ?kB ?_ ?c2 ?c3 ?c4 ?c5; (case kA => exact rfl); (case kF => exact hf); (case kK => exact hk); (case k1 => exact B); (case k2 => exact F); (case k3 => exact X); (case k4 => exact N); (case k5 => exact T); (case k6 => k_is); (case k7 => k_is); (case k8 => (refine room_of hd ?_; dsimp only; lia)); (case k9 => first | exact BindsTo.of_eq rfl | exact binds_K (by k_in) rfl (by k_is) rfl rfl rfl); (case c5 => decide); (case kB => exact locs rfl); (case c2 => exact rfl); (case c3 => exact rfl); (case c4 => exact rfl); k_whole)
  intro g' L' h1 FG' F' N' B' X' T'
  (try dsimp only)
  (try k_fold)
  k_steps
  rename Fr _ _ _ _ => F9
  rename News _ _ _ _ => N9
  (try simp only [List.push_toArray] at N9)
  refine hret _ _ ?_ _ _ F9 (fun p hp => N9 p (List.mem_cons_of_mem _ hp))
  (refine kst_ltOf ?_; simp only [AllLt]; assumption)
set_option maxRecDepth 100000 in
set_option maxHeartbeats 8000000 in
theorem acc_reset (w : World) (x d l n hh kt iv c) (vs us : List Value) (rest : Led) (hdx : @Ne Nat d x) (hxr : ∀ p ∈ rest, p.1 ≠ x) (hdr : ∀ p ∈ rest, p.1 ≠ d) (hlx : @Ne Nat l x) (hld : @Ne Nat l d) (hz : vs.length < 1000) (hz2 : us.length < 1000) :
    Does w 20 200 (.ref 125) [.ref x, .ref l] ((l, listOf us.toArray c) :: acc x d vs n hh kt iv rest) (fun K => ∀ n₂ iv', K .none (acc x d us n₂ hh kt iv' rest)) := by
  have hb1 : sliceBounds none none none vs.toArray.size = (0, (vs.length : Int), 1) := by simpa using bounds_all vs.length
  unfold Does
  intro dp un gd env outer A₀ base h₀ L m sH sG sD sT sO R p loose mean mg mb hf hk B F X N T hd hu hret
  k_dflt (refine' code_defF ?k1 ?k2 ?k3 ?k4 ?k5 ?kA ?kF ?kK ?k6 ?k7 ?k8 ?k9 ?kB ?_ ?c2 ?c3 ?c4 ?c5; (case kA => exact rfl); (case kF => exact hf); (case kK => exact hk); (case k1 => exact B); (case k2 => exact F); (case k3 => exact X); (case k4 => exact N); (case k5 => exact T); (case k6 => k_is); (case k7 => k_is); (case k8 => (refine room_of hd ?_; dsimp only; lia)); (case k9 => first | exact BindsTo.of_eq rfl | exact binds_K (by k_in) rfl (by k_is) rfl rfl rfl); (case c5 => decide); (case kB => exact locs rfl); (case c2 => exact rfl); (case c3 => exact rfl); (case c4 => exact rfl); k_whole)
  intro g' L' h1 FG' F' N' B' X' T'
  (try dsimp only)
  (try k_fold)
  k_steps
  rename Fr _ _ _ _ => F9
  rename News _ _ _ _ => N9
  (try simp only [List.push_toArray] at N9)
  exact hret _ _ _ _ F9 (fun p hp => N9 p (List.mem_cons_of_mem _ hp))

end
section
section
open PySem.Calls LCg
variable {prog : Program} {w : World} {A : Around} {sH : Heap} {sG : Array GenState} {sD : Drawn} {sT : Nat} {sO : OsState} {env : Env} {h₀ : Heap}
inductive FNext {σ : Type} (h₀ : Heap) (L : Addr) (sG : Array GenState) (sD : Drawn) (sO : OsState) (wr : List Addr) (own : Led) (ps : σ → List (Str × Value)) (led : σ → Led) (J : σ → Prop) (s₂ : Shared) : Prop
  | mk (c' : σ) (h' : Heap) (tk : Nat) (m' : Str → Option Value) (news' : Led) (e : s₂ = (Shared.mk h' sG sD tk sO)) (F : Fr h₀ L h' m') (N : News h₀ L h' news') (ho : ∀ p ∈ own, p ∈ news') (h1 : ∀ p ∈ led c', p ∈ news') (hw : ∀ p ∈ led c', p.1 ∉ wr) (h2 : ∀ p ∈ ps c', m' p.1 = some p.2) (h3 : J c') : FNext h₀ L sG sD sO wr own ps led J s₂
/-- what a turn of a for must leave -/
noncomputable def FEnd {σ : Type} (h₀ : Heap) (L : Addr) (sG : Array GenState) (sD : Drawn) (sO : OsState) (wr : List Addr) (own : Led) (ps : σ → List (Str × Value)) (led : σ → Led) (J : σ → Prop) (Q : Flow → Shared → Prop) (f : Flow) (s₂ : Shared) : Prop :=
  match f with
  | .ret v => Q (.ret v) s₂
  | .brk => Q .next s₂
  | _ => FNext h₀ L sG sD sO wr own ps led J s₂
theorem fend_next {σ : Type} {L : Addr} {wr : List Addr} {own : Led} {ps : σ → List (Str × Value)} {led : σ → Led} {J : σ → Prop} {Q : Flow → Shared → Prop} {h' : Heap} {tk : Nat} {m' : Str → Option Value} {news' : Led} (c' : σ)
    (F : Fr h₀ L h' m') (N : News h₀ L h' news') (ho : ∀ p ∈ own, p ∈ news') (h1 : ∀ p ∈ led c', p ∈ news') (hw : ∀ p ∈ led c', p.1 ∉ wr) (h2 : ∀ p ∈ ps c', m' p.1 = some p.2) (h3 : J c') :
    FEnd h₀ L sG sD sO wr own ps led J Q .next (Shared.mk h' sG sD tk sO) := ⟨c', h', tk, m', news', rfl, F, N, ho, h1, hw, h2, h3⟩
theorem turns_k {σ : Type} {target : Expr} {body : List Stmt} {I : Addr} {fp wr : List Addr} {n : Nat} {P Md : Nat → Value → Heap → Prop} {St : Nat → Heap → Prop} {m₀ : Str → Option Value} {news : Led} {Q : Flow → Shared → Prop}
    (W : KTurns prog w A target I fp wr n P Md St) (ps : σ → List (Str × Value)) (led : σ → Led) (J : Nat → σ → Prop) (c₀ : σ)
    (hlive : ∀ i h, St i h → ∀ b ∈ wr, ∃ o, h.get? b = some o) (hfp : env.locals ∉ fp) (hwr : ∀ b ∈ wr, h₀.get? b = none) (hst : St 0 sH)
    (F : Fr h₀ env.locals sH m₀) (N : News h₀ env.locals sH news) (h1 : ∀ p ∈ led c₀, p ∈ news) (hoff : ∀ p ∈ led c₀, p.1 ∉ wr) (h2 : ∀ p ∈ ps c₀, m₀ p.1 = some p.2) (h3 : J 0 c₀)
    (turn : ∀ i v c u h tk own, i < n → P i v h → J i c → (∀ p ∈ led c, p.1 ∉ wr) → (∀ b ∈ wr, ∃ o, (b, o) ∈ own) → (∀ p ∈ own, p.1 ∈ fp) → Fr h₀ env.locals h (kstB u (ps c)) → News h₀ env.locals h (led c ++ own) →
      wpAny (model prog w) A (assign target env v) (fun _ s₃ => wpAny (model prog w) A (execs body env) (FEnd h₀ env.locals sG sD sO wr own ps led (J (i + 1)) Q) (fun _ _ => False) s₃) (fun _ _ => False) (Shared.mk h sG sD tk sO))
    (done : ∀ c u h tk, J n c → Fr h₀ env.locals h (kstB u (ps c)) → News h₀ env.locals h (led c) → Q .next (Shared.mk h sG sD tk sO)) :
    TurnsAt prog w A h₀ env target body Q (fun _ _ => False) (.ref I) (Shared.mk sH sG sD sT sO) := by
  refine ⟨I, fp, wr, n, P, Md, St, m₀, led c₀, fun i m nx => ∃ c : σ, nx = led c ∧ J i c ∧ (∀ p ∈ ps c, m p.1 = some p.2), rfl, W, hfp, hwr, hoff, hst, F, fun p hp => N p (h1 p hp), ⟨c₀, rfl, h3, h2⟩, ?_, ?_⟩
  · rintro i v m₁ news₁ h₁ tk₁ own hi hP hZ0 hof hown hget hall hst₁ F₁ N₁
    obtain ⟨c, rfl, hJ, hps⟩ := hZ0
    have N₁' : News h₀ env.locals h₁ (led c ++ own) := fun p hp => N₁ p ((List.mem_append.mp hp).elim (fun q => List.mem_append_right _ q) fun q => List.mem_append_left _ q)
    refine wpAny_mono (turn i v c m₁ h₁ tk₁ own hi hP hJ hof (fun b hb => ?_) hown (by rw [kstB_id hps]; exact F₁) N₁') (fun _ s₃ q => wpAny_mono q (fun f s₄ r => ?_) fun _ _ x => x) fun _ _ x => x
    · obtain ⟨o, ho⟩ := hlive _ _ hst₁ b hb
      exact ⟨o, hall b (W.sub b hb) (hwr b hb) o ho⟩
    · cases f with
      | ret v => exact r
      | brk => exact r
      | next =>
        obtain ⟨c', h', tk, m', news', rfl, F', N', a0, a1, a2, a3, a4⟩ := r
        exact ⟨rfl, h', tk, m', led c', rfl, F', fun p hp => N' p ((List.mem_append.mp hp).elim (a0 p) (a1 p)), a2, c', rfl, a4, a3⟩
      | cont =>
        obtain ⟨c', h', tk, m', news', rfl, F', N', a0, a1, a2, a3, a4⟩ := r
        exact ⟨rfl, h', tk, m', led c', rfl, F', fun p hp => N' p ((List.mem_append.mp hp).elim (a0 p) (a1 p)), a2, c', rfl, a4, a3⟩
  · rintro h' tk m' news' F' N' _ ⟨c, rfl, hJ, hps⟩
    exact done c m' h' tk hJ (by rw [kstB_id hps]; exact F') N'
theorem For_k {target iter : Expr} {body : List Stmt} {pos : Pos} {Q : Flow → Shared → Prop} {m : Str → Option Value} (F : Fr h₀ env.locals sH m)
    (h : wpAny (model prog w) A (eval iter env) (fun xv s₁ => wpAny (model prog w) A (pyIter xv) (fun it s₂ => TurnsAt prog w A h₀ env target body Q (fun _ _ => False) it s₂) (fun _ _ => False) s₁) (fun _ _ => False) (Shared.mk sH sG sD sT sO))
    (hs : ∀ x, foldedSetIterable iter env x = pure x := by intro _; rfl) :
    wpAny (model prog w) A (exec (.For target iter body [] pos) env) Q (fun _ _ => False) (Shared.mk sH sG sD sT sO) := For_turns F h hs PassesOwn.never
end

end
section
section
open PySem.Calls LCg
variable {prog : Program} {w : World} {A : Around} {s : Shared} {sH : Heap} {sG : Array GenState} {sD : Drawn} {sT : Nat} {sO : OsState} {env : Env} {h₀ : Heap} {L : Addr} {m : Str → Option Value}
/-- the names that a comprehension's target binds -/
noncomputable def over (bs : List (Str × Value)) (m : Str → Option Value) : Str → Option Value := kstB m bs
/-- the target of a block takes an item -/
noncomputable def Takes (prog : Program) (w : World) (A : Around) (target : Expr) (scope : Scope) (cl : List (Str × Addr)) (env : Env) (P : Nat → Value → Heap → Prop) (B : Nat → List (Str × Value) → Prop) : Prop :=
  ∀ i v C (s : Shared) m (Q : Unit → Shared → Prop) (E : Value → Shared → Prop), P i v s.heap → s.heap.Ns C m →
    (∀ bs h' tk', B i bs → h'.Ns C (over bs m) → (∀ b o, b ≠ C → s.heap.get? b = some o → h'.get? b = some o) → Q () { s with heap := h', toks := tk' }) →
    wpAny (model prog w) A (assign target (compEnvC scope cl C env) v) Q E s
theorem takes_name {x : Str} {px : Pos} {scope : Scope} {cl : List (Str × Addr)} {P : Nat → Value → Prop} (hkind : scope.kind = .function) (hx : scope.names.lookup x = some .local) :
    Takes prog w A (.Name x px) scope cl env (fun i v _ => P i v) (fun i bs => ∃ v, P i v ∧ bs = [(x, v)]) := by
  intro i v C s m Q E hP hn hQ
  refine wpAny_assign_Name (wpAny_storeName_local (lookup_relabel_local hx) hn (fun h₃ hn₃ hs₃ => ?_) (by simp [compEnvC, relabel, hkind]))
  exact hQ [(x, v)] h₃ _ ⟨v, hP, rfl⟩ hn₃ fun b o hb e => hs₃.extBut b o hb e
theorem takes_pair {x y : Str} {px py tp : Pos} {k : Nat} {scope : Scope} {cl : List (Str × Addr)} {Pt : Nat → Array Value → Prop} (hh : A.handled = none) (hkind : scope.kind = .function) (hx : scope.names.lookup x = some .local) (hy : scope.names.lookup y = some .local)
    (hv : ∀ i vals, Pt i vals → ∃ a b, vals = #[a, b]) :
    Takes prog w A (.Tuple [.Name x px, .Name y py] k tp) scope cl env (fun i v h => ∃ T vals, v = .ref T ∧ Pt i vals ∧ h.IsTuple T vals) (fun i bs => ∃ a b, Pt i #[a, b] ∧ bs = [(y, b), (x, a)]) := by
  intro i v C s m Q E hP hn hQ
  obtain ⟨T, vals, rfl, hPt, hT⟩ := hP
  obtain ⟨a, b, rfl⟩ := hv i vals hPt
  refine assign_Tuple_tuple hh hT rfl rfl fun h₅ he => ?_
  have he' : ∀ b o, s.heap.get? b = some o → h₅.get? b = some o := fun b o e => he b o (Nat.ne_of_lt (Heap.lt_size e)) e
  refine assignInOrder_cons (wpAny_assign_Name (wpAny_storeName_local (lookup_relabel_local hx) (hn.at' fun o e => he' _ o e) (fun h₆ hn₆ hs₆ => ?_) (by simp [compEnvC, relabel, hkind])))
  refine assignInOrder_cons (wpAny_assign_Name (wpAny_storeName_local (lookup_relabel_local hy) hn₆ (fun h₃ hn₃ hs₃ => ?_) (by simp [compEnvC, relabel, hkind])))
  refine assignInOrder_nil ?_
  exact hQ [(y, b), (x, a)] h₃ _ ⟨a, b, hPt, rfl⟩ hn₃ fun c o hc e => hs₃.extBut c o hc (hs₆.extBut c o hc (he' c o e))
theorem codeAny_compLoop_own {elt target iter : Expr} {ifs : List Expr} {scope : Scope} {pos : Pos} {it acc : Value} {env : Env} {R : Result → Shared → Prop} (I : Nat → Shared → Prop)
    (turn : ∀ n s, I n s → wpAny (model prog w) A (pyNext it) (fun r s₁ => match r with
      | none => R (.ok .next) s₁
      | some v => wpAny (model prog w) A (letOwnedTupleGo target it v) (fun _ s₁' => wpAny (model prog w) A (assign target env v) (fun _ s₂ =>
          wpAny (model prog w) A (forIn ifs true fun c r => if r = true then do let ok ← isTrue c env (eval c env); pure (ForInStep.yield ok) else pure (ForInStep.yield r)) (fun ok s₃ =>
            if ok = true then wpAny (model prog w) A (eval elt env) (fun x s₄ =>
              wpAny (model prog w) A (call (.builtin "list.append") [acc, x]) (fun _ s₅ => ∃ m, m < n ∧ I m s₅) (notedBy (model prog w) A env fun e s' => R (.error e) s') s₄) (notedBy (model prog w) A env fun e s' => R (.error e) s') s₃
            else ∃ m, m < n ∧ I m s₃) (notedBy (model prog w) A env fun e s' => R (.error e) s') s₂) (notedBy (model prog w) A env fun e s' => R (.error e) s') s₁') (notedBy (model prog w) A env fun e s' => R (.error e) s') s₁) (notedBy (model prog w) A env fun e s' => R (.error e) s') s)
    (n : Nat) (h : I n s) :
    codeAny (model prog w) A (.compLoop (.ListComp elt [⟨target, iter, ifs, 0⟩] scope pos) 0 it acc env) R s := by
  refine codeAny_loop rfl I (fun n s hI => ?_) n h
  show wpAny _ A ((compTurn (.ListComp elt [⟨target, iter, ifs, 0⟩] scope pos) 0 it acc env).onRaise (fun x => do noteFrame x env; theTreesLotGoes x)) _ _ s
  refine wpAny_noted ?_
  rw [compTurn_list]
  refine wpAny_bind (wpAny_standAt (wpAny_bind (wpAny_mono (turn n s hI) (fun r s₁ h₁ => ?_) fun _ _ x => x)))
  cases r with
  | none => exact wpAny_pure h₁
  | some v =>
    refine wpAny_bind (wpAny_mono h₁ (fun _ s₁' h₁' => ?_) fun _ _ x => x)
    refine wpAny_bind (wpAny_mono h₁' (fun _ s₂ h₂ => wpAny_bind (wpAny_mono h₂ (fun ok s₃ h₃ => ?_) fun _ _ x => x)) fun _ _ x => x)
    cases ok with
    | false => exact wpAny_pure ⟨rfl, h₃⟩
    | true => exact wpAny_bind (wpAny_bind (wpAny_mono h₃ (fun x s₄ h₄ => wpAny_bind (wpAny_mono h₄ (fun _ s₅ h₅ => wpAny_pure (wpAny_pure ⟨rfl, h₅⟩)) fun _ _ x => x)) fun _ _ x => x))
/-- what a turn of a comprehension must leave -/
inductive CEnd (h₀ : Heap) (L : Addr) (m : Str → Option Value) (sG : Array GenState) (sD : Drawn) (sO : OsState) (wr : List Addr) (own : Led) (C : Addr) (oC : Obj) (D : Addr) (ys : List Value) (J : Nat → List Value → Led → Prop) (ys' : List Value) (s₂ : Shared) : Prop
  | mk (h' : Heap) (tk : Nat) (all news' : Led) (e : s₂ = (Shared.mk h' sG sD tk sO)) (F : Fr h₀ L h' m) (N : News h₀ L h' all) (hC : (C, oC) ∈ all) (hD : (D, lst ys) ∈ all) (ho : ∀ p ∈ own, p ∈ all) (h1 : ∀ p ∈ news', p ∈ all)
      (h2 : ∀ p ∈ news', p.1 ≠ C ∧ p.1 ≠ D ∧ p.1 ∉ wr) (hJ : J tk ys' news') : CEnd h₀ L m sG sD sO wr own C oC D ys J ys' s₂
theorem cend {wr : List Addr} {own : Led} {C : Addr} {oC : Obj} {D : Addr} {ys ys' : List Value} {J : Nat → List Value → Led → Prop} {h' : Heap} {tk : Nat} {all : Led} (news' : Led)
    (F : Fr h₀ L h' m) (N : News h₀ L h' all) (hC : (C, oC) ∈ all) (hD : (D, lst ys) ∈ all) (ho : ∀ p ∈ own, p ∈ all) (h1 : ∀ p ∈ news', p ∈ all) (h2 : ∀ p ∈ news', p.1 ≠ C ∧ p.1 ≠ D ∧ p.1 ∉ wr) (hJ : J tk ys' news') :
    CEnd h₀ L m sG sD sO wr own C oC D ys J ys' (Shared.mk h' sG sD tk sO) := ⟨h', tk, all, news', rfl, F, N, hC, hD, ho, h1, h2, hJ⟩

inductive CInv (sG : Array GenState) (sD : Drawn) (sO : OsState) (h₀ : Heap) (L C D : Addr) (m : Str → Option Value) (wr : List Addr) (n : Nat) (St : Nat → Heap → Prop) (J : Nat → Nat → List Value → Led → Prop) (k : Nat) (s' : Shared) : Prop
  | mk (h' : Heap) (tk i : Nat) (ys : List Value) (m' : Str → Option Value) (nx : Led) (e : s' = (Shared.mk h' sG sD tk sO)) (hi : i ≤ n) (hk : k = n + 1 - i) (hyl : ys.length ≤ i) (st : St i h') (F : Fr h₀ L h' m) (hn : h'.Ns C m') (N : News h₀ L h' ((D, lst ys) :: nx))
      (off : ∀ p ∈ nx, p.1 ≠ C ∧ p.1 ≠ D ∧ p.1 ∉ wr) (hJ : J i tk ys nx) : CInv sG sD sO h₀ L C D m wr n St J k s'
theorem block_K {elt iter target : Expr} {ifs : List Expr} {scope : Scope} {cl : List (Str × Addr)} {pos : Pos} {I : Addr} {fp wr : List Addr} {n : Nat} {P Md : Nat → Value → Heap → Prop} {St : Nat → Heap → Prop} {B : Nat → List (Str × Value) → Prop} {news : Led}
    {J : Nat → Nat → List Value → Led → Prop} {E : Value → Shared → Prop} {RR : Value → Addr → Result → Shared → Prop}
    (W : KTurns prog w A target I fp wr n P Md St) (hasg : Takes prog w A target scope cl env P B) (hself : ∀ i (s₀ : Shared) (Q : Value → Shared → Prop) (E : Value → Shared → Prop), St i s₀.heap → Q (.ref I) s₀ → wpAny (model prog w) A (pyIter (.ref I)) Q E s₀)
    (hsz : n ≤ sizeLine) (hlive : ∀ i h, St i h → ∀ b ∈ wr, ∃ o, h.get? b = some o) (hcell : ∀ y ∈ scope.names, y.2 ≠ .cell) (hkind : scope.kind = .function)
    (hst : St 0 sH) (hfp : ∀ b ∈ fp, b < sH.objs.size) (hLf : L ∉ fp) (hwr : ∀ b ∈ wr, h₀.get? b = none) (F : Fr h₀ L sH m) (N : News h₀ L sH news) (hoff : ∀ p ∈ news, p.1 ∉ wr) (hJ : J 0 sT [] news) (hmono : ∀ i tk tk' ys nx, tk ≤ tk' → J i tk ys nx → J i tk' ys nx)
    (turn : ∀ i bs ys nx C oC D m₂ h tk own (E' : Value → Shared → Prop), i < n → B i bs → J i tk ys nx → ys.length ≤ i → NsObj oC (over bs m₂) → (∀ b ∈ wr, ∃ o, (b, o) ∈ own) → (∀ p ∈ own, p.1 ∈ fp) → (∀ p ∈ nx, p.1 ≠ C ∧ p.1 ≠ D ∧ p.1 ∉ wr) → (@Ne Nat C D) →
      Fr h₀ L h m → News h₀ L h ((C, oC) :: (D, lst ys) :: (nx ++ own)) →
      wpAny (model prog w) A (forIn ifs true fun c r => if r = true then do let ok ← isTrue c (compEnvC scope cl C env) (eval c (compEnvC scope cl C env)); pure (ForInStep.yield ok) else pure (ForInStep.yield r)) (fun ok s₃ =>
        if ok = true then wpAny (model prog w) A (eval elt (compEnvC scope cl C env)) (fun y s₄ => CEnd h₀ L m sG sD sO wr own C oC D ys (J (i + 1)) (ys ++ [y]) s₄) E' s₃
        else CEnd h₀ L m sG sD sO wr own C oC D ys (J (i + 1)) ys s₃) E' (Shared.mk h sG sD tk sO))
    (hRR : ∀ D C h tk m' ys nx, Fr h₀ L h m → News h₀ L h ((D, lst ys) :: nx) → (∀ p ∈ nx, @Ne Nat p.1 D) → h.Ns C m' → h₀.get? C = none → h₀.get? D = none → C ≠ L → D ≠ L → C ≠ D → (∀ p ∈ nx, p.1 ≠ C) → J n tk ys nx → RR (.ref D) C (.ok .next) (Shared.mk h sG sD tk sO)) :
    wpAny (model prog w) A (newList []) (fun acc s₃ => wpAny (model prog w) A (newFunctionEnv scope env.globals cl [] env.qual none .none (some env)) (fun cenv s₄ =>
      codeAny (model prog w) A (.compStart (.ListComp elt [⟨target, iter, ifs, 0⟩] scope pos) 0 (.ref I) acc { cenv with scope := relabel scope env }) (RR acc cenv.locals) s₄) E s₃) E (Shared.mk sH sG sD sT sO) := by
  refine wpAny_newObj_type (wpAny_newFunctionEnv hcell (by intro y hy; simp at hy) (fun h₁ hns₁ hsb₁ => ?_) hkind)
  (try dsimp only at hns₁ hsb₁ ⊢)
  generalize hH2 : sH.push { cls := .type "list", dict := none, data := .seq ([] : List Value).toArray } = H2 at hns₁ hsb₁ ⊢
  have hC : H2.objs.size = sH.objs.size + 1 := by rw [← hH2, Heap.size_push]
  have hDC : sH.objs.size ≠ H2.objs.size := by rw [hC]; exact Nat.ne_of_lt (Nat.lt_succ_self _)
  have below : ∀ b, b < sH.objs.size → b ≠ H2.objs.size ∧ b ≠ sH.objs.size := fun b hb => ⟨by rw [hC]; exact Nat.ne_of_lt (Nat.lt_succ_of_lt hb), Nat.ne_of_lt hb⟩
  have hDf : sH.objs.size ∉ fp := fun hm => Nat.lt_irrefl _ (hfp _ hm)
  have hCf : H2.objs.size ∉ fp := fun hm => by have := hfp _ hm; rw [hC] at this; exact Nat.lt_irrefl _ (Nat.lt_of_succ_lt this)
  have hDw : sH.objs.size ∉ wr := fun hm => hDf (W.sub _ hm)
  have hCw : H2.objs.size ∉ wr := fun hm => hCf (W.sub _ hm)
  have hLw : L ∉ wr := fun hm => hLf (W.sub _ hm)
  have old : ∀ b o, sH.get? b = some o → h₁.get? b = some o := fun b o e => hsb₁.extBut b o (below b (Heap.lt_size e)).1 (Heap.get?_push_of_some _ (hH2 ▸ Heap.get?_push_of_some _ e))
  have hacc : h₁.get? sH.objs.size = some (lst []) := hsb₁.extBut _ _ hDC (Heap.get?_push_of_some _ (hH2 ▸ Heap.get?_push_size _ rfl))
  have hst₁ : St 0 h₁ := W.frame _ _ _ hst fun b _ o e => old b o e
  have fresh : ∀ a, sH.objs.size ≤ a → sH.get? a = none := fun a ha => by
    cases e : sH.get? a with
    | none => rfl
    | some o' => exact absurd (Heap.lt_size e) (Nat.not_lt.mpr ha)
  have fresh₀ : ∀ a, sH.objs.size ≤ a → h₀.get? a = none := fun a ha => by
    cases e : h₀.get? a with
    | none => rfl
    | some o' => have := F.keep a o' e; rw [fresh a ha] at this; cases this
  have hD₀ : h₀.get? sH.objs.size = none := fresh₀ _ (Nat.le_refl _)
  have hC₀ : h₀.get? H2.objs.size = none := fresh₀ _ (by rw [hC]; exact Nat.le_succ _)
  have hLlt : L < sH.objs.size := F.ns.lt
  have hDL : sH.objs.size ≠ L := Ne.symm (below L hLlt).2
  have hCL : H2.objs.size ≠ L := Ne.symm (below L hLlt).1
  have oldw : ∀ b o, h₀.get? b = some o → b ∉ wr := fun b o e hb => by rw [hwr b hb] at e; cases e
  have loop : ∀ s₃ : Shared, s₃ = (Shared.mk h₁ sG sD (sT + ([] : List (Str × Value)).length) sO) →
      codeAny (model prog w) A (.compLoop (.ListComp elt [⟨target, iter, ifs, 0⟩] scope pos) 0 (.ref I) (.ref sH.objs.size) (compEnvC scope cl H2.objs.size env))
        (RR (.ref sH.objs.size) H2.objs.size) s₃ := by
    rintro s₃ rfl
    refine codeAny_compLoop_own
      (CInv sG sD sO h₀ L H2.objs.size sH.objs.size m wr n St J) ?_ (n + 1)
      ⟨h₁, _, 0, [], _, news, rfl, Nat.zero_le _, rfl, Nat.zero_le _, hst₁, F.keeps old, hns₁, fun p hp => ?_, fun p hp => ⟨(below _ (Heap.lt_size (N p hp).1)).1, (below _ (Heap.lt_size (N p hp).1)).2, hoff p hp⟩, hmono _ _ _ _ _ (Nat.le_add_right _ _) hJ⟩
    · rintro k s' ⟨h', tk, i, ys, m', nx, rfl, hi, rfl, hyl, hst', F', hn', N', off', hJ'⟩
      by_cases hlt : i < n
      · refine grow_in (W.item i _ _ _ hlt hst' fun v h₂ tk₂ hMd hk₂ => fun hg₂ => ?_)
        refine W.go i v _ _ _ hMd fun h₃ hP hst₃ hk₃ => ?_
        have hn₃ : h₃.Ns H2.objs.size m' := (hn'.at' fun o e => hk₂ _ o hCw e).at' fun o e => hk₃ _ o hCw e
        refine grow_in (hasg i v H2.objs.size _ m' _ _ hP hn₃ fun bs h₄ tk₄ hB hn₄ hk₄ => fun hg₄ => ?_)
        (try dsimp only at hk₄ hg₂ hg₄)
        have hJ₄ := hmono _ _ _ _ _ (Nat.le_trans hg₂ hg₄) hJ'
        have up : ∀ b o, b ∉ wr → b ≠ H2.objs.size → h'.get? b = some o → h₄.get? b = some o := fun b o hb hc e => hk₄ b o hc (hk₃ b o hb (hk₂ b o hb e))
        have hst₄ : St (i + 1) h₄ := W.frame _ _ _ hst₃ fun b hb o e => hk₄ b o (fun q => hCf (q ▸ hb)) e
        obtain ⟨oC, heC, hoC⟩ := ns_obj hn₄
        have F₄ : Fr h₀ L h₄ m := ⟨F'.ns.at' fun o e => up L o hLw (Ne.symm hCL) e, fun b o e => up b o (oldw b o e) (fun q => by rw [q, hC₀] at e; cases e) (F'.keep b o e), F'.above⟩
        have Nown : News h₀ L h₄ (PyProof.Rows.ownOf h₀ fp h₄) := news_ownOf hLf
        have N₄ : News h₀ L h₄ ((H2.objs.size, oC) :: (sH.objs.size, lst ys) :: (nx ++ PyProof.Rows.ownOf h₀ fp h₄)) := fun p hp => by
          rcases List.mem_cons.mp hp with rfl | hp
          · exact ⟨heC, hCL, hC₀⟩
          · rcases List.mem_cons.mp hp with rfl | hp
            · have z := N' (sH.objs.size, lst ys) List.mem_cons_self
              exact ⟨up _ _ hDw hDC z.1, z.2⟩
            · rcases List.mem_append.mp hp with hp | hp
              · have z := N' p (List.mem_cons_of_mem _ hp)
                exact ⟨up _ _ (off' p hp).2.2 (off' p hp).1 z.1, z.2⟩
              · exact Nown p hp
        refine wpAny_mono (turn i bs ys nx H2.objs.size oC sH.objs.size m' h₄ tk₄ (PyProof.Rows.ownOf h₀ fp h₄) _ hlt hB hJ₄ hyl hoC (fun b hb => ?_) PyProof.Rows.ownOf_sub off' (Ne.symm hDC) F₄ N₄) (fun ok s₅ h₅ => ?_) fun _ _ e => e
        · obtain ⟨o, ho⟩ := hlive _ _ hst₄ b hb
          exact ⟨o, mem_ownOf (W.sub b hb) (hwr b hb) ho⟩
        · have stay : ∀ h₅ all, Fr h₀ L h₅ m → News h₀ L h₅ all → (∀ p ∈ PyProof.Rows.ownOf h₀ fp h₄, p ∈ all) → St (i + 1) h₅ := fun h₅ all F₅ N₅ ho => by
            refine W.frame _ _ _ hst₄ fun b hb o e => ?_
            cases hn : h₀.get? b with
            | some o₀ =>
              have : o₀ = o := by have q := F₄.keep b o₀ hn; rw [e] at q; exact (Option.some.inj q).symm
              exact this ▸ F₅.keep b o₀ hn
            | none => exact (N₅ _ (ho _ (mem_ownOf hb hn e))).1
          cases ok with
          | true =>
            simp only [if_true] at h₅ ⊢
            refine wpAny_mono h₅ (fun y s₆ h₆ => ?_) fun _ _ e => e
            obtain ⟨h₆, tk₆, all, nx', rfl, F₆, N₆, mC, mD, ho, hs, hof, hJ₆⟩ := h₆
            have hst₆ := stay h₆ all F₆ N₆ ho
            refine append_at (hsz := by show ys.toArray.size ≤ sizeLine; rw [List.size_toArray]; exact Nat.le_trans (Nat.le_trans hyl hi) hsz) (N₆ _ mD).1 fun h₇ hs₇ hD₇ => ?_
            refine ⟨n + 1 - (i + 1), Nat.sub_lt_sub_left (Nat.lt_succ_of_lt hlt) (Nat.lt_succ_self i), h₇, tk₆, i + 1, ys ++ [y], _, nx', rfl, hlt, rfl, by rw [List.length_append, List.length_singleton]; lia, W.frame _ _ _ hst₆ fun b hb o e => hs₇.extBut b o (fun q => hDf (q ▸ hb)) e, F₆.change hs₇ hDL hD₀,
              (hoC.ns (N₆ _ mC).1).sameBut hs₇ (Ne.symm hDC), fun p hp => ?_, hof, hJ₆⟩
            rcases List.mem_cons.mp hp with rfl | hp
            · exact ⟨hD₇.trans (congrArg some (lst_snoc ys y)), hDL, hD₀⟩
            · exact ⟨hs₇.extBut _ _ (hof p hp).2.1 (N₆ p (hs p hp)).1, (N₆ p (hs p hp)).2⟩
          | false =>
            simp only [Bool.false_eq_true, if_false] at h₅ ⊢
            obtain ⟨h₆, tk₆, all, nx', rfl, F₆, N₆, mC, mD, ho, hs, hof, hJ₆⟩ := h₅
            refine ⟨n + 1 - (i + 1), Nat.sub_lt_sub_left (Nat.lt_succ_of_lt hlt) (Nat.lt_succ_self i), h₆, tk₆, i + 1, ys, _, nx', rfl, hlt, rfl, by lia, stay h₆ all F₆ N₆ ho, F₆, hoC.ns (N₆ _ mC).1, fun p hp => ?_, hof, hJ₆⟩
            rcases List.mem_cons.mp hp with rfl | hp
            · exact N₆ _ mD
            · exact N₆ p (hs p hp)
      · obtain rfl : i = n := Nat.le_antisymm hi (Nat.not_lt.mp hlt)
        refine grow_in (W.done _ _ _ hst' fun h₂ tk₂ hk₂ => fun hg₂ => ?_)
        (try dsimp only at hg₂)
        have up : ∀ b o, b ∉ wr → h'.get? b = some o → h₂.get? b = some o := hk₂
        refine hRR _ _ h₂ tk₂ _ ys nx ⟨F'.ns.at' fun o e => up L o hLw e, fun b o e => up b o (oldw b o e) (F'.keep b o e), F'.above⟩ (fun p hp => ?_) (fun p hp => (off' p hp).2.1) (hn'.at' fun o e => up _ o hCw e) hC₀ hD₀ hCL hDL (Ne.symm hDC) (fun p hp => (off' p hp).1) (hmono _ _ _ _ _ hg₂ hJ')
        rcases List.mem_cons.mp hp with rfl | hp'
        · exact ⟨up _ _ hDw (N' _ hp).1, (N' _ hp).2⟩
        · exact ⟨up _ _ (off' p hp').2.2 (N' p hp).1, (N' p hp).2⟩
    · rcases List.mem_cons.mp hp with rfl | hp
      · exact ⟨hacc, hDL, hD₀⟩
      · exact ⟨old _ _ (N p hp).1, (N p hp).2⟩
  exact codeAny_compStart_list (loop _ rfl) (hself 0 _ _ _ hst₁ (loop _ rfl))
end

end
section
section
open PySem.Calls LCg
variable {prog : Program} {w : World} {A : Around} {sH : Heap} {sG : Array GenState} {sD : Drawn} {sT : Nat} {sO : OsState} {env : Env} {h₀ : Heap} {L : Addr} {m : Str → Option Value}
noncomputable def FinQ (h₀ : Heap) (L : Addr) (m : Str → Option Value) (Q : Value → Shared → Prop) (sG : Array GenState) (sD : Drawn) (sT : Nat) (sO : OsState) (ys : List Value) (nx : Led) : Prop :=
  ∀ D h tk, sT ≤ tk → Fr h₀ L h m → News h₀ L h ((D, lst ys) :: nx) → (∀ p ∈ nx, @Ne Nat p.1 D) → Q (.ref D) (Shared.mk h sG sD tk sO)
noncomputable def FinN (h₀ : Heap) (L : Addr) (m : Str → Option Value) (y : Str) (Q : Flow → Shared → Prop) (sG : Array GenState) (sD : Drawn) (sT : Nat) (sO : OsState) (ys : List Value) (nx : Led) : Prop :=
  ∀ D h tk, sT ≤ tk → Fr h₀ L h (fun z => if z = y then some (.ref D) else m z) → News h₀ L h ((D, lst ys) :: nx) → (∀ p ∈ nx, @Ne Nat p.1 D) → Q .next (Shared.mk h sG sD tk sO)
/-- a turn of a comprehension, walked once -/
noncomputable def CTurn (prog : Program) (w : World) (A : Around) (h₀ : Heap) (L : Addr) (m : Str → Option Value) (env : Env) (elt : Expr) (ifs : List Expr) (scope : Scope) (cl : List (Str × Addr)) (fp wr : List Addr) (n : Nat) (B : Nat → List (Str × Value) → Prop) (J : Nat → Nat → List Value → Led → Prop) (sG : Array GenState) (sD : Drawn) (sO : OsState) : Prop :=
  ∀ i bs ys nx C oC D m₂ h tk own (E' : Value → Shared → Prop), i < n → B i bs → J i tk ys nx → ys.length ≤ i → NsObj oC (over bs m₂) → (∀ b ∈ wr, ∃ o, (b, o) ∈ own) → (∀ p ∈ own, p.1 ∈ fp) → (∀ p ∈ nx, p.1 ≠ C ∧ p.1 ≠ D ∧ p.1 ∉ wr) → (@Ne Nat C D) →
      Fr h₀ L h m → News h₀ L h ((C, oC) :: (D, lst ys) :: (nx ++ own)) →
      wpAny (model prog w) A (forIn ifs true fun c r => if r = true then do let ok ← isTrue c (compEnvC scope cl C env) (eval c (compEnvC scope cl C env)); pure (ForInStep.yield ok) else pure (ForInStep.yield r)) (fun ok s₃ =>
        if ok = true then wpAny (model prog w) A (eval elt (compEnvC scope cl C env)) (fun y s₄ => CEnd h₀ L m sG sD sO wr own C oC D ys (J (i + 1)) (ys ++ [y]) s₄) E' s₃
        else CEnd h₀ L m sG sD sO wr own C oC D ys (J (i + 1)) ys s₃) E' (Shared.mk h sG sD tk sO)
inductive CompAt (prog : Program) (w : World) (A : Around) (h₀ : Heap) (L : Addr) (m : Str → Option Value) (env : Env) (elt target : Expr) (ifs : List Expr) (scope : Scope) (cl : List (Str × Addr)) (Fin : Array GenState → Drawn → Nat → OsState → List Value → Led → Prop) (it : Value) (s : Shared) : Prop
  | mk (I : Addr) (fp wr : List Addr) (n : Nat) (P Md : Nat → Value → Heap → Prop) (St : Nat → Heap → Prop) (B : Nat → List (Str × Value) → Prop) (news : Led) (J : Nat → Nat → List Value → Led → Prop)
      (e : it = .ref I) (W : KTurns prog w A target I fp wr n P Md St) (hasg : Takes prog w A target scope cl env P B)
      (hself : ∀ i (s₀ : Shared) (Q : Value → Shared → Prop) (E : Value → Shared → Prop), St i s₀.heap → Q (.ref I) s₀ → wpAny (model prog w) A (pyIter (.ref I)) Q E s₀)
      (hsz : n ≤ sizeLine) (hlive : ∀ i h, St i h → ∀ b ∈ wr, ∃ o, h.get? b = some o) (hst : St 0 s.heap) (hfp : ∀ b ∈ fp, b < s.heap.objs.size) (hLf : L ∉ fp) (hwr : ∀ b ∈ wr, h₀.get? b = none)
      (F : Fr h₀ L s.heap m) (N : News h₀ L s.heap news) (hoff : ∀ p ∈ news, p.1 ∉ wr) (hJ : J 0 s.toks [] news) (hmono : ∀ i tk tk' ys nx, tk ≤ tk' → J i tk ys nx → J i tk' ys nx)
      (turn : CTurn prog w A h₀ L m env elt ifs scope cl fp wr n B J s.gens s.drawn s.os) (done : ∀ tk ys nx, J n tk ys nx → Fin s.gens s.drawn tk s.os ys nx) :
      CompAt prog w A h₀ L m env elt target ifs scope cl Fin it s
theorem Lc_k {elt iter target : Expr} {ifs : List Expr} {scope : Scope} {cl : List (Str × Addr)} {pos : Pos} {E : Value → Shared → Prop} {Q : Value → Shared → Prop} (_F₀ : Fr h₀ L sH m)
    (hclos : closureFor scope env = pure cl) (hcell : ∀ y ∈ scope.names, y.2 ≠ .cell) (hkind : scope.kind = .function)
    (hnames : ∀ y ∈ scope.names, y.2 = .local → scope.names.lookup y.1 = some .local)
    (h : wpAny (model prog w) A (eval iter env) (fun xv s₁ => wpAny (model prog w) A (pyIter xv) (fun it s₂ => CompAt prog w A h₀ L m env elt target ifs scope cl (FinQ h₀ L m Q) it s₂) E s₁) E (Shared.mk sH sG sD sT sO))
    (hs : ∀ x, foldedSetIterable iter env x = pure x := by intro _; rfl) :
    wpAny (model prog w) A (eval (.ListComp elt [⟨target, iter, ifs, 0⟩] scope pos) env) Q E (Shared.mk sH sG sD sT sO) := by
  rw [eval_ListComp]
  refine wpAny_comprehension_free (use := none) rfl hs hclos hkind hnames (wpAny_mono h (fun xv s₁ h₁ => wpAny_mono h₁ (fun it s₂ h₂ => ?_) fun _ _ e => e) fun _ _ e => e)
  obtain ⟨I, fp, wr, n, P, Md, St, B, news, J, rfl, W, hasg, hself, hsz, hlive, hst, hfp, hLf, hwr, F, N, hoff, hJ, hmono, turn, done⟩ := h₂
  refine block_K W hasg hself hsz hlive hcell hkind hst hfp hLf hwr F N hoff hJ hmono turn ?_
  intro D C h tk m' ys nx F' N' o1 hn hC₀ hD₀ hCL hDL hCD offC fin
  refine ⟨m', hn, fun h'' hs'' => done tk ys nx fin D h'' tk (Nat.le_refl _) (F'.change hs'' hCL hC₀) (fun p hp => ?_) o1⟩
  refine ⟨hs''.extBut _ _ ?_ (N' p hp).1, (N' p hp).2⟩
  rcases List.mem_cons.mp hp with rfl | hp
  · exact Ne.symm hCD
  · exact offC p hp
theorem Assign_Lc_k {elt iter target : Expr} {ifs : List Expr} {y : Str} {py : Pos} {scope : Scope} {cl : List (Str × Addr)} {pos spos : Pos} {E : Value → Shared → Prop} {Q : Flow → Shared → Prop} (_F₀ : Fr h₀ L sH m) (hLe : env.locals = L)
    (hsw : swapsWith (.ListComp elt [⟨target, iter, ifs, 0⟩] scope pos) (some (.Name y py)) spos.line env = pure true)
    (hclos : closureFor scope env = pure cl) (hcell : ∀ y ∈ scope.names, y.2 ≠ .cell) (hkind : scope.kind = .function)
    (hnames : ∀ y ∈ scope.names, y.2 = .local → scope.names.lookup y.1 = some .local)
    (hy : env.kindOf y = some .local) (hp : (env.scope.kind == .class || (env.scope.kind == .module && env.locals != env.globals)) = false)
    (h : wpAny (model prog w) A (eval iter env) (fun xv s₁ => wpAny (model prog w) A (pyIter xv) (fun it s₂ => CompAt prog w A h₀ L m env elt target ifs scope cl (FinN h₀ L m y Q) it s₂) E s₁) E (Shared.mk sH sG sD sT sO))
    (hs : ∀ x, foldedSetIterable iter env x = pure x := by intro _; rfl) :
    wpAny (model prog w) A (exec (.Assign [.Name y py] (.ListComp elt [⟨target, iter, ifs, 0⟩] scope pos) spos) env) Q E (Shared.mk sH sG sD sT sO) := by
  subst hLe
  rw [exec_Assign_Name_used _ _ _ _ hsw]
  refine wpAny_bind (wpAny_standAt (wpAny_bind ?_))
  show wpAny _ A (do let _ ← comprehension (.ListComp elt [⟨target, iter, ifs, 0⟩] scope pos) scope env _ (newList []) false (eval iter env) (some (assign (.Name y py) env))) _ _ (Shared.mk sH sG sD sT sO)
  refine wpAny_bind (wpAny_mono (wpAny_comprehension_free (use := some (assign (.Name y py) env)) (Q := fun _ s' => Q .next s') rfl hs hclos hkind hnames
    (wpAny_mono h (fun xv s₁ h₁ => wpAny_mono h₁ (fun it s₂ h₂ => ?_) fun _ _ e => e) fun _ _ e => e)) (fun _ s' hq => wpAny_pure (wpAny_pure hq)) fun _ _ e => e)
  obtain ⟨I, fp, wr, n, P, Md, St, B, news, J, rfl, W, hasg, hself, hsz, hlive, hst, hfp, hLf, hwr, F, N, hoff, hJ, hmono, turn, done⟩ := h₂
  refine block_K W hasg hself hsz hlive hcell hkind hst hfp hLf hwr F N hoff hJ hmono turn ?_
  intro D C h' tk m' ys nx F' N' o1 hn hC₀ hD₀ hCL hDL hCD offC fin
  show wpAny _ A (assign (.Name y py) env (.ref D)) _ _ _
  refine wpAny_assign_Name (wpAny_storeName_local hy F'.ns (fun h₂ hn₂ hs₂ => ?_) hp)
  have hL₀ : h₀.get? env.locals = none := Heap.get?_none_of_le F'.above
  have F₂ : Fr h₀ env.locals h₂ (fun z => if z = y then some (.ref D) else m z) := ⟨hn₂, fun b o e => hs₂.extBut b o (fun q => by rw [q, hL₀] at e; cases e) (F'.keep b o e), F'.above⟩
  refine ⟨m', hn.sameBut hs₂ hCL, fun h'' hs'' => done tk ys nx fin D h'' _ (Nat.le_add_right _ _) (F₂.change hs'' hCL hC₀) (fun p hp => ?_) o1⟩
  have z : h₂.get? p.1 = some p.2 := hs₂.extBut _ _ (N' p hp).2.1 (N' p hp).1
  refine ⟨hs''.extBut _ _ ?_ z, (N' p hp).2⟩
  rcases List.mem_cons.mp hp with rfl | hp
  · exact Ne.symm hCD
  · exact offC p hp

/-- sources -/
theorem comp_list {elt : Expr} {x : Str} {px : Pos} {ifs : List Expr} {scope : Scope} {cl : List (Str × Addr)} {Fin : Array GenState → Drawn → Nat → OsState → List Value → Led → Prop} {ax : Addr} {vs : List Value} {k : Nat} {news : Led} {E : Value → Shared → Prop} (J : Nat → List Value → Led → Prop)
    (hh : A.handled = none) (hkind : scope.kind = .function) (hx : scope.names.lookup x = some .local) (F : Fr h₀ L sH m) (N : News h₀ L sH news) (hm : (ax, ({ cls := .type "list", data := .seq vs.toArray k } : Obj)) ∈ news) (hsz : vs.length ≤ sizeLine)
    (hJ : J 0 [] news) (turn : ∀ (g : Heap) I, CTurn prog w A h₀ L m env elt ifs scope cl [I, ax] [I] vs.length (fun i bs => ∃ v, vs[i]? = some v ∧ bs = [(x, v)]) (fun i _ => J i) sG sD sO) (done : ∀ (g : Heap) tk ys nx, J vs.length ys nx → Fin sG sD tk sO ys nx) :
    wpAny (model prog w) A (pyIter (.ref ax)) (fun it s₂ => CompAt prog w A h₀ L m env elt (.Name x px) ifs scope cl Fin it s₂) E (Shared.mk sH sG sD sT sO) := by
  have hl : sH.IsList ax vs.toArray := ⟨_, (N _ hm).1, rfl, _, rfl⟩
  have hlt : ax < sH.objs.size := Heap.lt_size (N _ hm).1
  refine wpAny_pyIter_list hl ?_
  have up : ∀ b o, sH.get? b = some o → (sH.push { cls := .type "list_iterator", data := .fields #[.ref ax, .int 0 0] }).get? b = some o := fun b o e => Heap.get?_push_of_some _ e
  have W := Walks.list (prog := prog) (w := w) hh sH.objs.size ax (Nat.ne_of_lt hlt) vs.toArray
  refine ⟨sH.objs.size, _, _, _, _, _, _, _, news, fun i _ => J i, rfl, KTurns.ofWalks W (fun i v s₀ Q E st q => wpAny_of_eq (a := ()) rfl q), takes_name hkind hx, W.self, by simpa using hsz, fun i h st b hb => ?_, ⟨⟨_, Heap.get?_push_size _ rfl, rfl, rfl⟩, hl.push _⟩, fun b hb => ?_, ?_, fun b hb => ?_, F.keeps up, N.grown up, fun p hp => ?_, hJ, fun _ _ _ _ _ _ h => h, ?_, ?_⟩
  · obtain ⟨o, e, _⟩ := st.1
    rw [List.mem_singleton.mp hb]; exact ⟨o, e⟩
  · show b < (sH.push _).objs.size
    rw [Heap.size_push]
    rcases List.mem_cons.mp hb with rfl | hb
    · exact Nat.lt_succ_self _
    · rw [List.mem_singleton.mp hb]; exact Nat.lt_succ_of_lt hlt
  · intro hI
    rcases List.mem_cons.mp hI with e | hI
    · exact absurd F.ns.lt (e ▸ Nat.lt_irrefl _)
    · exact (N _ hm).2.1 (List.mem_singleton.mp hI).symm
  · rw [List.mem_singleton.mp hb]; exact next_is_new F
  · intro hI
    exact absurd (Heap.lt_size (N p hp).1) ((List.mem_singleton.mp hI) ▸ Nat.lt_irrefl _)
  · have t := turn (sH.push { cls := .type "list_iterator", data := .fields #[.ref ax, .int 0 0] }) sH.objs.size
    simpa using t
  · intro tk ys nx h
    exact done sH tk ys nx (by simpa using h)
theorem comp_text {elt : Expr} {x : Str} {px : Pos} {ifs : List Expr} {scope : Scope} {cl : List (Str × Addr)} {Fin : Array GenState → Drawn → Nat → OsState → List Value → Led → Prop} {l : List Nat} {t : Tok} {news : Led} {E : Value → Shared → Prop} (J : Nat → List Value → Led → Prop)
    (hh : A.handled = none) (hkind : scope.kind = .function) (hx : scope.names.lookup x = some .local) (F : Fr h₀ L sH m) (N : News h₀ L sH news) (hsz : l.length ≤ sizeLine)
    (hJ : J 0 [] news) (turn : ∀ (g : Heap) I, CTurn prog w A h₀ L m env elt ifs scope cl [I] [I] l.length (fun i bs => ∃ c u, l[i]? = some c ∧ bs = [(x, .str (S [c]) u)]) (fun i _ => J i) sG sD sO) (done : ∀ (g : Heap) tk ys nx, J l.length ys nx → Fin sG sD tk sO ys nx) :
    wpAny (model prog w) A (pyIter (.str (S l) t)) (fun it s₂ => CompAt prog w A h₀ L m env elt (.Name x px) ifs scope cl Fin it s₂) E (Shared.mk sH sG sD sT sO) := by
  have up : ∀ (q : Obj) b o, sH.get? b = some o → (sH.push q).get? b = some o := fun q b o e => Heap.get?_push_of_some _ e
  have key : ∀ (ty : String) (St : Nat → Heap → Prop), (∀ i h, St i h → ∃ o, h.get? sH.objs.size = some o) → Walks prog w A sH.objs.size [sH.objs.size] [sH.objs.size] (S l).cps.size (SignAt (S l)) St →
      ∀ o : Obj, St 0 (sH.push o) → CompAt prog w A h₀ L m env elt (.Name x px) ifs scope cl Fin (.ref sH.objs.size) (Shared.mk (sH.push o) sG sD sT sO) := by
    intro ty St hl W o hst
    refine ⟨sH.objs.size, _, _, _, _, _, _, fun i bs => ∃ c u, l[i]? = some c ∧ bs = [(x, .str (S [c]) u)], news, fun i _ => J i, rfl, KTurns.ofWalks W (fun i v s₀ Q E st q => wpAny_of_eq (a := ()) rfl q), ?_, W.self, by simpa using hsz, fun i h st b hb => ?_, hst, fun b hb => ?_, ?_, fun b hb => ?_, F.keeps (up _), N.grown (up _), fun p hp => ?_, hJ, fun _ _ _ _ _ _ h => h, ?_, ?_⟩
    · intro i v C s₀ m Q E hP hn hQ
      refine takes_name (P := SignAt (S l)) hkind hx i v C s₀ m Q E hP hn fun bs h' tk' hB => ?_
      obtain ⟨v, ⟨c, u, hc, rfl⟩, rfl⟩ := hB
      exact hQ _ h' tk' ⟨c, u, by simpa using hc, rfl⟩
    · obtain ⟨o, e⟩ := hl _ _ st
      rw [List.mem_singleton.mp hb]; exact ⟨o, e⟩
    · show b < (sH.push _).objs.size
      rw [Heap.size_push, List.mem_singleton.mp hb]; exact Nat.lt_succ_self _
    · intro hI
      exact absurd F.ns.lt ((List.mem_singleton.mp hI) ▸ Nat.lt_irrefl _)
    · rw [List.mem_singleton.mp hb]; exact next_is_new F
    · intro hI
      exact absurd (Heap.lt_size (N p hp).1) ((List.mem_singleton.mp hI) ▸ Nat.lt_irrefl _)
    · have t := turn (sH.push o) sH.objs.size
      simpa using t
    · intro tk ys nx h
      exact done sH tk ys nx (by simpa using h)
  cases ha : (S l).cps.all (· < 128)
  · refine wpAny_pyIter_wide ha (key "str_iterator" _ ?_ (Walks.strWide hh _ (S l) t) _ ⟨_, Heap.get?_push_size _ rfl, rfl, rfl⟩)
    intro i h st; obtain ⟨o, e, _⟩ := st; exact ⟨o, e⟩
  · refine wpAny_pyIter_ascii ha (key "str_ascii_iterator" _ ?_ (Walks.strAscii hh _ (S l) t) _ ⟨_, Heap.get?_push_size _ rfl, rfl, rfl⟩)
    intro i h st; obtain ⟨o, e, _⟩ := st; exact ⟨o, e⟩
end

end
section
section
open PySem.Calls LCg
variable {prog : Program} {w : World} {A : Around} {sH : Heap} {sG : Array GenState} {sD : Drawn} {sT : Nat} {sO : OsState} {env : Env} {h₀ : Heap} {L : Addr} {m : Str → Option Value}
theorem cturn_name {elt : Expr} {x : Str} {scope : Scope} {cl : List (Str × Addr)} {fp wr : List Addr} {n : Nat} {P : Nat → Value → Prop} {J : Nat → Nat → List Value → Led → Prop}
    (t : ∀ i v ys nx C oC D M h tk own (E' : Value → Shared → Prop), i < n → P i v → J i tk ys nx → ys.length ≤ i → NsObj oC M → M x = some v → (∀ b ∈ wr, ∃ o, (b, o) ∈ own) → (∀ p ∈ own, p.1 ∈ fp) → (∀ p ∈ nx, p.1 ≠ C ∧ p.1 ≠ D ∧ p.1 ∉ wr) → (@Ne Nat C D) →
      Fr h₀ L h m → News h₀ L h ((C, oC) :: (D, lst ys) :: (nx ++ own)) →
      let Qe := fun ys₂ s₂ => CEnd h₀ L m sG sD sO wr own C oC D ys (J (i + 1)) ys₂ s₂
      wpAny (model prog w) A (eval elt (compEnvC scope cl C env)) (fun y s₄ => Qe (ys ++ [y]) s₄) E' (Shared.mk h sG sD tk sO)) :
    CTurn prog w A h₀ L m env elt [] scope cl fp wr n (fun i bs => ∃ v, P i v ∧ bs = [(x, v)]) J sG sD sO := by
  rintro i bs ys nx C oC D m₂ h tk own E' hi hZ0 hJ hl hC hw ho hof hCD F N
  obtain ⟨v, hP, rfl⟩ := hZ0
  refine wpAny_tests_nil ?_
  simp only [if_true]
  exact t i v ys nx C oC D _ h tk own E' hi hP hJ hl hC (by simp [over, kstB]) hw ho hof hCD F N
theorem cturn_test {elt c : Expr} {x : Str} {scope : Scope} {cl : List (Str × Addr)} {fp wr : List Addr} {n : Nat} {P : Nat → Value → Prop} {J : Nat → Nat → List Value → Led → Prop}
    (t : ∀ i v ys nx C oC D M h tk own (E' : Value → Shared → Prop), i < n → P i v → J i tk ys nx → ys.length ≤ i → NsObj oC M → M x = some v → (∀ b ∈ wr, ∃ o, (b, o) ∈ own) → (∀ p ∈ own, p.1 ∈ fp) → (∀ p ∈ nx, p.1 ≠ C ∧ p.1 ≠ D ∧ p.1 ∉ wr) → (@Ne Nat C D) →
      Fr h₀ L h m → News h₀ L h ((C, oC) :: (D, lst ys) :: (nx ++ own)) →
      let Qe := fun ys₂ s₂ => CEnd h₀ L m sG sD sO wr own C oC D ys (J (i + 1)) ys₂ s₂
      wpAny (model prog w) A (isTrue c (compEnvC scope cl C env) (eval c (compEnvC scope cl C env))) (fun ok s₃ =>
        if ok = true then wpAny (model prog w) A (eval elt (compEnvC scope cl C env)) (fun y s₄ => Qe (ys ++ [y]) s₄) E' s₃
        else Qe ys s₃) E' (Shared.mk h sG sD tk sO)) :
    CTurn prog w A h₀ L m env elt [c] scope cl fp wr n (fun i bs => ∃ v, P i v ∧ bs = [(x, v)]) J sG sD sO := by
  rintro i bs ys nx C oC D m₂ h tk own E' hi hZ0 hJ hl hC hw ho hof hCD F N
  obtain ⟨v, hP, rfl⟩ := hZ0
  refine wpAny_tests_one ?_
  exact t i v ys nx C oC D _ h tk own E' hi hP hJ hl hC (by simp [over, kstB]) hw ho hof hCD F N
theorem cturn_pair {elt : Expr} {x y : Str} {scope : Scope} {cl : List (Str × Addr)} {fp wr : List Addr} {n : Nat} {Pt : Nat → Array Value → Prop} {J : Nat → Nat → List Value → Led → Prop} (hxy : x ≠ y)
    (t : ∀ i v u ys nx C oC D M h tk own (E' : Value → Shared → Prop), i < n → Pt i #[v, u] → J i tk ys nx → ys.length ≤ i → NsObj oC M → M x = some v → M y = some u → (∀ b ∈ wr, ∃ o, (b, o) ∈ own) → (∀ p ∈ own, p.1 ∈ fp) → (∀ p ∈ nx, p.1 ≠ C ∧ p.1 ≠ D ∧ p.1 ∉ wr) → (@Ne Nat C D) →
      Fr h₀ L h m → News h₀ L h ((C, oC) :: (D, lst ys) :: (nx ++ own)) →
      let Qe := fun ys₂ s₂ => CEnd h₀ L m sG sD sO wr own C oC D ys (J (i + 1)) ys₂ s₂
      wpAny (model prog w) A (eval elt (compEnvC scope cl C env)) (fun y s₄ => Qe (ys ++ [y]) s₄) E' (Shared.mk h sG sD tk sO)) :
    CTurn prog w A h₀ L m env elt [] scope cl fp wr n (fun i bs => ∃ a b, Pt i #[a, b] ∧ bs = [(y, b), (x, a)]) J sG sD sO := by
  rintro i bs ys nx C oC D m₂ h tk own E' hi hZ0 hJ hl hC hw ho hof hCD F N
  obtain ⟨v, u, hP, rfl⟩ := hZ0
  refine wpAny_tests_nil ?_
  simp only [if_true]
  exact t i v u ys nx C oC D _ h tk own E' hi hP hJ hl hC (by simp [over, kstB, hxy]) (by simp [over, kstB]) hw ho hof hCD F N
end
/-- values that are numbers, texts, pairwise -/
noncomputable def IsN (n : Int) (v : Value) : Prop := ∃ t, v = .int n t
noncomputable def IsT (x : List Nat) (v : Value) : Prop := ∃ t, v = .str (S x) t
theorem pd_get {α β : Type} {F : α → β → Prop} {l₁ : List α} {l₂ : List β} (p : Paired F l₁ l₂) : ∀ {i : Nat} {b : β}, l₂[i]? = some b → ∃ a, l₁[i]? = some a ∧ F a b := by
  induction p with
  | nil => intro i b h; simp at h
  | cons x r ih =>
    intro i b h
    cases i with
    | zero => obtain rfl := Option.some.inj h; exact ⟨_, rfl, x⟩
    | succ i => exact ih (i := i) h
theorem pd_get' {α β : Type} {F : α → β → Prop} {l₁ : List α} {l₂ : List β} (p : Paired F l₁ l₂) : ∀ {i : Nat} {a : α}, l₁[i]? = some a → ∃ b, l₂[i]? = some b ∧ F a b := by
  induction p with
  | nil => intro i b h; simp at h
  | cons x r ih =>
    intro i b h
    cases i with
    | zero => obtain rfl := Option.some.inj h; exact ⟨_, rfl, x⟩
    | succ i => exact ih (i := i) h
theorem pd_append {α β : Type} {F : α → β → Prop} {l₁ : List α} {l₂ : List β} (p : Paired F l₁ l₂) {k₁ : List α} {k₂ : List β} (q : Paired F k₁ k₂) : Paired F (l₁ ++ k₁) (l₂ ++ k₂) := by
  induction p with
  | nil => exact q
  | cons x _ ih => exact .cons x ih
theorem pd_take {α β : Type} {F : α → β → Prop} {l₁ : List α} {l₂ : List β} (p : Paired F l₁ l₂) : ∀ n, Paired F (l₁.take n) (l₂.take n) := by
  induction p with
  | nil => intro n; rw [List.take_nil, List.take_nil]; exact .nil
  | cons x r ih =>
    intro n
    cases n with
    | zero => exact .nil
    | succ n => exact .cons x (ih n)
theorem pd_drop {α β : Type} {F : α → β → Prop} {l₁ : List α} {l₂ : List β} (p : Paired F l₁ l₂) : ∀ n, Paired F (l₁.drop n) (l₂.drop n) := by
  induction p with
  | nil => intro n; rw [List.drop_nil, List.drop_nil]; exact .nil
  | cons x r ih =>
    intro n
    cases n with
    | zero => exact .cons x r
    | succ n => exact ih n
theorem pd_rev {α β : Type} {F : α → β → Prop} {l₁ : List α} {l₂ : List β} (p : Paired F l₁ l₂) : Paired F l₁.reverse l₂.reverse := by
  induction p with
  | nil => exact .nil
  | cons x _ ih => rw [List.reverse_cons, List.reverse_cons]; exact pd_append ih (.cons x .nil)

end
section
section
open PySem.Calls LCg
variable {prog : Program} {w : World} {A : Around} {sH : Heap} {sG : Array GenState} {sD : Drawn} {sT : Nat} {sO : OsState} {env : Env} {h₀ : Heap}
theorem turns_list {σ : Type} {x : Str} {px : Pos} {body : List Stmt} {ax : Addr} {vs : List Value} {k : Nat} {m₀ : Str → Option Value} {news : Led} {Q : Flow → Shared → Prop}
    (ps : σ → List (Str × Value)) (led : σ → Led) (J : Nat → σ → Prop) (c₀ : σ) (hh : A.handled = none)
    (F : Fr h₀ env.locals sH m₀) (N : News h₀ env.locals sH news) (hm : (ax, ({ cls := .type "list", data := .seq vs.toArray k } : Obj)) ∈ news)
    (h1 : ∀ p ∈ led c₀, p ∈ news) (h2 : ∀ p ∈ ps c₀, m₀ p.1 = some p.2) (h3 : J 0 c₀)
    (turn : ∀ i v c u h tk own I (g : Heap), i < vs.length → vs[i]? = some v → J i c → (∀ p ∈ led c, p.1 ≠ I) → (∃ o, (I, o) ∈ own) → (∀ p ∈ own, p.1 = I ∨ p.1 = ax) → Fr h₀ env.locals h (kstB u (ps c)) → News h₀ env.locals h (led c ++ own) →
      let Qw := FEnd h₀ env.locals sG sD sO [I] own ps led (J (i + 1)) Q
      wpAny (model prog w) A (assign (.Name x px) env v) (fun _ s₃ => wpAny (model prog w) A (execs body env) Qw (fun _ _ => False) s₃) (fun _ _ => False) (Shared.mk h sG sD tk sO))
    (done : ∀ c u h tk (g : Heap), J vs.length c → Fr h₀ env.locals h (kstB u (ps c)) → News h₀ env.locals h (led c) → Q .next (Shared.mk h sG sD tk sO)) :
    wpAny (model prog w) A (pyIter (.ref ax)) (fun it s₂ => TurnsAt prog w A h₀ env (.Name x px) body Q (fun _ _ => False) it s₂) (fun _ _ => False) (Shared.mk sH sG sD sT sO) := by
  have hl : sH.IsList ax vs.toArray := ⟨_, (N _ hm).1, rfl, _, rfl⟩
  have hlt : ax < sH.objs.size := Heap.lt_size (N _ hm).1
  refine wpAny_pyIter_list hl ?_
  have up : ∀ b o, sH.get? b = some o → (sH.push { cls := .type "list_iterator", data := .fields #[.ref ax, .int 0 0] }).get? b = some o := fun b o e => Heap.get?_push_of_some _ e
  refine turns_k (KTurns.ofWalks (Walks.list (prog := prog) (w := w) hh sH.objs.size ax (Nat.ne_of_lt hlt) vs.toArray) (fun i v s₀ Q E st q => wpAny_of_eq (a := ()) rfl q)) ps led J c₀ (fun i h st b hb => ?_) ?_ (fun b hb => ?_) ⟨⟨_, Heap.get?_push_size _ rfl, rfl, rfl⟩, hl.push _⟩
    (F.keeps up) (N.grown up) h1 (fun p hp hI => ?_) h2 h3 ?_ ?_
  · obtain ⟨o, e, _⟩ := st.1
    rw [List.mem_singleton.mp hb]; exact ⟨o, e⟩
  · intro hI
    rcases List.mem_cons.mp hI with e | hI
    · exact absurd F.ns.lt (e ▸ Nat.lt_irrefl _)
    · exact (N _ hm).2.1 (List.mem_singleton.mp hI).symm
  · rw [List.mem_singleton.mp hb]; exact next_is_new F
  · exact absurd (Heap.lt_size (N p (h1 p hp)).1) ((List.mem_singleton.mp hI) ▸ Nat.lt_irrefl _)
  · intro i v c u h tk own hi hv hJ hof hw hfp9 F₁ N₁
    refine turn i v c u h tk own sH.objs.size sH (by simpa using hi) (by simpa using hv) hJ (fun p hp e => hof p hp (by rw [e]; exact List.mem_singleton.mpr rfl)) (hw _ (List.mem_singleton.mpr rfl)) (fun p hp => by simpa using hfp9 p hp) F₁ N₁
  · intro c u h tk hJ F₁ N₁
    exact done c u h tk sH (by simpa using hJ) F₁ N₁
end
theorem quote_item (n : Nat) : Txt.item (Str.ofString "\"\\ ") (Int.fmod n 3) = S [[34, 92, 32].getD (n % 3) 0] := by
  have h : Int.fmod (n : Int) 3 = ((n % 3 : Nat) : Int) := by rw [Int.fmod_eq_emod_of_nonneg _ (by decide)]; simp
  rw [h]
  have : n % 3 = 0 ∨ n % 3 = 1 ∨ n % 3 = 2 := by lia
  rcases this with e | e | e <;> rw [e] <;> rfl
theorem allLt_mem {d : Nat} : ∀ (l : Led), AllLt d l → ∀ p ∈ l, @LT.lt Nat _ p.1 d
  | [], _, p, hp => by cases hp
  | q :: r, h, p, hp => by
    rcases List.mem_cons.mp hp with e | hp
    · rw [e]; exact And.left h
    · exact allLt_mem r (And.right h) p hp

end
section
section
open PySem.Calls LCg
variable {prog : Program} {w : World} {A : Around} {s : Shared} {sH : Heap} {sG : Array GenState} {sD : Drawn} {sT : Nat} {sO : OsState} {E : Value → Shared → Prop} {Q : Value → Shared → Prop} {h₀ : Heap} {L : Addr} {m : Str → Option Value} {news : Led}
/-- a list object -/
noncomputable abbrev ls (k : Nat) (vs : List Value) : Obj := { cls := .type "list", data := .seq vs.toArray k }
theorem add_nat {a b : Nat} {t u : Tok} (h : Q (.int ((a + b : Nat) : Int) sT) (Shared.mk sH sG sD (sT + 1) sO)) : wpAny (model prog w) A (binaryOp .Add (.int (a : Int) t) (.int (b : Int) u)) Q E (Shared.mk sH sG sD sT sO) := by
  refine add_int ?_
  rw [Int.natCast_add] at h
  exact h
theorem sub_nat {a b : Nat} {t u : Tok} (hb : b ≤ a) (h : Q (.int ((a - b : Nat) : Int) sT) (Shared.mk sH sG sD (sT + 1) sO)) : wpAny (model prog w) A (binaryOp .Sub (.int (a : Int) t) (.int (b : Int) u)) Q E (Shared.mk sH sG sD sT sO) := by
  refine sub_int ?_
  rw [Int.ofNat_sub hb] at h
  exact h
theorem mod_nat {a b : Nat} {t u : Tok} (hb : b ≠ 0) (h : Q (.int ((a % b : Nat) : Int) sT) (Shared.mk sH sG sD (sT + 1) sO)) : wpAny (model prog w) A (binaryOp .Mod (.int (a : Int) t) (.int (b : Int) u)) Q E (Shared.mk sH sG sD sT sO) := by
  refine mod_int' (by lia) ?_
  rw [Int.fmod_eq_emod_of_nonneg _ (by lia)]
  simpa using h
theorem div_nat {a b : Nat} {t u : Tok} (hb : b ≠ 0) (hb' : b < 1000) (h : Q (.int ((a / b : Nat) : Int) sT) (Shared.mk sH sG sD (sT + 1) sO)) : wpAny (model prog w) A (binaryOp .FloorDiv (.int (a : Int) t) (.int (b : Int) u)) Q E (Shared.mk sH sG sD sT sO) := by
  refine PyProof.Rows.floordiv_int (by lia) ?_ (Or.inl (PyProof.noPylong_small (by lia)))
  rw [Int.fdiv_eq_ediv_of_nonneg _ (by lia)]
  simpa using h
theorem add_lit (b : Nat) {a : Nat} {z : Int} {t u : Tok} (e : z = (b : Int)) (h : Q (.int ((a + b : Nat) : Int) sT) (Shared.mk sH sG sD (sT + 1) sO)) : wpAny (model prog w) A (binaryOp .Add (.int (a : Int) t) (.int z u)) Q E (Shared.mk sH sG sD sT sO) := by subst e; exact add_nat h
theorem sub_lit (b : Nat) {a : Nat} {z : Int} {t u : Tok} (e : z = (b : Int)) (hb : b ≤ a) (h : Q (.int ((a - b : Nat) : Int) sT) (Shared.mk sH sG sD (sT + 1) sO)) : wpAny (model prog w) A (binaryOp .Sub (.int (a : Int) t) (.int z u)) Q E (Shared.mk sH sG sD sT sO) := by subst e; exact sub_nat hb h
theorem mod_lit (b : Nat) {a : Nat} {z : Int} {t u : Tok} (e : z = (b : Int)) (hb : b ≠ 0) (h : Q (.int ((a % b : Nat) : Int) sT) (Shared.mk sH sG sD (sT + 1) sO)) : wpAny (model prog w) A (binaryOp .Mod (.int (a : Int) t) (.int z u)) Q E (Shared.mk sH sG sD sT sO) := by subst e; exact mod_nat hb h
theorem div_lit (b : Nat) {a : Nat} {z : Int} {t u : Tok} (e : z = (b : Int)) (hb : b ≠ 0) (hb' : b < 1000) (h : Q (.int ((a / b : Nat) : Int) sT) (Shared.mk sH sG sD (sT + 1) sO)) : wpAny (model prog w) A (binaryOp .FloorDiv (.int (a : Int) t) (.int z u)) Q E (Shared.mk sH sG sD sT sO) := by subst e; exact div_nat hb hb' h
theorem len_L {a : Addr} {k : Nat} {vs : List Value} (N : News h₀ L sH news) (hm : (a, ls k vs) ∈ news) (hz : vs.length ≤ 1000000000000000000) (h : Q (.int (vs.length : Nat) (sT + 1)) (Shared.mk sH sG sD (sT + 1 + 1) sO)) :
    wpAny (model prog w) A (call (.builtin "len") [.ref a]) Q E (Shared.mk sH sG sD sT sO) := by
  refine len_list (News.isList N hm) (by simp; lia) ?_
  simpa using h
theorem item_L {value slice : Expr} {a : Addr} {k p : Nat} {u : Tok} {vs : List Value} {x : Value} (N : News h₀ L s.heap news) (hm : (a, ls k vs) ∈ news) (hx : vs[p]? = some x) (hz : p < 1000000000000000000) (h : Q x s)
    (hs : subscripted slice false (.ref a) (.int (p : Int) u) = operate [.ref a, .int (p : Int) u] (getItem (.ref a) (.int (p : Int) u)) := by with_unfolding_all rfl) (hg : ∀ r, letTemporaryGo value (.ref a) r = pure () := by intro _; with_unfolding_all rfl) :
    wpAny (model prog w) A (subscriptTail value slice (.ref a) (.int (p : Int) u)) Q E s :=
  item_listL (l := vs) (News.isList N hm) (by lia) (by lia) (by simpa using hx) h hs hg
theorem item_C {value slice : Expr} {a : Addr} {k : Nat} (p : Nat) {z : Int} {u : Tok} {vs : List Value} {x : Value} (e : z = (p : Int)) (N : News h₀ L s.heap news) (hm : (a, ls k vs) ∈ news) (hx : vs[p]? = some x) (hz : p < 1000000000000000000) (h : Q x s)
    (hs : subscripted slice false (.ref a) (.int z u) = operate [.ref a, .int z u] (getItem (.ref a) (.int z u)) := by with_unfolding_all rfl) (hg : ∀ r, letTemporaryGo value (.ref a) r = pure () := by intro _; with_unfolding_all rfl) :
    wpAny (model prog w) A (subscriptTail value slice (.ref a) (.int z u)) Q E s := by subst e; exact item_L N hm hx hz h hs hg
theorem sum_L {a b : Addr} {k j : Nat} {vs us : List Value} (F : Fr h₀ L sH m) (N : News h₀ L sH news) (ha : (a, ls k vs) ∈ news) (hb : (b, ls j us) ∈ news)
    (hz : vs.length + us.length ≤ sizeLine) (h : ∀ D h', Fr h₀ L h' m → News h₀ L h' ((D, ls 0 (vs ++ us)) :: news) → (∀ p ∈ news, p.1 < D) → Q (.ref D) (Shared.mk h' sG sD sT sO)) :
    wpAny (model prog w) A (binaryOp .Add (.ref a) (.ref b)) Q E (Shared.mk sH sG sD sT sO) :=
  kmk_add_lit F N (News.isList N ha) (News.isList N hb) (zs := vs ++ us) (by simp) h (by simpa using hz)
theorem cut_L {value slice : Expr} {a : Addr} {k : Nat} {vs : List Value} {vl vu : Value} {lo hi : Option Int} (zs : List Value) (F : Fr h₀ L sH m) (N : News h₀ L sH news) (hm : (a, ls k vs) ∈ news) (pl : IsPart vl lo) (pu : IsPart vu hi)
    (e : slicePick vs.toArray lo hi none = zs.toArray) (hz : vs.length ≤ sizeLine) (h : ∀ D h', Fr h₀ L h' m → News h₀ L h' ((D, ls 0 zs) :: news) → (∀ p ∈ news, p.1 < D) → Q (.ref D) (Shared.mk h' sG sD sT sO))
    (hs : subscripted slice false (.ref a) (.ref sH.objs.size) = operate [.ref sH.objs.size, .ref a] (getItem (.ref a) (.ref sH.objs.size)) := by with_unfolding_all rfl) (ht : ∀ r, letTemporaryGo value (.ref a) r = pure () := by intro _; with_unfolding_all rfl) :
    wpAny (model prog w) A (subscriptTail value slice (.ref a) (.ref sH.objs.size)) Q E (Shared.mk (sH.push { cls := .type "slice", data := .fields #[vl, vu, .none] }) sG sD sT sO) :=
  kmk_slice_lit (s := ⟨sH, sG, sD, sT, sO⟩) F N (News.isList N hm) pl pu (zs := zs) (by rw [e]) h hs ht (by simpa using hz)
theorem S_app (a b : List Nat) : S a ++ S b = S (a ++ b) := by
  show Str.mk _ = Str.mk _
  simp
theorem add_S {x y : List Nat} {t u : Tok} (hz : x.length + y.length ≤ sizeLine) (h : ∀ t' tk, Q (.str (S (x ++ y)) t') (Shared.mk sH sG sD tk sO)) : wpAny (model prog w) A (binaryOp .Add (.str (S x) t) (.str (S y) u)) Q E (Shared.mk sH sG sD sT sO) := by
  refine PyProof.Rows.add_str (fun t' tk => ?_) (by rw [S_len, S_len]; exact hz)
  rw [S_app]; exact h t' tk
theorem add_CS (x : List Nat) {z : Str} {y : List Nat} {t u : Tok} (e : z = S x) (hz : x.length + y.length ≤ sizeLine) (h : ∀ t' tk, Q (.str (S (x ++ y)) t') (Shared.mk sH sG sD tk sO)) : wpAny (model prog w) A (binaryOp .Add (.str z t) (.str (S y) u)) Q E (Shared.mk sH sG sD sT sO) := by subst e; exact add_S hz h
theorem add_SC (y : List Nat) {z : Str} {x : List Nat} {t u : Tok} (e : z = S y) (hz : x.length + y.length ≤ sizeLine) (h : ∀ t' tk, Q (.str (S (x ++ y)) t') (Shared.mk sH sG sD tk sO)) : wpAny (model prog w) A (binaryOp .Add (.str (S x) t) (.str z u)) Q E (Shared.mk sH sG sD sT sO) := by subst e; exact add_S hz h
theorem iadd_S {x y : List Nat} {t u : Tok} (hz : x.length + y.length ≤ sizeLine) (h : ∀ t' tk, Q (.str (S (x ++ y)) t') (Shared.mk sH sG sD tk sO)) : wpAny (model prog w) A (inplaceOp .Add (.str (S x) t) (.str (S y) u)) Q E (Shared.mk sH sG sD sT sO) := by
  refine PyProof.Rows.iadd_str (fun t' tk => ?_) (by rw [S_len, S_len]; exact hz)
  rw [S_app]; exact h t' tk
end

end
section
noncomputable def quotes (n : Nat) : Nat := [34, 92, 32].getD (n % 3) 0
theorem quote_item' (n : Nat) : Txt.item (Str.ofString "\"\\ ") ((n % 3 : Nat) : Int) = S [quotes n] := by
  have : n % 3 = 0 ∨ n % 3 = 1 ∨ n % 3 = 2 := by lia
  unfold quotes
  rcases this with e | e | e <;> rw [e] <;> rfl
theorem lvs_split (ts : List Tr) (p : Nat) (x y : Tr) (h1 : ts[p]? = some x) (h2 : ts[p + 1]? = some y) : lvs (ts.take p ++ [.nd x y] ++ ts.drop (p + 2)) = lvs ts := by
  have e : ts = ts.take p ++ (x :: y :: ts.drop (p + 2)) := by
    obtain ⟨l1, rfl⟩ := List.getElem?_eq_some_iff.mp h1
    obtain ⟨l2, rfl⟩ := List.getElem?_eq_some_iff.mp h2
    rw [← List.drop_eq_getElem_cons (by lia), ← List.drop_eq_getElem_cons (by lia), List.take_append_drop]
  conv => rhs; rw [e]
  simp [lvs, Tr.lv]
theorem leaves_paired {ns : List Nat} {ys : List Value} (p : Paired (fun n v => IsT [quotes n] v) ns ys) : Paired (fun (tr : Tr) v => IsT (tr.enc 64) v) (ns.map fun n => Tr.lf (quotes n)) ys := by
  induction p with
  | nil => exact .nil
  | cons h _ ih => exact .cons h ih
theorem lvs_leaves : ∀ ns : List Nat, lvs (ns.map fun n => Tr.lf (quotes n)) = ns.map quotes
  | [] => rfl
  | n :: r => by
    show [quotes n] ++ lvs (r.map fun n => Tr.lf (quotes n)) = _
    rw [lvs_leaves r]; rfl
theorem lv_le : ∀ {ts : List Tr} {p : Nat} {x : Tr}, ts[p]? = some x → x.lv.length ≤ (lvs ts).length
  | [], p, x, h => by simp at h
  | t :: ts, 0, x, h => by
    simp at h; subst h
    simp [lvs]
  | t :: ts, p + 1, x, h => by
    have := lv_le (ts := ts) (p := p) (x := x) (by simpa using h)
    simp only [lvs, List.flatMap_cons, List.length_append] at this ⊢; lia
set_option maxRecDepth 100000 in
set_option maxHeartbeats 8000000 in
theorem term_ (w : World) (a : Addr) (vs : List Value) (ns : List Nat) (hns : Paired (fun n v => IsN (n : Nat) v) ns vs) (hl : vs.length = 6) (t : Tok) (rest : Led) :
    Does w 10 100 (.ref 169) [.ref a] ((a, LCg.lst vs) :: rest) (fun K => ∀ (tr : Tr) (t : Tok), tr.lv = ns.map quotes → K (.str (S (tr.enc 64)) t) ((a, LCg.lst vs) :: rest)) := by
  k_with_none
  k_with "my k_in" => first | with_reducible assumption | exact Frag.In.keeps (by with_reducible assumption) (Fr.keep (by with_reducible assumption))
  k_with "my k_ne" => (refine neN ?_; (try dsimp only); first | with_reducible assumption | (refine Ne.symm ?_; with_reducible assumption) | lia)
  k_with "my ROOM" => ((try dsimp only [Around.deeper, Around.mark, Around.in1]); first | exact room3 (by assumption) rfl | exact room2 (by assumption) rfl | lia)
  k_with "my ite" => first | (refine ite_pos (by with_reducible assumption) ?_) | (refine ite_neg (by with_reducible assumption) ?_) | (refine ite_pos (decide_eq_true (by with_reducible assumption)) ?_) | (refine ite_neg (Bool.eq_false_iff.mp (decide_eq_false (by with_reducible assumption))) ?_)
  k_with "my exec While" => (try k_fold); refine Stop.mk ?_
  k_with "my subscriptTail Name Name str int" => (refine sub_str (by assumption) (by assumption) ?_)
  k_with "my call builtin:ord" => (refine ord_S ?_)
  k_with "my exec Assign cons ListComp" => (try k_fold); (k_dflt (refine Assign_Lc_k (_F₀ := by k_asm) (by rfl) (by with_unfolding_all rfl) (by with_unfolding_all rfl) (by decide) (by rfl) (by decide) (by rfl) (by rfl) ?_))
  k_with "my eval ListComp" => (try k_fold); (k_dflt (refine Lc_k (_F₀ := by k_asm) (by with_unfolding_all rfl) (by decide) (by rfl) (by decide) ?_))
  k_with "my binaryOp Add int int" => with_reducible first | (refine' add_lit 1 (by decide) ?_) | (refine' add_lit 2 (by decide) ?_) | refine add_nat ?_
  k_with "my binaryOp Sub int int" => with_reducible first | (refine' sub_lit 1 (by decide) (by first | with_reducible_and_instances lia | decide) ?_) | (refine' sub_lit 256 (by decide) (by first | with_reducible_and_instances lia | decide) ?_) | (refine' sub_lit 300 (by decide) (by first | with_reducible_and_instances lia | decide) ?_) | (refine' sub_nat (by first | with_reducible_and_instances lia | decide) ?_)
  k_with "my binaryOp Mod int int" => with_reducible first | (refine' mod_lit 3 (by decide) (by first | with_reducible_and_instances lia | decide) ?_) | (refine' mod_lit 2 (by decide) (by first | with_reducible_and_instances lia | decide) ?_) | (refine' mod_nat (by first | with_reducible_and_instances lia | decide) ?_)
  k_with "my binaryOp FloorDiv int int" => with_reducible first | (refine' div_lit 3 (by decide) (by first | with_reducible_and_instances lia | decide) (by decide) ?_) | (refine' div_lit 2 (by decide) (by first | with_reducible_and_instances lia | decide) (by decide) ?_) | fail
  k_with "my call builtin:len" => ((k_dflt (refine' len_L (by k_asm) (by k_mem) ?_ ?_)); (next => with_reducible_and_instances lia))
  k_with "my subscriptTail" => ((k_dflt (refine' item_L (by k_asm) (by k_mem) (by with_reducible assumption) ?_ ?_; k_whole)); (next => with_reducible_and_instances lia))
  k_with "my subscriptTail" => ((k_dflt (refine' item_C 0 (by exact rfl) (by k_asm) (by k_mem) (by with_reducible assumption) ?_ ?_; k_whole)); (next => decide))
  k_with "my subscriptTail Name Name ref int" => ((k_dflt (refine' item_L (by k_asm) (by k_mem) (by with_reducible assumption) ?_ ?_; k_whole)); (next => with_reducible_and_instances lia))
  k_with "my binaryOp Add ref ref" => (((k_dflt (refine' sum_L (by k_asm) (by k_asm) (by k_mem) (by k_mem) ?_ ?_)); (next => ((try rw [sizeLine_eq]); (try simp only [List.length_append, List.length_take, List.length_drop, List.length_cons, List.length_nil]); with_reducible_and_instances lia)); intro Dpzz hpzz Fpzz Npzz l1zz; (try k_lt l1zz))); (try revert l1zz); (try revert Npzz); (try revert Fpzz); (try revert hpzz); (try revert Dpzz); intros
  k_with "my subscriptTail Name Slice ref ref" => (((k_dflt (refine' cut_L _ (by k_asm) (by k_asm) (by k_mem) (by kmk_part) (by kmk_part) (by first | exact pick_from _ _ | exact pick_upto _ _) ?_ ?_ (by with_unfolding_all rfl) (by kmk_pure))); (next => ((try rw [sizeLine_eq]); with_reducible_and_instances lia)); intro Dpzz hpzz Fpzz Npzz l1zz; (try k_lt l1zz))); (try revert l1zz); (try revert Npzz); (try revert Fpzz); (try revert hpzz); (try revert Dpzz); intros
  k_with "my binaryOp Add str str" => (with_reducible first | ((refine' add_S ?_ ?_); (next => ((try rw [sizeLine_eq]); (try simp only [List.length_append, List.length_cons, List.length_nil]); with_reducible_and_instances lia)); intro tpzz tkpzz) | ((refine' add_CS [64] (by with_unfolding_all exact rfl) ?_ ?_); (next => ((try rw [sizeLine_eq]); (try simp only [List.length_append, List.length_cons, List.length_nil]); with_reducible_and_instances lia)); intro tpzz tkpzz) | ((refine' add_CS [34] (by with_unfolding_all exact rfl) ?_ ?_); (next => ((try rw [sizeLine_eq]); (try simp only [List.length_append, List.length_cons, List.length_nil]); with_reducible_and_instances lia)); intro tpzz tkpzz) | ((refine' add_CS [92] (by with_unfolding_all exact rfl) ?_ ?_); (next => ((try rw [sizeLine_eq]); (try simp only [List.length_append, List.length_cons, List.length_nil]); with_reducible_and_instances lia)); intro tpzz tkpzz) | ((refine' add_SC [34] (by with_unfolding_all exact rfl) ?_ ?_); (next => ((try rw [sizeLine_eq]); (try simp only [List.length_append, List.length_cons, List.length_nil]); with_reducible_and_instances lia)); intro tpzz tkpzz) | ((refine' add_SC [10] (by with_unfolding_all exact rfl) ?_ ?_); (next => ((try rw [sizeLine_eq]); (try simp only [List.length_append, List.length_cons, List.length_nil]); with_reducible_and_instances lia)); intro tpzz tkpzz)); (try revert tkpzz); (try revert tpzz); (try revert tkpzz); (try revert tpzz); (try revert tkpzz); (try revert tpzz); (try revert tkpzz); (try revert tpzz); (try revert tkpzz); (try revert tpzz); (try revert tkpzz); (try revert tpzz); intros
  k_with "my exec For" => (try k_fold); (k_dflt (refine For_k (F := by k_asm) ?_))
  k_with "my inplaceOp Add" => ((dsimp only; (with_reducible refine' iadd_S ?_ ?_); (next => ((try rw [sizeLine_eq]); (try simp only [List.length_append, List.length_cons, List.length_nil]); with_reducible_and_instances lia)); intro tpzz tkpzz)); (try revert tkpzz); (try revert tpzz); intros
  unfold Does
  intro dp un gd env outer A₀ base h₀ L m sH sG sD sT sO R p loose mean mg mb hf hk B F X N T hd hu hret
  k_dflt (refine' code_defF ?k1 ?k2 ?k3 ?k4 ?k5 ?kA ?kF ?kK ?k6 ?k7 ?k8 ?k9 ?kB ?_ ?c2 ?c3 ?c4 ?c5; (case kA => exact rfl); (case kF => exact hf); (case kK => exact hk); (case k1 => exact B); (case k2 => exact F); (case k3 => exact X); (case k4 => exact N); (case k5 => exact T); (case k6 => k_is); (case k7 => k_is); (case k8 => (refine room_of hd ?_; dsimp only; lia)); (case k9 => first | exact BindsTo.of_eq rfl | exact binds_K (by k_in) rfl (by k_is) rfl rfl rfl); (case c5 => decide); (case kB => exact locs rfl); (case c2 => exact rfl); (case c3 => exact rfl); (case c4 => exact rfl); k_whole)
  intro g' L' h1 FG' F' N' B' X' T'
  (try dsimp only)
  (try k_fold)
  k_steps
  rename Fr _ _ _ _ => F1
  rename News _ _ _ _ => N1
  (try k_fold)
  refine comp_list (fun i ys nx => nx = (a, LCg.lst vs) :: rest ∧ Paired (fun n v => IsT [quotes n] v) (ns.take i) ys) rfl rfl rfl F1 N1 List.mem_cons_self ?hs ⟨rfl, .nil⟩ ?turn ?done
  case hs => rw [hl, sizeLine_eq]; decide
  case turn =>
    intro g I
    refine cturn_name ?_
    rintro i v ys nx C oC D M h tk own E' hi hv hJ0 hyl hC hM hw hof ho hCD F2 N2
    intro Qe
    (try k_fold)
    obtain ⟨rfl, hys⟩ := hJ0
    clear F1 N1
    obtain ⟨n, hn, t, rfl⟩ := pd_get hns hv
    k_steps
    (try dsimp only)
    refine cend ((a, LCg.lst vs) :: rest) (by k_asm) (by k_asm) (by (repeat (first | assumption | exact List.mem_cons_self | apply List.mem_cons_of_mem))) (by (repeat (first | assumption | exact List.mem_cons_self | apply List.mem_cons_of_mem))) (by (intro p9 hp9; repeat (first | exact hp9 | exact List.mem_append_left _ hp9 | exact List.mem_append_right _ hp9 | apply List.mem_cons_of_mem))) (by (intro p9 hp9; repeat (first | exact hp9 | exact List.mem_append_left _ hp9 | exact List.mem_append_right _ hp9 | apply List.mem_cons_of_mem))) ?_ ?_
    · exact ho
    · refine ⟨rfl, ?_⟩
      rw [List.take_add_one, hn]
      refine pd_append hys (.cons ?_ .nil)
      rw [quote_item']
      exact ⟨_, rfl⟩
  case done =>
    rintro g tk0 ys nx hZ0 D h tk hg F2 N2 hD
    obtain ⟨rfl, hys⟩ := hZ0
    clear F1 N1
    have hnl : ns.length = 6 := by rw [hns.length, hl]
    rw [hl, List.take_of_length_le (by lia)] at hys
    have hyl : ys.length = 6 := by rw [← hys.length, hnl]
    k_steps
    rename Addr => q
    rename Heap => h3
    rename Fr _ _ _ _ => F1
    rename News _ _ _ _ => N1
    refine turns_list (σ := Addr × Nat × List Value × List Tr) (fun c => [("parts", .ref c.1), ("numbers", .ref a)]) (fun c => (c.1, ls c.2.1 c.2.2.1) :: (q, ls 0 (vs.drop 1)) :: (a, LCg.lst vs) :: rest)
      (fun i c => Paired (fun (tr : Tr) v => IsT (tr.enc 64) v) c.2.2.2 c.2.2.1 ∧ c.2.2.2.length + i = 6 ∧ lvs c.2.2.2 = ns.map quotes) (D, ys.length, ys, ns.map fun n => .lf (quotes n)) rfl F1 N1 (List.mem_cons_self) ?h1 ?h2 ?h3 ?turn ?done
    case h1 =>
      (repeat' (first | exact List.forall_mem_nil _ | refine List.forall_mem_cons.mpr ⟨by (repeat (first | with_reducible assumption | with_reducible exact List.mem_cons_self | apply List.mem_cons_of_mem)), ?_⟩))
      (try (intro p9 hp9; repeat (first | exact hp9 | exact List.mem_append_left _ hp9 | exact List.mem_append_right _ hp9 | apply List.mem_cons_of_mem)))
    case h2 => repeat' (first | exact List.forall_mem_nil _ | refine List.forall_mem_cons.mpr ⟨by first | rfl | (dsimp only; refine Eq.trans (b := some (Value.int _ _)) rfl ?_; refine int_cong ?_; simp only [List.length_append, List.length_cons, List.length_nil]; lia), ?_⟩)
    case h3 => exact ⟨leaves_paired hys, by simp [hnl], lvs_leaves ns⟩
    case turn =>
      clear F1 N1
      rintro i v ⟨d, k, ps, ts⟩ u h' tk' own I g3 hi hv hJ0 hoff hI hof F3 N3
      intro Qw
      (try k_fold)
      obtain ⟨hps, hlen, hlv⟩ := hJ0
      (try dsimp only at hps hlen hlv hoff F3 N3 ⊢)
      obtain ⟨oI, hI⟩ := hI
      have hv1 : vs[i + 1]? = some v := by simpa [Nat.add_comm] using hv
      obtain ⟨n, hn, tn, rfl⟩ := pd_get hns hv1
      have hi5 : i < 5 := by simpa [hl] using hi
      have hpl : ps.length = ts.length := hps.length.symm
      have hp : n / 3 % (ps.length - 1) < ps.length - 1 := Nat.mod_lt _ (by lia)
      obtain ⟨x, hx⟩ : ∃ x, ts[n / 3 % (ps.length - 1)]? = some x := ⟨_, List.getElem?_eq_getElem (by lia)⟩
      obtain ⟨y, hy⟩ : ∃ y, ts[n / 3 % (ps.length - 1) + 1]? = some y := ⟨_, List.getElem?_eq_getElem (by lia)⟩
      obtain ⟨vx, hvx, tx, rfl⟩ := pd_get' hps hx
      obtain ⟨vy, hvy, ty, rfl⟩ := pd_get' hps hy
      have hll : (lvs ts).length = 6 := by rw [hlv, List.length_map, hnl]
      have hlx := lv_le hx
      have hly := lv_le hy
      have hex := x.enc_len 64
      have hey := y.enc_len 64
      clear hret FG' B' hd hu
      simp only [List.cons_append] at N3
      k_steps
      rename Fr _ _ _ _ => F9
      rename News _ _ _ _ => N9
      (try simp only [List.push_toArray] at N9)
      rename (_ ∧ _) => l9
      have hIl := allLt_mem _ l9.2.2.2.2.2.2.2 _ (List.mem_append_right _ hI)
      refine' fend_next (_, 0, ps.take (n / 3 % (ps.length - 1)) ++ [_] ++ ps.drop (n / 3 % (ps.length - 1) + 2), ts.take (n / 3 % (ps.length - 1)) ++ [.nd x y] ++ ts.drop (n / 3 % (ps.length - 1) + 2)) F9 N9 ?ho (List.forall_mem_cons.mpr ⟨List.mem_cons_self, ?h1⟩) (List.forall_mem_cons.mpr ⟨?hw1, ?hw⟩) ?h2 ⟨?h3, ?h4, ?h5⟩
      case ho => (intro p9 hp9; repeat (first | exact hp9 | exact List.mem_append_left _ hp9 | exact List.mem_append_right _ hp9 | apply List.mem_cons_of_mem))
      case h1 => (intro p9 hp9; repeat (first | exact hp9 | exact List.mem_append_left _ hp9 | exact List.mem_append_right _ hp9 | apply List.mem_cons_of_mem))
      case hw1 => exact fun e => Nat.ne_of_gt hIl (List.mem_singleton.mp e)
      case hw => exact fun p hp => by simpa using hoff p (List.mem_cons_of_mem _ hp)
      case h2 => repeat' (first | exact List.forall_mem_nil _ | refine List.forall_mem_cons.mpr ⟨by first | rfl | (dsimp only; refine Eq.trans (b := some (Value.int _ _)) rfl ?_; refine int_cong ?_; simp only [List.length_append, List.length_cons, List.length_nil]; lia), ?_⟩)
      case h3 => exact pd_append (pd_append (pd_take hps _) (.cons ⟨_, rfl⟩ .nil)) (pd_drop hps _)
      case h4 => simp; lia
      case h5 => rw [lvs_split _ _ _ _ hx hy, hlv]
    case done =>
      rintro ⟨d, k, ps, ts⟩ u h' tk' g3 hZ0 F3 N3
      obtain ⟨hps, hlen, hlv⟩ := hZ0
      clear F1 N1
      (try dsimp only at hps hlen hlv F3 N3 ⊢)
      have h1 : ts.length = 1 := by simp [hl] at hlen; lia
      obtain ⟨x, rfl⟩ : ∃ x, ts = [x] := by
        rcases ts with _ | ⟨x, _ | ⟨y, r⟩⟩
        · simp at h1
        · exact ⟨x, rfl⟩
        · simp at h1
      obtain ⟨v0, hv0, tx, rfl⟩ := pd_get' hps (i := 0) (a := x) rfl
      k_steps
      rename Fr _ _ _ _ => F9
      rename News _ _ _ _ => N9
      (try simp only [List.push_toArray] at N9)
      exact hret x _ (by simpa [lvs] using hlv) _ _ F9 (fun p hp => N9 p (List.mem_cons_of_mem _ (List.mem_cons_of_mem _ hp)))

end
section
section
open PySem.Calls LCg
variable {prog : Program} {w : World} {A : Around} {sH : Heap} {sG : Array GenState} {sD : Drawn} {sT : Nat} {sO : OsState} {env : Env} {h₀ : Heap}
theorem enum_text {σ : Type} {elts : List Expr} {k : Nat} {pos : Pos} {body : List Stmt} {l : List Nat} {t : Tok} {m₀ : Str → Option Value} {news : Led} {Q : Flow → Shared → Prop}
    (ps : σ → List (Str × Value)) (led : σ → Led) (J : Nat → σ → Prop) (c₀ : σ) (hh : A.handled = none)
    (F : Fr h₀ env.locals sH m₀) (N : News h₀ env.locals sH news)
    (h1 : ∀ p ∈ led c₀, p ∈ news) (h2 : ∀ p ∈ ps c₀, m₀ p.1 = some p.2) (h3 : J 0 c₀)
    (turn : ∀ i q T t1 t2 c u h tk own I (g : Heap), i < l.length → l[i]? = some q → IsTup h T #[.int (i : Int) t1, .str (S [q]) t2] → J i c → (∀ p ∈ led c, p.1 ∉ [I + 1, I]) → (∃ o, (I + 1, o) ∈ own) → (∃ o, (I, o) ∈ own) → Fr h₀ env.locals h (kstB u (ps c)) → News h₀ env.locals h (led c ++ own) →
      let Qw := FEnd h₀ env.locals sG sD sO [I + 1, I] own ps led (J (i + 1)) Q
      wpAny (model prog w) A (assign (.Tuple elts k pos) env (.ref T)) (fun _ s₃ => wpAny (model prog w) A (execs body env) Qw (fun _ _ => False) s₃) (fun _ _ => False) (Shared.mk h sG sD tk sO))
    (done : ∀ c u h tk (g : Heap), J l.length c → Fr h₀ env.locals h (kstB u (ps c)) → News h₀ env.locals h (led c) → Q .next (Shared.mk h sG sD tk sO)) :
    wpAny (model prog w) A (call (.type "enumerate") [.str (S l) t]) (fun xv s₁ => wpAny (model prog w) A (pyIter xv) (fun it s₂ => TurnsAt prog w A h₀ env (.Tuple elts k pos) body Q (fun _ _ => False) it s₂) (fun _ _ => False) s₁) (fun _ _ => False) (Shared.mk sH sG sD sT sO) := by
  have hLs : env.locals < sH.objs.size := F.ns.lt
  refine call_enumerate_str fun h' hE hI hsz hk => ?_
  refine wpAny_pyIter_enum hE ?_
  have key : ∀ (St : Nat → Heap → Prop), Draws prog w A.in1 sH.objs.size [sH.objs.size] (S l).cps.size (fun i v => ∃ c u, (S l).cps[i]? = some c ∧ v = .str ⟨#[c]⟩ u) St → St 0 h' →
      TurnsAt prog w A h₀ env (.Tuple elts k pos) body Q (fun _ _ => False) (.ref (sH.objs.size + 1)) (Shared.mk h' sG sD sT sO) := by
    intro St D hst
    refine turns_k (KTurns.ofWalksU (WalksT.enumerateD D (sH.objs.size + 1) (Nat.succ_ne_self _) (by simp) (by simp)).toU) ps led J c₀ (fun i h st b hb => ?_) ?_ (fun b hb => ?_) ⟨⟨.none, hE⟩, hst⟩
      (F.keeps hk) (N.grown hk) h1 (fun p hp hI => ?_) h2 h3 ?_ ?_
    · have hb' : b = sH.objs.size + 1 ∨ b = sH.objs.size := by simpa using hb
      obtain ⟨⟨old, he⟩, hs⟩ := st
      rcases hb' with rfl | rfl
      · exact ⟨_, he⟩
      · exact D.live _ _ hs
    · intro hI
      have hb' : env.locals = sH.objs.size + 1 ∨ env.locals = sH.objs.size := by simpa using hI
      rcases hb' with e | e
      · exact Nat.ne_of_lt (Nat.lt_succ_of_lt hLs) e
      · exact Nat.ne_of_lt hLs e
    · have hb' : b = sH.objs.size + 1 ∨ b = sH.objs.size := by simpa using hb
      have hab : h₀.objs.size ≤ env.locals := F.above
      rcases hb' with rfl | rfl
      · exact Heap.get?_none_of_le (Nat.le_trans hab (Nat.le_of_lt (Nat.lt_succ_of_lt hLs)))
      · exact Heap.get?_none_of_le (Nat.le_trans hab (Nat.le_of_lt hLs))
    · have hb' : p.1 = sH.objs.size + 1 ∨ p.1 = sH.objs.size := by simpa using hI
      have hlp := Heap.lt_size (N p (h1 p hp)).1
      rcases hb' with e | e
      · exact Nat.ne_of_lt (Nat.lt_succ_of_lt hlp) e
      · exact Nat.ne_of_lt hlp e
    · intro i v c u h tk own hi hv hJ hof hw _ F₁ N₁
      obtain ⟨T, vals, rfl, ⟨t1, x, ⟨q, t2, hq, rfl⟩, rfl⟩, hT⟩ := hv
      exact turn i q T t1 t2 c u h tk own sH.objs.size h' (by simpa using hi) (by simpa using hq) hT hJ hof (hw _ (by simp)) (hw _ (by simp)) F₁ N₁
    · intro c u h tk hJ F₁ N₁
      exact done c u h tk h' (by simpa using hJ) F₁ N₁
  cases ha : (S l).cps.all (· < 128)
  · have hit' : h'.IsStrIter sH.objs.size "str_iterator" (S l) t 0 := by
      rw [strIterType, ha] at hI
      exact hI
    exact key _ (Draws.strWide (A := A.in1) hh sH.objs.size (S l) t) hit'
  · have hit' : h'.IsStrIter sH.objs.size "str_ascii_iterator" (S l) t 0 := by
      rw [strIterType, ha] at hI
      exact hI
    exact key _ (Draws.strAscii (A := A.in1) hh sH.objs.size (S l) t) hit'
end

end
section
theorem in_two {q : Nat} (h : (Builtin.Str.occurrences (Str.ofString "\"\\") (S [q]) 0 (Str.ofString "\"\\").length 1).isEmpty = true) : ¬ (q = 34 ∨ q = 92) := by
  rw [PyProof.Rows.empty_one] at h
  rintro (rfl | rfl) <;> revert h <;> decide
theorem in_two' {q : Nat} (h : (Builtin.Str.occurrences (Str.ofString "\"\\") (S [q]) 0 (Str.ofString "\"\\").length 1).isEmpty = false) : q = 34 ∨ q = 92 := by
  rw [PyProof.Rows.empty_one] at h
  have : q ∈ (Str.ofString "\"\\").cps.toList := by simpa using h
  have e : (Str.ofString "\"\\").cps.toList = [34, 92] := by decide
  rw [e] at this
  simpa using this
/-- how a sign is written: in quotation marks or behind a backslash -/
noncomputable def chunk (p : Bool × Nat) : List Nat := if p.1 = true then (if p.2 = 34 ∨ p.2 = 92 then [34, 92, p.2, 34] else [34, p.2, 34]) else [92, p.2, 10]
set_option maxRecDepth 100000 in
set_option maxHeartbeats 8000000 in
theorem written_ (w : World) (a : Addr) (vs : List Value) (ns : List Nat) (hns : Paired (fun n v => IsN (n : Nat) v) ns vs) (hl : vs.length = 6) (l : List Nat) (hl2 : l.length ≤ 1000) (t : Tok) (rest : Led) :
    Does w 10 100 (.ref 176) [.str (S l) t, .ref a] ((a, LCg.lst vs) :: rest) (fun K => ∀ (cs : List (Bool × Nat)) (t : Tok), cs.map Prod.snd = l → K (.str (S (cs.flatMap chunk)) t) ((a, LCg.lst vs) :: rest)) := by
  k_with_none
  k_with "my k_in" => first | with_reducible assumption | exact Frag.In.keeps (by with_reducible assumption) (Fr.keep (by with_reducible assumption))
  k_with "my k_ne" => (refine neN ?_; (try dsimp only); first | with_reducible assumption | (refine Ne.symm ?_; with_reducible assumption) | lia)
  k_with "my ROOM" => ((try dsimp only [Around.deeper, Around.mark, Around.in1]); first | exact room3 (by assumption) rfl | exact room2 (by assumption) rfl | lia)
  k_with "my ite" => first | (refine ite_pos (by with_reducible assumption) ?_) | (refine ite_neg (by with_reducible assumption) ?_) | (refine ite_pos (decide_eq_true (by with_reducible assumption)) ?_) | (refine ite_neg (Bool.eq_false_iff.mp (decide_eq_false (by with_reducible assumption))) ?_)
  k_with "my exec While" => (try k_fold); refine Stop.mk ?_
  k_with "my subscriptTail Name Name str int" => (refine sub_str (by assumption) (by assumption) ?_)
  k_with "my call builtin:ord" => (refine ord_S ?_)
  k_with "my binaryOp Add int int" => with_reducible first | (refine' add_lit 1 (by decide) ?_) | (refine' add_lit 2 (by decide) ?_) | refine add_nat ?_
  k_with "my binaryOp Sub int int" => with_reducible first | (refine' sub_lit 1 (by decide) (by first | with_reducible_and_instances lia | decide) ?_) | (refine' sub_lit 256 (by decide) (by first | with_reducible_and_instances lia | decide) ?_) | (refine' sub_lit 300 (by decide) (by first | with_reducible_and_instances lia | decide) ?_) | (refine' sub_nat (by first | with_reducible_and_instances lia | decide) ?_)
  k_with "my binaryOp Mod int int" => with_reducible first | (refine' mod_lit 3 (by decide) (by first | with_reducible_and_instances lia | decide) ?_) | (refine' mod_lit 2 (by decide) (by first | with_reducible_and_instances lia | decide) ?_) | (refine' mod_nat (by first | with_reducible_and_instances lia | decide) ?_)
  k_with "my binaryOp FloorDiv int int" => with_reducible first | (refine' div_lit 3 (by decide) (by first | with_reducible_and_instances lia | decide) (by decide) ?_) | (refine' div_lit 2 (by decide) (by first | with_reducible_and_instances lia | decide) (by decide) ?_) | fail
  k_with "my call builtin:len" => ((k_dflt (refine' len_L (by k_asm) (by k_mem) ?_ ?_)); (next => with_reducible_and_instances lia))
  k_with "my subscriptTail" => ((k_dflt (refine' item_L (by k_asm) (by k_mem) (by with_reducible assumption) ?_ ?_; k_whole)); (next => with_reducible_and_instances lia))
  k_with "my subscriptTail" => ((k_dflt (refine' item_C 0 (by exact rfl) (by k_asm) (by k_mem) (by with_reducible assumption) ?_ ?_; k_whole)); (next => decide))
  k_with "my subscriptTail Name Name ref int" => ((k_dflt (refine' item_L (by k_asm) (by k_mem) (by with_reducible assumption) ?_ ?_; k_whole)); (next => with_reducible_and_instances lia))
  k_with "my binaryOp Add ref ref" => (((k_dflt (refine' sum_L (by k_asm) (by k_asm) (by k_mem) (by k_mem) ?_ ?_)); (next => ((try rw [sizeLine_eq]); (try simp only [List.length_append, List.length_take, List.length_drop, List.length_cons, List.length_nil]); with_reducible_and_instances lia)); intro Dpzz hpzz Fpzz Npzz l1zz; (try k_lt l1zz))); (try revert l1zz); (try revert Npzz); (try revert Fpzz); (try revert hpzz); (try revert Dpzz); intros
  k_with "my subscriptTail Name Slice ref ref" => (((k_dflt (refine' cut_L _ (by k_asm) (by k_asm) (by k_mem) (by kmk_part) (by kmk_part) (by first | exact pick_from _ _ | exact pick_upto _ _) ?_ ?_ (by with_unfolding_all rfl) (by kmk_pure))); (next => ((try rw [sizeLine_eq]); with_reducible_and_instances lia)); intro Dpzz hpzz Fpzz Npzz l1zz; (try k_lt l1zz))); (try revert l1zz); (try revert Npzz); (try revert Fpzz); (try revert hpzz); (try revert Dpzz); intros
  k_with "my binaryOp Add str str" => (with_reducible first | ((refine' add_S ?_ ?_); (next => ((try rw [sizeLine_eq]); (try simp only [List.length_append, List.length_cons, List.length_nil]); with_reducible_and_instances lia)); intro tpzz tkpzz) | ((refine' add_CS [64] (by with_unfolding_all exact rfl) ?_ ?_); (next => ((try rw [sizeLine_eq]); (try simp only [List.length_append, List.length_cons, List.length_nil]); with_reducible_and_instances lia)); intro tpzz tkpzz) | ((refine' add_CS [34] (by with_unfolding_all exact rfl) ?_ ?_); (next => ((try rw [sizeLine_eq]); (try simp only [List.length_append, List.length_cons, List.length_nil]); with_reducible_and_instances lia)); intro tpzz tkpzz) | ((refine' add_CS [92] (by with_unfolding_all exact rfl) ?_ ?_); (next => ((try rw [sizeLine_eq]); (try simp only [List.length_append, List.length_cons, List.length_nil]); with_reducible_and_instances lia)); intro tpzz tkpzz) | ((refine' add_SC [34] (by with_unfolding_all exact rfl) ?_ ?_); (next => ((try rw [sizeLine_eq]); (try simp only [List.length_append, List.length_cons, List.length_nil]); with_reducible_and_instances lia)); intro tpzz tkpzz) | ((refine' add_SC [10] (by with_unfolding_all exact rfl) ?_ ?_); (next => ((try rw [sizeLine_eq]); (try simp only [List.length_append, List.length_cons, List.length_nil]); with_reducible_and_instances lia)); intro tpzz tkpzz)); (try revert tkpzz); (try revert tpzz); (try revert tkpzz); (try revert tpzz); (try revert tkpzz); (try revert tpzz); (try revert tkpzz); (try revert tpzz); (try revert tkpzz); (try revert tpzz); (try revert tkpzz); (try revert tpzz); intros
  k_with "my exec For" => (try k_fold); (k_dflt (refine For_k (F := by k_asm) ?_))
  k_with "my inplaceOp Add" => ((dsimp only; (with_reducible refine' iadd_S ?_ ?_); (next => ((try rw [sizeLine_eq]); (try simp only [List.length_append, List.length_cons, List.length_nil]); with_reducible_and_instances lia)); intro tpzz tkpzz)); (try revert tkpzz); (try revert tpzz); intros
  k_with "my call type:enumerate" => refine Stop.mk ?_
  k_with "my exec For Tuple Call" => (try k_fold); (k_dflt (refine For_k (F := by k_asm) ?_))
  unfold Does
  intro dp un gd env outer A₀ base h₀ L m sH sG sD sT sO R p loose mean mg mb hf hk B F X N T hd hu hret
  k_dflt (refine' code_defF ?k1 ?k2 ?k3 ?k4 ?k5 ?kA ?kF ?kK ?k6 ?k7 ?k8 ?k9 ?kB ?_ ?c2 ?c3 ?c4 ?c5; (case kA => exact rfl); (case kF => exact hf); (case kK => exact hk); (case k1 => exact B); (case k2 => exact F); (case k3 => exact X); (case k4 => exact N); (case k5 => exact T); (case k6 => k_is); (case k7 => k_is); (case k8 => (refine room_of hd ?_; dsimp only; lia)); (case k9 => first | exact BindsTo.of_eq rfl | exact binds_K (by k_in) rfl (by k_is) rfl rfl rfl); (case c5 => decide); (case kB => exact locs rfl); (case c2 => exact rfl); (case c3 => exact rfl); (case c4 => exact rfl); k_whole)
  intro g' L' h1 FG' F' N' B' X' T'
  (try dsimp only)
  (try k_fold)
  k_steps
  refine Stop.go ?_
  rename Fr _ _ _ _ => F1
  rename News _ _ _ _ => N1
  refine enum_text (σ := List (Bool × Nat) × Tok) (fun c => [("text", .str (S (c.1.flatMap chunk)) c.2), ("numbers", .ref a)]) (fun _ => (a, LCg.lst vs) :: rest)
    (fun i c => c.1.map Prod.snd = l.take i ∧ (c.1.flatMap chunk).length ≤ 4 * i) ([], ?tok) rfl F1 N1 (fun _ h => h) ?h2 ?h3 ?turn ?done
  case h2 => repeat' (first | exact List.forall_mem_nil _ | refine List.forall_mem_cons.mpr ⟨by first | rfl | (dsimp only; refine Eq.trans (b := some (Value.int _ _)) rfl ?_; refine int_cong ?_; simp only [List.length_append, List.length_cons, List.length_nil]; lia), ?_⟩)
  case h3 => exact ⟨rfl, by simp⟩
  case turn =>
    clear F1 N1
    rintro i q T0 t1 t2 ⟨cs, tt⟩ u h' tk' own I g3 hi hq hT hJ0 hoff hI1 hI2 F3 N3
    intro Qw
    (try k_fold)
    obtain ⟨hcs, hcl⟩ := hJ0
    (try dsimp only at hcs hcl hoff F3 N3 ⊢)
    obtain ⟨o1, hI1⟩ := hI1
    obtain ⟨o2, hI2⟩ := hI2
    simp only [List.cons_append] at N3
    have hp : i % vs.length < vs.length := Nat.mod_lt _ (by lia)
    obtain ⟨n, hn⟩ : ∃ n, ns[i % vs.length]? = some n := ⟨_, List.getElem?_eq_getElem (by rw [hns.length]; exact hp)⟩
    obtain ⟨v0, hv0, tn, rfl⟩ := pd_get' hns hn
    clear hret FG' B' hd hu
    k_steps
    · rename (_ ≠ _) => hb
      rename (_ = true) => hm
      have hm := in_two hm
      have e : (cs ++ [(true, q)]).flatMap chunk = cs.flatMap chunk ++ ([34] ++ [q] ++ [34]) := by simp [chunk, hm]
      rename Fr _ _ _ _ => F9
      rename News _ _ _ _ => N9
      (try simp only [List.push_toArray] at N9)
      refine' fend_next (cs ++ [(true, q)], _) F9 N9 ?ho ?h1 hoff ?h2 ⟨?h3, ?h4⟩
      case ho => (intro p9 hp9; repeat (first | exact hp9 | exact List.mem_append_left _ hp9 | exact List.mem_append_right _ hp9 | apply List.mem_cons_of_mem))
      case h1 =>
        intro p hp
        rcases List.mem_cons.mp hp with rfl | hp
        · exact List.mem_cons_self
        · exact List.mem_cons_of_mem _ (List.mem_append_left _ hp)
      case h2 =>
        (try dsimp only)
        rw [e]
        repeat' (first | exact List.forall_mem_nil _ | refine List.forall_mem_cons.mpr ⟨by first | rfl | (dsimp only; refine Eq.trans (b := some (Value.int _ _)) rfl ?_; refine int_cong ?_; simp only [List.length_append, List.length_cons, List.length_nil]; lia), ?_⟩)
      case h3 => rw [List.map_append, hcs, List.take_add_one, hq]; rfl
      case h4 => dsimp only; rw [e, List.length_append]; simp only [List.length_append, List.length_cons, List.length_nil]; lia
    · rename (_ ≠ _) => hb
      rename (_ = false) => hm
      have hm := in_two' hm
      have e : (cs ++ [(true, q)]).flatMap chunk = cs.flatMap chunk ++ ([34] ++ ([92] ++ [q]) ++ [34]) := by simp [chunk, hm]
      rename Fr _ _ _ _ => F9
      rename News _ _ _ _ => N9
      (try simp only [List.push_toArray] at N9)
      refine' fend_next (cs ++ [(true, q)], _) F9 N9 ?ho ?h1 hoff ?h2 ⟨?h3, ?h4⟩
      case ho => (intro p9 hp9; repeat (first | exact hp9 | exact List.mem_append_left _ hp9 | exact List.mem_append_right _ hp9 | apply List.mem_cons_of_mem))
      case h1 =>
        intro p hp
        rcases List.mem_cons.mp hp with rfl | hp
        · exact List.mem_cons_self
        · exact List.mem_cons_of_mem _ (List.mem_append_left _ hp)
      case h2 =>
        (try dsimp only)
        rw [e]
        repeat' (first | exact List.forall_mem_nil _ | refine List.forall_mem_cons.mpr ⟨by first | rfl | (dsimp only; refine Eq.trans (b := some (Value.int _ _)) rfl ?_; refine int_cong ?_; simp only [List.length_append, List.length_cons, List.length_nil]; lia), ?_⟩)
      case h3 => rw [List.map_append, hcs, List.take_add_one, hq]; rfl
      case h4 => dsimp only; rw [e, List.length_append]; simp only [List.length_append, List.length_cons, List.length_nil]; lia
    · have e : (cs ++ [(false, q)]).flatMap chunk = cs.flatMap chunk ++ ([92] ++ [q] ++ [10]) := by simp [chunk]
      rename Fr _ _ _ _ => F9
      rename News _ _ _ _ => N9
      (try simp only [List.push_toArray] at N9)
      refine' fend_next (cs ++ [(false, q)], _) F9 N9 ?ho ?h1 hoff ?h2 ⟨?h3, ?h4⟩
      case ho => (intro p9 hp9; repeat (first | exact hp9 | exact List.mem_append_left _ hp9 | exact List.mem_append_right _ hp9 | apply List.mem_cons_of_mem))
      case h1 =>
        intro p hp
        rcases List.mem_cons.mp hp with rfl | hp
        · exact List.mem_cons_self
        · exact List.mem_cons_of_mem _ (List.mem_append_left _ hp)
      case h2 =>
        (try dsimp only)
        rw [e]
        repeat' (first | exact List.forall_mem_nil _ | refine List.forall_mem_cons.mpr ⟨by first | rfl | (dsimp only; refine Eq.trans (b := some (Value.int _ _)) rfl ?_; refine int_cong ?_; simp only [List.length_append, List.length_cons, List.length_nil]; lia), ?_⟩)
      case h3 => rw [List.map_append, hcs, List.take_add_one, hq]; rfl
      case h4 => dsimp only; rw [e, List.length_append]; simp only [List.length_append, List.length_cons, List.length_nil]; lia
  case done =>
    rintro ⟨cs, tt⟩ u h' tk' g3 hZ0 F3 N3
    obtain ⟨hcs, hcl⟩ := hZ0
    clear F1 N1
    (try dsimp only at hcs hcl F3 N3 ⊢)
    k_steps
    rename Fr _ _ _ _ => F9
    rename News _ _ _ _ => N9
    (try simp only [List.push_toArray] at N9)
    exact hret cs _ (by rw [hcs, List.take_of_length_le (Nat.le_refl _)]) _ _ F9 N9

end
section
section
open PySem.Calls LCg
variable {prog : Program} {w : World} {A : Around} {E : Value → Shared → Prop} {s : Shared}
theorem zipD_item {z TI TO i1 i2 l1 l2 : Addr} {n1 n2 k : Nat} {P1 P2 : Nat → Value → Prop} {St1 St2 : Nat → Heap → Prop} {a b : Value} {Q : Value → Shared → Prop} (D : ZipApart z TI TO i1 i2 l1 l2)
    (D1 : Draws prog w A i1 [i1] n1 P1 St1) (D2 : Draws prog w A i2 [i2] n2 P2 St2) (hk1 : k < n1) (hk2 : k < n2)
    (hz : IsZip s.heap z TI TO .none) (hTI : IsPair s.heap TI (.ref i1) (.ref i2)) (hTO : IsPair s.heap TO a b) (h1 : St1 k s.heap) (h2 : St2 k s.heap)
    (hQ : ∀ x y h' tk, P1 k x → P2 k y → IsZip h' z TI TO (rawInt s.heap.objs.size) → IsPair h' TO x y → St1 (k + 1) h' → St2 (k + 1) h' → IsPair h' s.heap.objs.size x y →
      (∀ c o, c ≠ z → c ≠ TO → c ≠ i1 → c ≠ i2 → s.heap.get? c = some o → h'.get? c = some o) → Q (.ref s.heap.objs.size) { s with heap := h', toks := tk }) :
    wpAny (model prog w) A (Builtin.«zip.__next__» ⟨[.ref z], []⟩) (fun fin s' => ∃ v, fin = .done (.ret v) ∧ Q v s') E s := by
  obtain ⟨hp, g, d, tk₀, os⟩ := s
  (try dsimp only at hz hTI hTO h1 h2 hQ)
  show wpAny _ _ (field (.ref z) 2 >>= _) _ _ _
  refine wpAny_bind (wpAny_field hz rfl (x := .bool false) rfl ?_)
  show wpAny _ _ (field (.ref z) 3 >>= _) _ _ _
  refine wpAny_bind (wpAny_field hz rfl (x := .ref TI) rfl ?_)
  refine wpAny_bind (wpAny_seqItems hTI rfl ?_)
  show wpAny _ _ (Builtin.SmallTypes.ownedTupleIsFree (.ref z) >>= _) _ _ _
  refine wpAny_bind ?_
  unfold Builtin.SmallTypes.ownedTupleIsFree
  refine wpAny_bind (wpAny_field hz rfl (x := .none) rfl (wpAny_pure ?_))
  simp only [if_true]
  refine wpAny_bind (wpAny_rule ?_)
  refine wpAny_bind (wpAny_field hz rfl (x := .ref TO) rfl ?_)
  refine wpAny_bind (wpAny_setField_rec hz (by simp) fun h₁ hz₁ hs₁ => ?_)
  replace hz₁ : IsZip h₁ z TI TO .ellipsis := hz₁
  have f1 : ∀ {h h' : Heap} {x : Addr} {i}, St1 i h → Heap.SameBut x h h' → i1 ≠ x → St1 i h' := fun st hs hn => D1.frame _ _ _ st fun b hb o e => by
    rw [List.mem_singleton.mp hb] at e ⊢; exact hs.extBut _ _ hn e
  have f2 : ∀ {h h' : Heap} {x : Addr} {i}, St2 i h → Heap.SameBut x h h' → i2 ≠ x → St2 i h' := fun st hs hn => D2.frame _ _ _ st fun b hb o e => by
    rw [List.mem_singleton.mp hb] at e ⊢; exact hs.extBut _ _ hn e
  replace hs₁ : Heap.SameBut z hp h₁ := hs₁
  refine wpAny_bind ?_
  simp only [List.zipIdx_cons, List.zipIdx_nil, List.forIn_cons, List.forIn_nil]
  refine wpAny_bind (wpAny_bind (wpAny_onRaise ?_))
  show wpAny _ _ (Builtin.SmallTypes.nextOf (.ref i1) >>= _) _ _ _
  refine wpAny_bind (D1.item k _ _ _ hk1 (f1 h1 hs₁ D.i1z) fun x h₂ tk₂ hx h1₂ hs₂ => wpAny_pure ?_)
  replace hs₂ : Heap.SameBut i1 h₁ h₂ := hs₂
  have hTO₂ : IsPair h₂ TO a b := hs₂.extBut _ _ D.TOi1 (hs₁.extBut _ _ D.TOz hTO)
  refine wpAny_bind (wpAny_seqItems hTO₂ rfl ?_)
  refine wpAny_bind (wpAny_updateSeq_pair hTO₂ fun h₃ hTO₃ hs₃ => ?_)
  replace hTO₃ : IsPair h₃ TO x b := hTO₃
  replace hs₃ : Heap.SameBut TO h₂ h₃ := hs₃
  refine wpAny_bind (wpAny_letGo (wpAny_pure ?_))
  refine wpAny_bind (wpAny_bind (wpAny_onRaise ?_))
  show wpAny _ _ (Builtin.SmallTypes.nextOf (.ref i2) >>= _) _ _ _
  refine wpAny_bind (D2.item k _ _ _ hk2 (f2 (f2 (f2 h2 hs₁ D.i2z) hs₂ D.i12.symm) hs₃ D.TOi2.symm) fun y h₄ tk₄ hy h2₄ hs₄ => wpAny_pure ?_)
  replace hs₄ : Heap.SameBut i2 h₃ h₄ := hs₄
  have hTO₄ : IsPair h₄ TO x b := hs₄.extBut _ _ D.TOi2 hTO₃
  refine wpAny_bind (wpAny_seqItems hTO₄ rfl ?_)
  refine wpAny_bind (wpAny_updateSeq_pair hTO₄ fun h₅ hTO₅ hs₅ => ?_)
  replace hTO₅ : IsPair h₅ TO x y := hTO₅
  replace hs₅ : Heap.SameBut TO h₄ h₅ := hs₅
  refine wpAny_bind (wpAny_letGo (wpAny_pure (wpAny_pure ?_)))
  refine wpAny_bind (wpAny_seqItems hTO₅ rfl ?_)
  refine wpAny_bind (wpAny_newTuple ?_)
  have hsz : h₅.objs.size = hp.objs.size := by rw [hs₅.1, hs₄.1, hs₃.1, hs₂.1, hs₁.1]
  have hz₅ : IsZip h₅ z TI TO .ellipsis := hs₅.extBut _ _ D.TOz.symm (hs₄.extBut _ _ D.i2z.symm (hs₃.extBut _ _ D.TOz.symm (hs₂.extBut _ _ D.i1z.symm hz₁)))
  have hk₅ : ∀ c o, c ≠ z → c ≠ TO → c ≠ i1 → c ≠ i2 → hp.get? c = some o → h₅.get? c = some o := fun c o c1 c2 c3 c4 e =>
    hs₅.extBut _ _ c2 (hs₄.extBut _ _ c4 (hs₃.extBut _ _ c2 (hs₂.extBut _ _ c3 (hs₁.extBut _ _ c1 e))))
  have h1₅ : St1 (k + 1) h₅ := f1 (f1 (f1 h1₂ hs₃ D.TOi1.symm) hs₄ D.i12) hs₅ D.TOi1.symm
  have h2₅ : St2 (k + 1) h₅ := f2 h2₄ hs₅ D.TOi2.symm
  have hzlt : z < h₅.objs.size := Heap.lt_size hz₅
  show wpAny _ _ (Builtin.SmallTypes.ownedTupleHandOut (.ref z) (.ref h₅.objs.size) >>= _) _ _ _
  refine wpAny_bind ?_
  unfold Builtin.SmallTypes.ownedTupleHandOut
  have hz₆ : IsZip (h₅.push { cls := .type "tuple", data := .seq #[x, y] }) z TI TO .ellipsis := Heap.get?_push_of_some _ hz₅
  refine wpAny_bind (wpAny_setField_rec hz₆ (by simp) fun h₇ hz₇ hs₇ => ?_)
  replace hz₇ : IsZip h₇ z TI TO (rawInt h₅.objs.size) := hz₇
  refine wpAny_setField_rec hz₇ (by simp) fun h₈ hz₈ hs₈ => ?_
  replace hz₈ : IsZip h₈ z TI TO (rawInt h₅.objs.size) := hz₈
  have up : ∀ c o, c ≠ z → h₅.get? c = some o → h₈.get? c = some o := fun c o c1 e => hs₈.extBut _ _ c1 (hs₇.extBut _ _ c1 (Heap.get?_push_of_some _ e))
  have hT₈ : IsPair h₈ h₅.objs.size x y := hs₈.extBut _ _ (Nat.ne_of_gt hzlt) (hs₇.extBut _ _ (Nat.ne_of_gt hzlt) (Heap.get?_push_size _ rfl))
  rw [hsz] at hz₈ hT₈
  refine wpAny_pure ⟨_, rfl, ?_⟩
  show Q (.ref h₅.objs.size) _
  rw [hsz]
  exact hQ x y h₈ tk₄ hx hy hz₈ (up _ _ D.TOz hTO₅) (D1.frame _ _ _ h1₅ fun b hb o e => up _ o (by rw [List.mem_singleton.mp hb]; exact D.i1z) e) (D2.frame _ _ _ h2₅ fun b hb o e => up _ o (by rw [List.mem_singleton.mp hb]; exact D.i2z) e) hT₈ fun c o c1 c2 c3 c4 e => up c o c1 (hk₅ c o c1 c2 c3 c4 e)

theorem zipD_end {z TI TO i1 i2 l1 l2 : Addr} {n1 n2 k : Nat} {P1 P2 : Nat → Value → Prop} {St1 St2 : Nat → Heap → Prop} {a b : Value} {Q : Fin → Shared → Prop} (D : ZipApart z TI TO i1 i2 l1 l2)
    (D1 : Draws prog w A i1 [i1] n1 P1 St1) (D2 : Draws prog w A i2 [i2] n2 P2 St2) (hk : k = n1 ∨ (k < n1 ∧ k = n2))
    (hz : IsZip s.heap z TI TO .none) (hTI : IsPair s.heap TI (.ref i1) (.ref i2)) (hTO : IsPair s.heap TO a b) (h1 : St1 k s.heap) (h2 : St2 k s.heap)
    (hE : ∀ h' e tk, (∀ c o, c ≠ z → c ≠ TO → c ≠ i1 → c ≠ i2 → s.heap.get? c = some o → h'.get? c = some o) → (∃ o, h'.get? e = some o ∧ o.cls = .type "StopIteration") → E (.ref e) { s with heap := h', toks := tk }) :
    wpAny (model prog w) A (Builtin.«zip.__next__» ⟨[.ref z], []⟩) Q E s := by
  obtain ⟨hp, g, d, tk₀, os⟩ := s
  (try dsimp only at hz hTI hTO h1 h2 hE)
  show wpAny _ _ (field (.ref z) 2 >>= _) _ _ _
  refine wpAny_bind (wpAny_field hz rfl (x := .bool false) rfl ?_)
  show wpAny _ _ (field (.ref z) 3 >>= _) _ _ _
  refine wpAny_bind (wpAny_field hz rfl (x := .ref TI) rfl ?_)
  refine wpAny_bind (wpAny_seqItems hTI rfl ?_)
  show wpAny _ _ (Builtin.SmallTypes.ownedTupleIsFree (.ref z) >>= _) _ _ _
  refine wpAny_bind ?_
  unfold Builtin.SmallTypes.ownedTupleIsFree
  refine wpAny_bind (wpAny_field hz rfl (x := .none) rfl (wpAny_pure ?_))
  simp only [if_true]
  refine wpAny_bind (wpAny_rule ?_)
  refine wpAny_bind (wpAny_field hz rfl (x := .ref TO) rfl ?_)
  refine wpAny_bind (wpAny_setField_rec hz (by simp) fun h₁ hz₁ hs₁ => ?_)
  replace hz₁ : IsZip h₁ z TI TO .ellipsis := hz₁
  replace hs₁ : Heap.SameBut z hp h₁ := hs₁
  have f1 : ∀ {h h' : Heap} {x : Addr} {i}, St1 i h → Heap.SameBut x h h' → i1 ≠ x → St1 i h' := fun st hs hn => D1.frame _ _ _ st fun b hb o e => by
    rw [List.mem_singleton.mp hb] at e ⊢; exact hs.extBut _ _ hn e
  have f2 : ∀ {h h' : Heap} {x : Addr} {i}, St2 i h → Heap.SameBut x h h' → i2 ≠ x → St2 i h' := fun st hs hn => D2.frame _ _ _ st fun b hb o e => by
    rw [List.mem_singleton.mp hb] at e ⊢; exact hs.extBut _ _ hn e
  refine wpAny_bind ?_
  simp only [List.zipIdx_cons, List.zipIdx_nil, List.forIn_cons, List.forIn_nil]
  refine wpAny_bind (wpAny_bind (wpAny_onRaise ?_))
  show wpAny _ _ (Builtin.SmallTypes.nextOf (.ref i1) >>= _) _ _ _
  rcases hk with hk | ⟨hk1, hk⟩
  · rw [hk] at h1
    refine wpAny_bind (D1.done _ _ _ (f1 h1 hs₁ D.i1z) fun h₂ e hs₂ he => ?_)
    obtain ⟨oe, hoe, hce⟩ := he
    replace hs₂ : Heap.ExtBut i1 h₁ h₂ := hs₂
    have hz₂ : IsZip h₂ z TI TO .ellipsis := hs₂ _ _ D.i1z.symm hz₁
    have hez : e ≠ z := fun x => by subst x; rw [hz₂] at hoe; cases hoe; simp at hce
    refine wpAny_setField_rec hz₂ (by simp) fun h₃ _ hs₃ => hE h₃ e _ (fun c o c1 _ c3 _ x => hs₃.extBut _ _ c1 (hs₂ _ _ c3 (hs₁.extBut _ _ c1 x))) ⟨oe, hs₃.extBut _ _ hez hoe, hce⟩
  · rw [hk] at h2
    refine wpAny_bind (D1.item k _ _ _ hk1 (f1 h1 hs₁ D.i1z) fun x h₂ tk₂ hx h1₂ hs₂ => wpAny_pure ?_)
    replace hs₂ : Heap.SameBut i1 h₁ h₂ := hs₂
    have hTO₂ : IsPair h₂ TO a b := hs₂.extBut _ _ D.TOi1 (hs₁.extBut _ _ D.TOz hTO)
    refine wpAny_bind (wpAny_seqItems hTO₂ rfl ?_)
    refine wpAny_bind (wpAny_updateSeq_pair hTO₂ fun h₃ hTO₃ hs₃ => ?_)
    replace hs₃ : Heap.SameBut TO h₂ h₃ := hs₃
    refine wpAny_bind (wpAny_letGo (wpAny_pure ?_))
    refine wpAny_bind (wpAny_bind (wpAny_onRaise ?_))
    show wpAny _ _ (Builtin.SmallTypes.nextOf (.ref i2) >>= _) _ _ _
    refine wpAny_bind (D2.done _ _ _ (f2 (f2 (f2 h2 hs₁ D.i2z) hs₂ D.i12.symm) hs₃ D.TOi2.symm) fun h₄ e hs₄ he => ?_)
    obtain ⟨oe, hoe, hce⟩ := he
    replace hs₄ : Heap.ExtBut i2 h₃ h₄ := hs₄
    have hz₄ : IsZip h₄ z TI TO .ellipsis := hs₄ _ _ D.i2z.symm (hs₃.extBut _ _ D.TOz.symm (hs₂.extBut _ _ D.i1z.symm hz₁))
    have hez : e ≠ z := fun x => by subst x; rw [hz₄] at hoe; cases hoe; simp at hce
    refine wpAny_setField_rec hz₄ (by simp) fun h₅ _ hs₅ => hE h₅ e _ (fun c o c1 c2 c3 c4 x => hs₅.extBut _ _ c1 (hs₄ _ _ c4 (hs₃.extBut _ _ c2 (hs₂.extBut _ _ c3 (hs₁.extBut _ _ c1 x))))) ⟨oe, hs₅.extBut _ _ hez hoe, hce⟩

theorem walks_zipD {z TI TO i1 i2 l1 l2 : Addr} {n1 n2 : Nat} {P1 P2 : Nat → Value → Prop} {St1 St2 : Nat → Heap → Prop} (D : ZipApart z TI TO i1 i2 l1 l2)
    (D1 : Draws prog w A.in1 i1 [i1] n1 P1 St1) (D2 : Draws prog w A.in1 i2 [i2] n2 P2 St2) :
    WalksT prog w A z [z, TI, TO, i1, i2] [z, TO, i1, i2] (min n1 n2) (fun i vals => ∃ x y, P1 i x ∧ P2 i y ∧ vals = #[x, y])
      (fun i h => IsZip h z TI TO .none ∧ IsPair h TI (.ref i1) (.ref i2) ∧ (∃ a b, IsPair h TO a b) ∧ St1 i h ∧ St2 i h)
      (fun i T h => IsZip h z TI TO (rawInt T) ∧ IsPair h TI (.ref i1) (.ref i2) ∧ (∃ a b, IsPair h TO a b) ∧ St1 (i + 1) h ∧ St2 (i + 1) h ∧ T ≠ z ∧ T ≠ TO ∧ T ≠ i1 ∧ T ≠ i2) where
  sub := fun b hb => by
    simp only [List.mem_cons, List.not_mem_nil, or_false] at hb ⊢
    rcases hb with h | h | h | h <;> simp [h]
  frame := fun i h h' hst hk => by
    obtain ⟨hz, hTI, ⟨a, b, hTO⟩, h1, h2⟩ := hst
    exact ⟨hk _ (by simp) _ hz, hk _ (by simp) _ hTI, ⟨a, b, hk _ (by simp) _ hTO⟩, D1.frame _ _ _ h1 fun c hc o e => hk c (by rw [List.mem_singleton.mp hc]; simp) o e, D2.frame _ _ _ h2 fun c hc o e => hk c (by rw [List.mem_singleton.mp hc]; simp) o e⟩
  item := fun i s Q E hi hst hQ => by
    obtain ⟨hz, hTI, ⟨a, b, hTO⟩, h1, h2⟩ := hst
    have hT : s.TypeIs (.ref z) "zip" := ⟨_, hz, rfl⟩
    have lt : ∀ {c o}, s.heap.get? c = some o → s.heap.objs.size ≠ c := fun e => Nat.ne_of_gt (Heap.lt_size e)
    unfold pyNext
    refine wpAny_bind (wpAny_attempt (wpAny_callSpecial?_slot (name := Str.ofString "__next__") hT F.slot_zip_next
      (wpAny_call_entry F.slot_zip_next hT F.entry_zip_next
        (zipD_item D D1 D2 (Nat.lt_of_lt_of_le hi (Nat.min_le_left ..)) (Nat.lt_of_lt_of_le hi (Nat.min_le_right ..)) hz hTI hTO h1 h2 fun x y h' tk a1 a2 a3 a4 a5 a6 a7 hk => wpAny_pure ?_) (F.args_zip_next_1 _))))
    exact hQ s.heap.objs.size #[x, y] h' tk ⟨x, y, a1, a2, rfl⟩ (Nat.le_refl _) ⟨_, a7, rfl, _, rfl⟩
      ⟨a3, hk _ _ D.TIz D.TITO D.TIi1 D.TIi2 hTI, ⟨_, _, a4⟩, a5, a6, lt hz, lt hTO, (by obtain ⟨_, e⟩ := D1.live _ _ h1; exact lt e), (by obtain ⟨_, e⟩ := D2.live _ _ h2; exact lt e)⟩
      fun c o hc e => hk c o (fun x => hc (by simp [x])) (fun x => hc (by simp [x])) (fun x => hc (by simp [x])) (fun x => hc (by simp [x])) e
  go := fun elts k pos i T s Q E hm hQ => by
    obtain ⟨hz, hTI, ⟨a, b, hTO⟩, h1, h2, _⟩ := hm
    refine wpAny_letOwnedTupleGo_zip hz fun h' hz' hs' => hQ h' ⟨hz', hs'.extBut _ _ D.TIz hTI, ⟨a, b, hs'.extBut _ _ D.TOz hTO⟩, D1.frame _ _ _ h1 fun c hc o e => hs'.extBut _ _ (by rw [List.mem_singleton.mp hc]; exact D.i1z) e,
      D2.frame _ _ _ h2 fun c hc o e => hs'.extBut _ _ (by rw [List.mem_singleton.mp hc]; exact D.i2z) e⟩ fun c o hc e => hs'.extBut _ _ (fun x => hc (by simp [x])) e
  apart := fun i T h hm hT => by
    obtain ⟨_, _, _, _, _, t1, t2, t3, t4⟩ := hm
    simp at hT
    rcases hT with rfl | rfl | rfl | rfl
    · exact t1 rfl
    · exact t2 rfl
    · exact t3 rfl
    · exact t4 rfl
  done := fun s Q E hst hQ => by
    obtain ⟨hz, hTI, ⟨a, b, hTO⟩, h1, h2⟩ := hst
    have hT : s.TypeIs (.ref z) "zip" := ⟨_, hz, rfl⟩
    have hend : min n1 n2 = n1 ∨ (min n1 n2 < n1 ∧ min n1 n2 = n2) := by lia
    unfold pyNext
    refine wpAny_bind (wpAny_attempt (wpAny_callSpecial?_slot (name := Str.ofString "__next__") hT F.slot_zip_next
      (wpAny_call_entry F.slot_zip_next hT F.entry_zip_next (zipD_end D D1 D2 hend hz hTI hTO h1 h2 fun h' e tk hk he => ?_) (F.args_zip_next_1 _))))
    obtain ⟨o, ho, hc⟩ := he
    refine wpAny_bind (wpAny_isInstance (T := "StopIteration") (b := true) ⟨o, ho, hc⟩ isSubtype_stop ?_)
    exact wpAny_pure (hQ _ _ fun c o hc e => hk c o (fun x => hc (by simp [x])) (fun x => hc (by simp [x])) (fun x => hc (by simp [x])) (fun x => hc (by simp [x])) e)
  self := fun i s Q E hst hQ => wpAny_pyIter_zip hst.1 hQ

noncomputable abbrev strIt (x : Str) (t : Tok) : Obj := { cls := .type (strIterType x), data := .fields #[.str x t, .int 0 0] }
theorem newClass_zip (l : List Value) : Builtin.SmallTypes.newClass "zip" ⟨.type "zip" :: l, []⟩ = pure (.type "zip", l) := by
  unfold Builtin.SmallTypes.newClass
  simp only [isType, sub_zip, pure_bind, Bool.not_true, Bool.false_eq_true, if_false]
theorem meets_zip_newS (x y : Str) (t u : Tok) :
    Meets (Builtin.«zip.__new__» ⟨[.type "zip", .str x t, .str y u], []⟩) (fun _ R s =>
      R (.ok (.ret (.ref ((((s.heap.push (strIt x t)).push (strIt y u)).push { cls := .type "tuple", data := .seq #[.ref s.heap.objs.size, .ref (s.heap.push (strIt x t)).objs.size] }).push { cls := .type "tuple", data := .seq #[.none, .none] }).objs.size)))
        { s with heap := ((((s.heap.push (strIt x t)).push (strIt y u)).push { cls := .type "tuple", data := .seq #[.ref s.heap.objs.size, .ref (s.heap.push (strIt x t)).objs.size] }).push { cls := .type "tuple", data := .seq #[.none, .none] }).push { cls := .type "zip", data := .fields #[.none, .bool false, .bool false, .ref ((s.heap.push (strIt x t)).push (strIt y u)).objs.size, .ref (((s.heap.push (strIt x t)).push (strIt y u)).push { cls := .type "tuple", data := .seq #[.ref s.heap.objs.size, .ref (s.heap.push (strIt x t)).objs.size] }).objs.size] } }) :=
  .of_wp fun prog w A R s h => by
    obtain ⟨hp, g, d, tk, os⟩ := s
    unfold Builtin.«zip.__new__»
    refine wpAny_bind (wpAny_of_eq (newClass_zip _) ?_)
    (try dsimp only)
    refine wpAny_bind ?_
    unfold Builtin.SmallTypes.iterAll
    simp only [List.forIn_cons, List.forIn_nil]
    refine wpAny_bind (wpAny_bind (wpAny_bind (wpAny_holding (wpAny_pyIter_strU (wpAny_pure ?_)))))
    refine wpAny_bind (wpAny_bind (wpAny_holding (wpAny_pyIter_strU (wpAny_pure (wpAny_pure (wpAny_pure ?_))))))
    refine wpAny_bind (wpAny_newTuple (items := [.ref hp.objs.size, .ref (hp.push (strIt x t)).objs.size]) ?_)
    refine wpAny_bind (wpAny_newTuple (items := [.none, .none]) ?_)
    refine wpAny_bind ?_
    show wpAny _ _ (newObj (.type "zip") (.fields #[.none, .bool false, .bool false, _, _])) _ _ _
    refine wpAny_newObj_type (wpAny_pure ⟨_, rfl, h⟩) ?_
    size_fits
theorem call_zip_S {x y : Str} {t u : Tok} {Q : Value → Shared → Prop}
    (h : ∀ h', IsZip h' (s.heap.objs.size + 4) (s.heap.objs.size + 2) (s.heap.objs.size + 3) .none → IsPair h' (s.heap.objs.size + 2) (.ref s.heap.objs.size) (.ref (s.heap.objs.size + 1)) →
      IsPair h' (s.heap.objs.size + 3) .none .none → h'.IsStrIter s.heap.objs.size (strIterType x) x t 0 → h'.IsStrIter (s.heap.objs.size + 1) (strIterType y) y u 0 → h'.objs.size = s.heap.objs.size + 5 →
      (∀ c o, s.heap.get? c = some o → h'.get? c = some o) → Q (.ref (s.heap.objs.size + 4)) { s with heap := h' }) :
    wpAny (model prog w) A (call (.type "zip") [.str x t, .str y u]) Q E s := by
  refine callType_new F.called_zip (by decide) (F.typeCall_zip_2 _ _) (F.newCall_zip_2 _ _) (fun obj => F.args_object_init_3 obj _ _) F.entry_zip_new
    (meets_zip_newS x y t u) ?_
  have z1 : (s.heap.push (strIt x t)).objs.size = s.heap.objs.size + 1 := Heap.size_push ..
  have z2 : ((s.heap.push (strIt x t)).push (strIt y u)).objs.size = s.heap.objs.size + 2 := by rw [Heap.size_push, z1]
  generalize hH1 : s.heap.push (strIt x t) = H1 at z1 z2 ⊢
  generalize hH2 : H1.push (strIt y u) = H2 at z2 ⊢
  rw [z1, z2]
  have z3 : (H2.push { cls := .type "tuple", data := .seq #[.ref s.heap.objs.size, .ref (s.heap.objs.size + 1)] }).objs.size = s.heap.objs.size + 3 := by rw [Heap.size_push, z2]
  generalize hH3 : H2.push { cls := .type "tuple", data := .seq #[.ref s.heap.objs.size, .ref (s.heap.objs.size + 1)] } = H3 at z3 ⊢
  rw [z3]
  have z4 : (H3.push { cls := .type "tuple", data := .seq #[.none, .none] }).objs.size = s.heap.objs.size + 4 := by rw [Heap.size_push, z3]
  generalize hH4 : H3.push { cls := .type "tuple", data := .seq #[.none, .none] } = H4 at z4 ⊢
  rw [z4]
  generalize hH5 : H4.push { cls := .type "zip", data := .fields #[.none, .bool false, .bool false, .ref (s.heap.objs.size + 2), .ref (s.heap.objs.size + 3)] } = H5
  have u5 : ∀ c o, H4.get? c = some o → H5.get? c = some o := fun c o e => hH5 ▸ Heap.get?_push_of_some _ e
  have u4 : ∀ c o, H3.get? c = some o → H5.get? c = some o := fun c o e => u5 _ _ (hH4 ▸ Heap.get?_push_of_some _ e)
  have u3 : ∀ c o, H2.get? c = some o → H5.get? c = some o := fun c o e => u4 _ _ (hH3 ▸ Heap.get?_push_of_some _ e)
  have u2 : ∀ c o, H1.get? c = some o → H5.get? c = some o := fun c o e => u3 _ _ (hH2 ▸ Heap.get?_push_of_some _ e)
  have u1 : ∀ c o, s.heap.get? c = some o → H5.get? c = some o := fun c o e => u2 _ _ (hH1 ▸ Heap.get?_push_of_some _ e)
  have g5 : H5.get? (s.heap.objs.size + 4) = some _ := z4 ▸ hH5 ▸ Heap.get?_push_size _ rfl
  have g4 : H5.get? (s.heap.objs.size + 3) = some _ := u5 _ _ (z3 ▸ hH4 ▸ Heap.get?_push_size _ rfl)
  have g3 : H5.get? (s.heap.objs.size + 2) = some _ := u4 _ _ (z2 ▸ hH3 ▸ Heap.get?_push_size _ rfl)
  have g2 : H5.get? (s.heap.objs.size + 1) = some _ := u3 _ _ (z1 ▸ hH2 ▸ Heap.get?_push_size _ rfl)
  have g1 : H5.get? s.heap.objs.size = some _ := u2 _ _ (hH1 ▸ Heap.get?_push_size _ rfl)
  exact ⟨⟨_, g5, rfl⟩, h _ g5 g3 g4 ⟨_, g1, rfl, rfl⟩ ⟨_, g2, rfl, rfl⟩ (by rw [← hH5, Heap.size_push, z4]) u1⟩
end

end
section
section
open PySem.Calls LCg
variable {prog : Program} {w : World} {A : Around} {sH : Heap} {sG : Array GenState} {sD : Drawn} {sT : Nat} {sO : OsState} {env : Env} {h₀ : Heap} {L : Addr} {m : Str → Option Value}
theorem comp_walksT {elt : Expr} {x y : Str} {px py tp : Pos} {kk : Nat} {ifs : List Expr} {scope : Scope} {cl : List (Str × Addr)} {Fin : Array GenState → Drawn → Nat → OsState → List Value → Led → Prop} {I : Addr} {fp wr : List Addr} {n : Nat} {Pt : Nat → Array Value → Prop} {St : Nat → Heap → Prop} {Md : Nat → Addr → Heap → Prop} {news : Led}
    (J : Nat → Nat → List Value → Led → Prop) (W : WalksT prog w A I fp wr n Pt St Md) (hv : ∀ i vals, Pt i vals → ∃ a b, vals = #[a, b])
    (hh : A.handled = none) (hkind : scope.kind = .function) (hx : scope.names.lookup x = some .local) (hy : scope.names.lookup y = some .local)
    (hsz : n ≤ sizeLine) (hlive : ∀ i h, St i h → ∀ b ∈ wr, ∃ o, h.get? b = some o) (hst : St 0 sH) (hfp : ∀ b ∈ fp, b < sH.objs.size) (hLf : L ∉ fp) (hwr : ∀ b ∈ wr, h₀.get? b = none)
    (F : Fr h₀ L sH m) (N : News h₀ L sH news) (hoff : ∀ p ∈ news, p.1 ∉ wr) (hJ : J 0 sT [] news) (hmono : ∀ i tk tk' ys nx, tk ≤ tk' → J i tk ys nx → J i tk' ys nx)
    (turn : CTurn prog w A h₀ L m env elt ifs scope cl fp wr n (fun i bs => ∃ a b, Pt i #[a, b] ∧ bs = [(y, b), (x, a)]) J sG sD sO) (done : ∀ tk ys nx, J n tk ys nx → Fin sG sD tk sO ys nx) :
    CompAt prog w A h₀ L m env elt (.Tuple [.Name x px, .Name y py] kk tp) ifs scope cl Fin (.ref I) (Shared.mk sH sG sD sT sO) :=
  ⟨I, fp, wr, n, _, _, _, _, news, J, rfl, KTurns.ofWalksU W.toU, takes_pair hh hkind hx hy hv, W.self, hsz, hlive, hst, hfp, hLf, hwr, F, N, hoff, hJ, hmono, turn, done⟩

theorem comp_zip {elt : Expr} {x y : Str} {px py tp : Pos} {kk : Nat} {ifs : List Expr} {scope : Scope} {cl : List (Str × Addr)} {Fin : Array GenState → Drawn → Nat → OsState → List Value → Led → Prop} {a b : List Nat} {t u : Tok} {news : Led} {E : Value → Shared → Prop} (J : Nat → List Value → Led → Prop)
    (hh : A.handled = none) (hkind : scope.kind = .function) (hx : scope.names.lookup x = some .local) (hy : scope.names.lookup y = some .local) (F : Fr h₀ L sH m) (N : News h₀ L sH news) (hsz : a.length ≤ sizeLine)
    (hJ : J 0 [] news) (turn : ∀ (g : Heap) I, CTurn prog w A h₀ L m env elt ifs scope cl [I + 4, I + 2, I + 3, I, I + 1] [I + 4, I + 3, I, I + 1] (min a.length b.length) (fun i bs => ∃ v v', (∃ c d t u, a[i]? = some c ∧ b[i]? = some d ∧ #[v, v'] = #[.str (S [c]) t, .str (S [d]) u]) ∧ bs = [(y, v'), (x, v)]) (fun i _ => J i) sG sD sO)
    (done : ∀ (g : Heap) tk ys nx, J (min a.length b.length) ys nx → Fin sG sD tk sO ys nx) :
    wpAny (model prog w) A (call (.type "zip") [.str (S a) t, .str (S b) u]) (fun xv s₁ => wpAny (model prog w) A (pyIter xv) (fun it s₂ => CompAt prog w A h₀ L m env elt (.Tuple [.Name x px, .Name y py] kk tp) ifs scope cl Fin it s₂) E s₁) E (Shared.mk sH sG sD sT sO) := by
  have hLs : L < sH.objs.size := F.ns.lt
  have hab : h₀.objs.size ≤ L := F.above
  refine call_zip_S fun h' hz hTI hTO i1 i2 hsize hk => ?_
  refine wpAny_pyIter_zip hz ?_
  have D : ZipApart (sH.objs.size + 4) (sH.objs.size + 2) (sH.objs.size + 3) sH.objs.size (sH.objs.size + 1) L L := ktu_apart _ _ _ hLs hLs
  have key : ∀ (St1 St2 : Nat → Heap → Prop), Draws prog w A.in1 sH.objs.size [sH.objs.size] (S a).cps.size (fun i v => ∃ c u, (S a).cps[i]? = some c ∧ v = .str ⟨#[c]⟩ u) St1 →
      Draws prog w A.in1 (sH.objs.size + 1) [sH.objs.size + 1] (S b).cps.size (fun i v => ∃ c u, (S b).cps[i]? = some c ∧ v = .str ⟨#[c]⟩ u) St2 → St1 0 h' → St2 0 h' →
      CompAt prog w A h₀ L m env elt (.Tuple [.Name x px, .Name y py] kk tp) ifs scope cl Fin (.ref (sH.objs.size + 4)) (Shared.mk h' sG sD sT sO) := by
    intro St1 St2 D1 D2 hs1 hs2
    have fresh : ∀ k, h₀.get? (sH.objs.size + k) = none := fun k => Heap.get?_none_of_le (Nat.le_trans hab (Nat.le_trans (Nat.le_of_lt hLs) (Nat.le_add_right _ _)))
    have ne : ∀ (c k : Nat), c < sH.objs.size → c ≠ sH.objs.size + k := fun c k h => Nat.ne_of_lt (Nat.lt_of_lt_of_le h (Nat.le_add_right _ _))
    have W := (walks_zipD D D1 D2)
    have e1 : min (S a).cps.size (S b).cps.size = min a.length b.length := by simp
    have T := turn h' sH.objs.size
    refine comp_walksT (sH := h') (sG := sG) (sD := sD) (sT := sT) (sO := sO) (fun i _ => J i) W (fun i vals h => ?_) hh hkind hx hy ?_ (fun i h st c hc => ?_) ⟨hz, hTI, ⟨_, _, hTO⟩, hs1, hs2⟩ (fun c hc => ?_) (fun hc => ?_) (fun c hc => ?_) (F.keeps hk) (N.grown hk) (fun p hp hc => ?_) hJ (fun _ _ _ _ _ _ h => h) ?_ ?_
    · obtain ⟨p, q, _, _, rfl⟩ := h; exact ⟨p, q, rfl⟩
    · rw [e1]; lia
    · obtain ⟨h1, h2, ⟨p, q, h3⟩, h4, h5⟩ := st
      simp only [List.mem_cons, List.not_mem_nil, or_false] at hc
      rcases hc with h | h | h | h
      · exact ⟨_, h ▸ h1⟩
      · exact ⟨_, h ▸ h3⟩
      · exact h ▸ D1.live _ _ h4
      · exact h ▸ D2.live _ _ h5
    · show c < h'.objs.size
      rw [hsize]
      simp only [List.mem_cons, List.not_mem_nil, or_false] at hc
      rcases hc with h | h | h | h | h
      · rw [h]; exact Nat.add_lt_add_left (by decide) _
      · rw [h]; exact Nat.add_lt_add_left (by decide) _
      · rw [h]; exact Nat.add_lt_add_left (by decide) _
      · rw [h]; exact Nat.lt_add_of_pos_right (by decide)
      · rw [h]; exact Nat.add_lt_add_left (by decide) _
    · simp only [List.mem_cons, List.not_mem_nil, or_false] at hc
      rcases hc with h | h | h | h | h
      · exact ne _ _ hLs h
      · exact ne _ _ hLs h
      · exact ne _ _ hLs h
      · exact ne _ 0 hLs h
      · exact ne _ _ hLs h
    · simp only [List.mem_cons, List.not_mem_nil, or_false] at hc
      rcases hc with h | h | h | h
      · rw [h]; exact fresh _
      · rw [h]; exact fresh _
      · rw [h]; exact fresh 0
      · rw [h]; exact fresh _
    · have hlp := Heap.lt_size (N p hp).1
      simp only [List.mem_cons, List.not_mem_nil, or_false] at hc
      rcases hc with h | h | h | h
      · exact ne _ _ hlp h
      · exact ne _ _ hlp h
      · exact ne _ 0 hlp h
      · exact ne _ _ hlp h
    · intro i bs ys nx C oC D' m₂ h tk own E' hi hb hJ' hyl hoC ho hof9 hnx hCD F' N'
      refine T i bs ys nx C oC D' m₂ h tk own E' (by rw [← e1]; exact hi) ?_ hJ' hyl hoC ho hof9 hnx hCD F' N'
      obtain ⟨v, v', ⟨p, q, ⟨c, t, hc, rfl⟩, ⟨d, u, hd, rfl⟩, e⟩, rfl⟩ := hb
      exact ⟨v, v', ⟨c, d, t, u, by simpa using hc, by simpa using hd, e⟩, rfl⟩
    · intro tk ys nx h
      exact done sH tk ys nx (by rw [← e1]; exact h)
  have both : ∀ (i : Addr) (x : Str) (t : Tok), h'.IsStrIter i (strIterType x) x t 0 → ∃ St, Draws prog w A.in1 i [i] x.cps.size (fun i v => ∃ c u, x.cps[i]? = some c ∧ v = .str ⟨#[c]⟩ u) St ∧ St 0 h' := by
    intro i x t hi
    cases ha : x.cps.all (· < 128)
    · rw [strIterType, ha] at hi
      exact ⟨_, Draws.strWide (A := A.in1) hh i x t, hi⟩
    · rw [strIterType, ha] at hi
      exact ⟨_, Draws.strAscii (A := A.in1) hh i x t, hi⟩
  obtain ⟨St1, D1, hs1⟩ := both _ _ _ i1
  obtain ⟨St2, D2, hs2⟩ := both _ _ _ i2
  exact key St1 St2 D1 D2 hs1 hs2

theorem comp_enum {elt : Expr} {x y : Str} {px py tp : Pos} {kk : Nat} {ifs : List Expr} {scope : Scope} {cl : List (Str × Addr)} {Fin : Array GenState → Drawn → Nat → OsState → List Value → Led → Prop} {ax : Addr} {vs : List Value} {k : Nat} {news : Led} {E : Value → Shared → Prop} (J : Nat → List Value → Led → Prop)
    (hh : A.handled = none) (hkind : scope.kind = .function) (hx : scope.names.lookup x = some .local) (hy : scope.names.lookup y = some .local) (F : Fr h₀ L sH m) (N : News h₀ L sH news) (hm : (ax, ({ cls := .type "list", data := .seq vs.toArray k } : Obj)) ∈ news) (hsz : vs.length ≤ sizeLine)
    (hJ : J 0 [] news) (turn : ∀ (g : Heap) I, CTurn prog w A h₀ L m env elt ifs scope cl [I + 1, I, ax] [I + 1, I] vs.length (fun i bs => ∃ v v', (∃ t x, vs[i]? = some x ∧ #[v, v'] = #[.int (i : Int) t, x]) ∧ bs = [(y, v'), (x, v)]) (fun i _ => J i) sG sD sO)
    (done : ∀ (g : Heap) tk ys nx, J vs.length ys nx → Fin sG sD tk sO ys nx) :
    wpAny (model prog w) A (call (.type "enumerate") [.ref ax]) (fun xv s₁ => wpAny (model prog w) A (pyIter xv) (fun it s₂ => CompAt prog w A h₀ L m env elt (.Tuple [.Name x px, .Name y py] kk tp) ifs scope cl Fin it s₂) E s₁) E (Shared.mk sH sG sD sT sO) := by
  have hLs : L < sH.objs.size := F.ns.lt
  have hab : h₀.objs.size ≤ L := F.above
  have hl : sH.IsList ax vs.toArray := ⟨_, (N _ hm).1, rfl, _, rfl⟩
  have hlt : ax < sH.objs.size := Heap.lt_size (N _ hm).1
  refine call_enumerate_list hl fun h' hE hI hsize hk => ?_
  refine wpAny_pyIter_enum hE ?_
  have T := turn h' sH.objs.size
  refine comp_walksT (sH := h') (sG := sG) (sD := sD) (sT := sT) (sO := sO) (fun i _ => J i) (WalksT.enumerate hh (sH.objs.size + 1) sH.objs.size ax (Nat.succ_ne_self _) (ktu_ne 1 hlt) (Nat.ne_of_lt hlt) vs.toArray) (fun i vals h => ?_) hh hkind hx hy (by simpa using hsz) (fun i h st c hc => ?_) ⟨⟨.none, hE⟩, hI, hl.at fun o e => hk ax o e⟩ (fun c hc => ?_) (fun hc => ?_) (fun c hc => ?_) (F.keeps hk) (N.grown hk) (fun p hp hc => ?_) hJ (fun _ _ _ _ _ _ h => h) ?_ ?_
  · obtain ⟨t, q, _, rfl⟩ := h; exact ⟨_, _, rfl⟩
  · obtain ⟨⟨old, he⟩, ⟨oi, hoi, _⟩, _⟩ := st
    have hb' : c = sH.objs.size + 1 ∨ c = sH.objs.size := by simpa using hc
    rcases hb' with rfl | rfl
    · exact ⟨_, he⟩
    · exact ⟨_, hoi⟩
  · show c < h'.objs.size
    rw [hsize]
    have hb' : c = sH.objs.size + 1 ∨ c = sH.objs.size ∨ c = ax := by simpa using hc
    rcases hb' with rfl | rfl | rfl
    · exact Nat.add_lt_add_left (by decide) _
    · exact Nat.lt_add_of_pos_right (by decide)
    · exact Nat.lt_of_lt_of_le hlt (Nat.le_add_right _ _)
  · have hb' : L = sH.objs.size + 1 ∨ L = sH.objs.size ∨ L = ax := by simpa using hc
    rcases hb' with e | e | e
    · exact ktu_ne 1 hLs e
    · exact Nat.ne_of_lt hLs e
    · exact (N _ hm).2.1 e.symm
  · have hb' : c = sH.objs.size + 1 ∨ c = sH.objs.size := by simpa using hc
    rcases hb' with rfl | rfl
    · exact ktu_new F (Nat.le_add_right _ _)
    · exact ktu_new F (Nat.le_refl _)
  · have hlp := Heap.lt_size (N p hp).1
    have hb' : p.1 = sH.objs.size + 1 ∨ p.1 = sH.objs.size := by simpa using hc
    rcases hb' with e | e
    · exact ktu_ne 1 hlp e
    · exact Nat.ne_of_lt hlp e
  · intro i bs ys nx C oC D' m₂ h tk own E' hi hb hJ' hyl hoC ho hof9 hnx hCD F' N'
    refine T i bs ys nx C oC D' m₂ h tk own E' (by simpa using hi) ?_ hJ' hyl hoC ho hof9 hnx hCD F' N'
    obtain ⟨v, v', ⟨t, q, hq, e⟩, rfl⟩ := hb
    exact ⟨v, v', ⟨t, q, by simpa using hq, e⟩, rfl⟩
  · intro tk ys nx h
    exact done sH tk ys nx (by simpa using h)
end

end
section
section
open PySem.Calls LCg Builtin.Str
variable {prog : Program} {w : World} {A : Around} {E : Value → Shared → Prop} {sH : Heap} {sG : Array GenState} {sD : Drawn} {sT : Nat} {sO : OsState} {h₀ : Heap} {L : Addr} {m : Str → Option Value} {news : Led} {Q : Value → Shared → Prop}
theorem post_tok {c : Prop} [Decidable c] {y z : Str} {t : Tok} (h : (if c then y else z).length ≤ sizeLine ∧ ∀ t' k, (t' = t ∧ k = sT ∨ t' = sT ∧ k = sT + 1) → Q (.str (if c then y else z) t') (Shared.mk sH sG sD k sO)) :
    (if c then Made.val (.str y t) else Made.str z).post Q (Shared.mk sH sG sD sT sO) := by
  by_cases hc : c
  · rw [if_pos hc]; have h' := h.2 t sT (.inl ⟨rfl, rfl⟩); rw [if_pos hc] at h'; exact h'
  · rw [if_neg hc]; have h' := h.2 sT (sT + 1) (.inr ⟨rfl, rfl⟩); have h1 := h.1; rw [if_neg hc] at h' h1; exact ⟨h1, h'⟩
/-- a part of a text, with what is known of its token -/
theorem cut_tok {value slice : PySem.Expr} {l z : List Nat} {t ui uj : Tok} {i j : Int} (a b : Nat) (ei : i = (a : Int)) (ej : j = (b : Int)) (hab : a ≤ b) (hb : b ≤ l.length) (hz : l.length ≤ sizeLine) (e : (l.drop a).take (b - a) = z)
    (hF : Fr h₀ L sH m) (N : News h₀ L sH news)
    (h : ∀ h' t' k, Fr h₀ L h' m → News h₀ L h' news → (t' = t ∧ k = sT ∨ t' = sT ∧ k = sT + 1) → Q (.str (S z) t') (Shared.mk h' sG sD k sO))
    (hs : subscripted slice false (.str (S l) t) (.ref sH.objs.size) = operate [.ref sH.objs.size, .str (S l) t] (getItem (.str (S l) t) (.ref sH.objs.size)) := by with_unfolding_all rfl)
    (ht : ∀ r, letTemporaryGo value (.str (S l) t) r = pure () := by intro _; with_unfolding_all rfl) :
    wpAny (model prog w) A (subscriptTail value slice (.str (S l) t) (.ref sH.objs.size)) Q E (Shared.mk (sH.push { cls := .type "slice", data := .fields #[.int i ui, .int j uj, .none] }) sG sD sT sO) := by
  subst ei ej
  have e' : Txt.slice (S l) (some (a : Int)) (some (b : Int)) = S z := by
    rw [show Txt.slice (S l) (some (a : Int)) (some (b : Int)) = StrLaws.sliceText (S l) (some (a : Int)) (some (b : Int)) from rfl, StrLaws.sliceText_nat _ hab (by rw [S_len]; exact hb)]
    show S _ = S z
    rw [← e]
  refine PyProof.Rows.tail_of_ItemOn ⟨"str", _, F.slot_str_getitem.lookup, typeIs_str _ _ _, wpAny_getItem_str_slice (l := some ((a : Int), ui)) (u := some ((b : Int), uj)) (st := none) ⟨_, Heap.get?_push_size _ rfl, rfl, rfl⟩ rfl
    (post_tok ⟨Nat.le_trans (Txt.slice_le _ _ _) (by rw [S_len]; exact hz), fun t' k hk => ?_⟩)⟩ hs ht
  have q := PyProof.Rows.keptFrN sH ({ cls := .type "slice", data := .fields #[.int (a : Int) ui, .int (b : Int) uj, .none] } : Obj) ⟨hF, N⟩
  have := h _ t' k q.1 q.2 hk
  rw [← e'] at this
  exact this
theorem cut_part {value slice : PySem.Expr} {l pre z post : List Nat} {t ui uj : Tok} {i j : Int} (hl : l = pre ++ z ++ post) (hz : l.length ≤ 1000000) (ei : i = (pre.length : Int)) (ej : j = ((pre.length + z.length : Nat) : Int))
    (hF : Fr h₀ L sH m) (N : News h₀ L sH news)
    (h : ∀ h' t' k, Fr h₀ L h' m → News h₀ L h' news → (t' = t ∧ k = sT ∨ t' = sT ∧ k = sT + 1) → Q (.str (S z) t') (Shared.mk h' sG sD k sO))
    (hs : subscripted slice false (.str (S l) t) (.ref sH.objs.size) = operate [.ref sH.objs.size, .str (S l) t] (getItem (.str (S l) t) (.ref sH.objs.size)) := by with_unfolding_all rfl)
    (ht : ∀ r, letTemporaryGo value (.str (S l) t) r = pure () := by intro _; with_unfolding_all rfl) :
    wpAny (model prog w) A (subscriptTail value slice (.str (S l) t) (.ref sH.objs.size)) Q E (Shared.mk (sH.push { cls := .type "slice", data := .fields #[.int i ui, .int j uj, .none] }) sG sD sT sO) := by
  have hl' := congrArg List.length hl
  simp only [List.length_append] at hl'
  refine cut_tok pre.length (pre.length + z.length) ei ej (Nat.le_add_right _ _) (by lia) (by rw [sizeLine_eq]; lia) ?_ hF N h hs ht
  rw [hl, Nat.add_sub_cancel_left]
  simp
theorem occ_count (l : List Nat) (c : Nat) : (occurrences (S l) (S [c]) 0 (S l).length ((S l).length + 1)).length = l.count c := by
  have h := PyProof.Rows.count_is (S l) c
  have e : ∀ l : List Nat, Spec.countIn (.str ⟨#[c]⟩) (l.map fun n => PyData.str ⟨#[n]⟩) = (l.count c : Nat) := by
    intro l
    induction l with
    | nil => rfl
    | cons y r ih =>
      simp only [List.map_cons, Spec.countIn, Spec.same, ih, List.count_cons]
      by_cases hy : c = y
      · subst hy; simp; lia
      · have : ¬ (y = c) := fun e => hy e.symm
        simp [hy, this]
  rw [e] at h
  have h' : ((occurrences (S l) (S [c]) 0 (S l).length ((S l).length + 1)).length : Int) = (l.count c : Nat) := h
  exact_mod_cast h'
theorem put_free (c : Nat) (z : List Nat) : ∀ l : List Nat, c ∉ l → put c z l = l
  | [], _ => rfl
  | k :: r, h => by
    rw [put_cons, if_neg (fun e : k = c => h (by rw [e]; exact List.mem_cons_self)), put_free c z r fun q => h (List.mem_cons_of_mem _ q)]; rfl
theorem put_join (c : Nat) (z : List Nat) : ∀ parts : List Str, (∀ p ∈ parts, c ∉ p.cps.toList) → put c z (Str.join ⟨#[c]⟩ parts).cps.toList = (Str.join (S z) parts).cps.toList
  | [], _ => rfl
  | [p], h => put_free c z _ (h p (List.mem_singleton.mpr rfl))
  | p :: q :: r, h => by
    have ih := put_join c z (q :: r) fun a ha => h a (List.mem_cons_of_mem _ ha)
    show put c z (p ++ ⟨#[c]⟩ ++ Str.join ⟨#[c]⟩ (q :: r)).cps.toList = (p ++ S z ++ Str.join (S z) (q :: r)).cps.toList
    simp only [Str.cps_append, Array.toList_append]
    rw [put_append, put_append, ih, put_free c z _ (h p List.mem_cons_self)]
    show p.cps.toList ++ put c z [c] ++ _ = _
    rw [put_cons, if_pos rfl]
    simp [put]
theorem replace_put (l z : List Nat) (c : Nat) : Txt.replace (S l) (S [c]) (S z) = S (put c z l) := by
  apply Str.ext'
  apply Array.toList_inj.mp
  rw [show S [c] = ⟨#[c]⟩ from rfl, StrLaws.replace_one, ← put_join c z _ (StrLaws.split_free _ c), StrLaws.join_split]
theorem replace_tok {l z : List Nat} {c : Nat} {t u v : Tok} (hu : u ≠ 0) (hv : v ≠ 0) (huv : u ≠ v) (hne : z ≠ [c]) (hl : l.length ≤ 400000) (hp : (put c z l).length ≤ 400000)
    (h : ∀ t' k, (t' = t ∧ k = sT ∨ t' = sT ∧ k = sT + 1) → Q (.str (S (put c z l)) t') (Shared.mk sH sG sD k sO)) :
    wpAny (model prog w) A (call (.builtin "str.replace") [.str (S l) t, .str (S [c]) u, .str (S z) v]) Q E (Shared.mk sH sG sD sT sO) := by
  have hn : (put c z l).length + l.count c = l.length + l.count c * z.length := by
    clear hl hp h
    induction l with
    | nil => simp [put]
    | cons y r ih =>
      rw [put_cons, List.length_append, List.count_cons]
      by_cases hy : y = c
      · simp [hy, Nat.add_mul]; lia
      · simp [hy]; lia
  have hc : l.count c ≤ l.length := List.count_le_length
  have hyz : (S [c] == S z) = false := by
    cases hb : (S [c] == S z)
    · rfl
    · have := eq_of_beq hb
      exact absurd (by simpa using congrArg (fun q : Str => q.cps.toList) this : [c] = z).symm hne
  have hq := replace_put l z c
  refine call_gives F.slot_str_replace (typeIs_str _ _ _) F.entry_str_replace (F.args_str_replace_3 _ _ _)
    (gives_str_replace (S l) (S [c]) (S z) t u v fun _ => ⟨by simp [hu, hv], by simp [huv], hyz, ?_⟩) ?_
  · rw [occ_count, S_len, S_len]
    unfold tooLong sizeLine
    exact decide_eq_false (by lia)
  · rw [← hq] at h
    unfold Txt.replace at h
    refine post_tok ⟨?_, h⟩
    have e : (if ((occurrences (S l) (S [c]) 0 (S l).length ((S l).length + 1)).isEmpty || ((S [c]).length == 0 && (S z).length == 0)) = true then S l else glued (S z) (partsBetween (S l) (occurrences (S l) (S [c]) 0 (S l).length ((S l).length + 1)) (S [c]).length)) = S (put c z l) := hq
    rw [e, S_len, sizeLine_eq]; lia
theorem len_S {x : List Nat} {t : Tok} (hz : x.length ≤ 1000000) (h : Q (.int (x.length : Nat) (sT + 1)) (Shared.mk sH sG sD (sT + 1 + 1) sO)) : wpAny (model prog w) A (call (.builtin "len") [.str (S x) t]) Q E (Shared.mk sH sG sD sT sO) := by
  refine len_str (by rw [S_len]; lia) ?_
  rw [S_len]; exact h
end

end
section
section
open PySem.Calls LCg
variable {prog : Program} {w : World} {A : Around} {sH : Heap} {sG : Array GenState} {sD : Drawn} {sT : Nat} {sO : OsState} {env : Env} {h₀ : Heap} {L : Addr}
/-- the while rule, with the count of tokens in what is kept -/
inductive WNextT {σ : Type} (h₀ : Heap) (L : Addr) (sG : Array GenState) (sD : Drawn) (sO : OsState) (ps : σ → List (Str × Value)) (led : σ → Led) (I : Nat → σ → Prop) (μ : σ → Nat) (c : σ) (s₂ : Shared) : Prop
  | mk (c' : σ) (h' : Heap) (tk : Nat) (m' : Str → Option Value) (news' : Led) (e : s₂ = (Shared.mk h' sG sD tk sO)) (F : Fr h₀ L h' m') (N : News h₀ L h' news') (h1 : ∀ p ∈ led c', p ∈ news') (h2 : ∀ p ∈ ps c', m' p.1 = some p.2) (h3 : I tk c') (h4 : μ c' < μ c) : WNextT h₀ L sG sD sO ps led I μ c s₂
inductive WInvT {σ : Type} (h₀ : Heap) (L : Addr) (sG : Array GenState) (sD : Drawn) (sO : OsState) (ps : σ → List (Str × Value)) (led : σ → Led) (I : Nat → σ → Prop) (μ : σ → Nat) (n : Nat) (s₂ : Shared) : Prop
  | mk (c : σ) (h₁ : Heap) (tk₁ : Nat) (m₁ : Str → Option Value) (e : s₂ = (Shared.mk h₁ sG sD tk₁ sO)) (hn : μ c = n) (h3 : I tk₁ c) (F : Fr h₀ L h₁ m₁) (N : News h₀ L h₁ (led c)) (h2 : ∀ p ∈ ps c, m₁ p.1 = some p.2) : WInvT h₀ L sG sD sO ps led I μ n s₂
noncomputable def WEndT {σ : Type} (h₀ : Heap) (L : Addr) (sG : Array GenState) (sD : Drawn) (sO : OsState) (ps : σ → List (Str × Value)) (led : σ → Led) (I : Nat → σ → Prop) (μ : σ → Nat) (Q : Flow → Shared → Prop) (c : σ) (f : Flow) (s₂ : Shared) : Prop :=
  match f with
  | .ret v => Q (.ret v) s₂
  | .brk => Q .next s₂
  | _ => WNextT h₀ L sG sD sO ps led I μ c s₂
theorem wendT_next {σ : Type} {ps : σ → List (Str × Value)} {led : σ → Led} {I : Nat → σ → Prop} {μ : σ → Nat} {Q : Flow → Shared → Prop} {c : σ} {h' : Heap} {tk : Nat} {m' : Str → Option Value} {news' : Led} (c' : σ)
    (F : Fr h₀ L h' m') (N : News h₀ L h' news') (h1 : ∀ p ∈ led c', p ∈ news') (h2 : ∀ p ∈ ps c', m' p.1 = some p.2) (h3 : I tk c') (h4 : μ c' < μ c) :
    WEndT h₀ L sG sD sO ps led I μ Q c .next (Shared.mk h' sG sD tk sO) := ⟨c', h', tk, m', news', rfl, F, N, h1, h2, h3, h4⟩
theorem whlT {σ : Type} {test : Expr} {body : List Stmt} {pos : Pos} {m₀ : Str → Option Value} {news : Led} {Q : Flow → Shared → Prop} (ps : σ → List (Str × Value)) (led : σ → Led) (I : Nat → σ → Prop) (μ : σ → Nat) (c₀ : σ)
    (F : Fr h₀ L sH m₀) (N : News h₀ L sH news) (h1 : ∀ p ∈ led c₀, p ∈ news) (h2 : ∀ p ∈ ps c₀, m₀ p.1 = some p.2) (h3 : I sT c₀)
    (turn : ∀ End : σ → Flow → Shared → Prop, (∀ c f s₂, WEndT h₀ L sG sD sO ps led I μ Q c f s₂ → End c f s₂) → ∀ c u h tk, I tk c → Fr h₀ L h (kstB u (ps c)) → News h₀ L h (led c) →
      wpAny (model prog w) A (isTrue test env (eval test env)) (fun b s₂ =>
        if b = true then wpAny (model prog w) A (execs body env) (End c) (fun _ _ => False) s₂ else Q .next s₂) (fun _ _ => False) (Shared.mk h sG sD tk sO)) :
    wpAny (model prog w) A (exec (.While test body [] pos) env) Q (fun _ _ => False) (Shared.mk sH sG sD sT sO) := by
  have hE : PassesOwn (model prog w) A env (fun _ _ => False) := PassesOwn.never
  refine wpAny_While (codeAny_whileLoop (WInvT h₀ L sG sD sO ps led I μ) ?_ (μ c₀) ⟨c₀, sH, sT, m₀, rfl, rfl, h3, F, fun p hp => N p (h1 p hp), h2⟩)
  rintro n s' ⟨c, h₁, tk₁, m₁, rfl, rfl, hI, F₁, N₁, hps⟩
  refine wpAny_mono (turn (WEndT h₀ L sG sD sO ps led I μ Q) (fun _ _ _ x => x) c m₁ h₁ tk₁ hI (by rw [kstB_id hps]; exact F₁) N₁) (fun b s₂ q => ?_) hE
  cases b with
  | false =>
    simp only [Bool.false_eq_true, if_false] at q ⊢
    exact wpAny_execs_nil q
  | true =>
    simp only [if_true] at q ⊢
    refine wpAny_mono q (fun f s₃ r => ?_) hE
    cases f with
    | ret v => exact r
    | brk => exact r
    | next =>
      obtain ⟨c', h', tk, m', news', rfl, F', N', a1, a2, a3, a4⟩ := r
      exact ⟨μ c', a4, c', h', tk, m', rfl, rfl, a3, F', fun p hp => N' p (a1 p hp), a2⟩
    | cont =>
      obtain ⟨c', h', tk, m', news', rfl, F', N', a1, a2, a3, a4⟩ := r
      exact ⟨μ c', a4, c', h', tk, m', rfl, rfl, a3, F', fun p hp => N' p (a1 p hp), a2⟩
variable {m : Str → Option Value}
/-- a comprehension over a tuple, with the count of tokens in what is kept -/
theorem comp_tupleT {elt : Expr} {x : Str} {px : Pos} {ifs : List Expr} {scope : Scope} {cl : List (Str × Addr)} {Fin : Array GenState → Drawn → Nat → OsState → List Value → Led → Prop} {ax : Addr} {vs : List Value} {o : Obj} {k : Nat} {news : Led} {E : Value → Shared → Prop} (J : Nat → Nat → List Value → Led → Prop)
    (hh : A.handled = none) (hkind : scope.kind = .function) (hx : scope.names.lookup x = some .local) (F : Fr h₀ L sH m) (N : News h₀ L sH news) (hm : (ax, o) ∈ news) (hoc : o.cls = .type "tuple") (hod : o.data = .seq vs.toArray k) (hsz : vs.length ≤ sizeLine)
    (hJ : J 0 sT [] news) (hmono : ∀ i tk tk' ys nx, tk ≤ tk' → J i tk ys nx → J i tk' ys nx)
    (turn : ∀ (g : Heap) I, CTurn prog w A h₀ L m env elt ifs scope cl [I, ax] [I] vs.length (fun i bs => ∃ v, vs[i]? = some v ∧ bs = [(x, v)]) J sG sD sO) (done : ∀ (g : Heap) tk ys nx, J vs.length tk ys nx → Fin sG sD tk sO ys nx) :
    wpAny (model prog w) A (pyIter (.ref ax)) (fun it s₂ => CompAt prog w A h₀ L m env elt (.Name x px) ifs scope cl Fin it s₂) E (Shared.mk sH sG sD sT sO) := by
  have hl : sH.IsTuple ax vs.toArray := ⟨_, (N _ hm).1, hoc, k, hod⟩
  have hlt : ax < sH.objs.size := Heap.lt_size (N _ hm).1
  refine wpAny_pyIter_tuple hl ?_
  have up : ∀ b o, sH.get? b = some o → (sH.push { cls := .type "tuple_iterator", data := .fields #[.ref ax, .int 0 0] }).get? b = some o := fun b o e => Heap.get?_push_of_some _ e
  have W := Walks.tuple (prog := prog) (w := w) hh sH.objs.size ax (Nat.ne_of_lt hlt) vs.toArray
  refine ⟨sH.objs.size, _, _, _, _, _, _, _, news, J, rfl, KTurns.ofWalks W (fun i v s₀ Q E st q => letGo_tupleiter st.1 q), takes_name hkind hx, W.self, by simpa using hsz, fun i h st b hb => ?_, ⟨⟨_, Heap.get?_push_size _ rfl, rfl, rfl⟩, hl.at fun o e => up ax o e⟩, fun b hb => ?_, ?_, fun b hb => ?_, F.keeps up, N.grown up, fun p hp => ?_, hJ, hmono, ?_, ?_⟩
  · obtain ⟨o, e, _⟩ := st.1
    rw [List.mem_singleton.mp hb]; exact ⟨o, e⟩
  · show b < (sH.push _).objs.size
    rw [Heap.size_push]
    rcases List.mem_cons.mp hb with rfl | hb
    · exact Nat.lt_succ_self _
    · rw [List.mem_singleton.mp hb]; exact Nat.lt_succ_of_lt hlt
  · intro hI
    rcases List.mem_cons.mp hI with e | hI
    · exact absurd F.ns.lt (e ▸ Nat.lt_irrefl _)
    · exact (N _ hm).2.1 (List.mem_singleton.mp hI).symm
  · rw [List.mem_singleton.mp hb]; exact next_is_new F
  · intro hI
    exact absurd (Heap.lt_size (N p hp).1) ((List.mem_singleton.mp hI) ▸ Nat.lt_irrefl _)
  · have t := turn (sH.push { cls := .type "tuple_iterator", data := .fields #[.ref ax, .int 0 0] }) sH.objs.size
    simpa using t
  · intro tk ys nx h
    exact done sH tk ys nx (by simpa using h)
end
section
open PySem.Calls
variable {prog : Program} {w : World} {A A₀ : Around} {sH : Heap} {sG : Array GenState} {sD : Drawn} {sT : Nat} {sO : OsState} {K : Frag} {L : Addr} {h₀ base : Heap} {m mg mb : Str → Option Value} {news : List (Addr × Obj)} {p : Program} {loose : List Str} {mean : ExcName → Option Value}
/-- the entry of a def with cells; the count of tokens does not sink -/
theorem code_defCT {env : Env} {outer : List Env} {R : Result → Shared → Prop} {name qual : Str} {params : Arguments} {body : List Stmt} {scope : Scope} {dV kV doc pm cdv ct oc : Value} {an od : Option Addr} {osl : Array (Option Value)} {f : Addr} {args : Args} {binds : List (Str × Value)}
    (B : Below A₀ base outer h₀) (F : Fr h₀ L sH m) (X₀ : K.In h₀) (N : News h₀ L sH news) (T : Top p loose mean mg mb h₀) (hA : A.frames = some (env :: outer)) (hf : env.frame = some L) (hke : env.scope.kind = .function)
    (ho : K.lookup f = some ⟨oc, od, .func (fnOf name qual params body scope dV kV doc pm an cdv ct), osl⟩) (hcd : codeIn K cdv qual = true) (hroom : A.depth < recursionLimit)
    (hbind : BindsTo (Shared.mk sH sG sD sT sO) (fnOf name qual params body scope dV kV doc pm an cdv ct) args binds) (hkind : (binds.all fun y => scope.names.lookup y.1 == some .local || scope.names.lookup y.1 == some .cell) = true)
    (hnd : ((cellsFrom 0 scope.names []).map (·.1)).Nodup)
    (h : ∀ g L' h₁ tk cells, sT ≤ tk → Fr h₀ L g m → Fr g L' h₁ (bindL (envOfC qual scope L' f cdv).kindOf binds fun _ => none) → News g L' h₁ (cells ++ news) →
      CellsAre (bindC (envOfC qual scope L' f cdv).kindOf binds fun _ => none) (cellsFrom (L' + 1) scope.names []) cells → Below A base (env :: outer) g → K.In g → Top p loose mean mg mb g → (∀ p ∈ news, p.1 < L') →
      wpAny (model prog w) (A.deeper (envOfC qual scope L' f cdv)) (execs body (envOfC qual scope L' f cdv))
        (fun fl s' => LeaveK h₀ L m g R (match fl with | .ret v => v | _ => .none) s')
        (fun _ _ => False)
        (Shared.mk h₁ sG sD tk sO))
    (hco : scope.isCoroutine = false) (hgen : scope.isGenerator = false) (hk : scope.kind = .function) : codeAny (model prog w) A (.call (.ref f) args) R (Shared.mk sH sG sD sT sO) := by
  have hlim := T.nolimit
  have Xs := X₀.keeps F.keep
  obtain ⟨FG, BG, st, lv⟩ := groundX (s := ⟨sH, sG, sD, sT, sO⟩) (R := R) B F N hA hf hke
  refine codeAny_call_function hroom (Xs _ _ ho) rfl hco hgen rfl (codeRec_of Xs hcd) (hbind _ _ _ _ ?_)
  refine grow_in (wpAny_newFunctionEnv_cells hk (kindsX hkind _) fun env' he s' x => fun hg => ?_)
  subst he
  refine ⟨(hlim.keeps F.keep).keeps x.toInCall.keep, codeAny_func ?_⟩
  obtain ⟨h₁, tk, rfl, _⟩ := x.done
  have kept := x.toInCall.keep
  obtain ⟨cells, NC, Y⟩ := Cl.news (h₀ := sH) (Nat.le_refl _) fun n c hm => ⟨x.cell n c (lookup_of_mem_nodup (cellsFrom_names scope.names 0 (sH.objs.size + 1) [] [] rfl ▸ hnd) hm), x.above n c hm⟩
  have fr : Fr (hideAll sH (news.map (·.1))) sH.objs.size h₁ (bindL (envOfC qual scope sH.objs.size f cdv).kindOf binds fun _ => none) := ⟨x.toInCall.ns, fun b o e => kept b o (of_hideAll _ e), Nat.le_of_eq (hideAll_size _ _)⟩
  have nw : News (hideAll sH (news.map (·.1))) sH.objs.size h₁ (cells ++ news) := fun p hp => by
    rcases List.mem_append.mp hp with hp | hp
    · have z := NC p hp
      refine ⟨z.1, z.2.1, ?_⟩
      cases q : (hideAll sH (news.map (·.1))).get? p.1 with
      | none => rfl
      | some o => exact absurd (of_hideAll _ q) (by rw [z.2.2]; exact nofun)
    · exact ⟨kept _ _ (N p hp).1, Nat.ne_of_lt (Heap.lt_size (N p hp).1), hideAll_none _ (List.mem_map_of_mem hp)⟩
  exact wpAny_mono (h _ _ h₁ tk cells hg FG fr nw Y BG (X₀.keeps st) (T.keeps st) fun p hp => Heap.lt_size (N p hp).1) (fun fl s' q => lv _ _ q) fun _ _ e => e.elim
end
theorem tok_apart {t1 t2 tX tY tk tk' a b c d : Nat} (hg : tk ≤ tk') (gA : tk' + 1 + 1 ≤ a) (jX : (tX = t1 ∧ b = a) ∨ (tX = a ∧ b = a + 1)) (gB : b ≤ c) (jY : (tY = t2 ∧ d = c) ∨ (tY = c ∧ d = c + 1)) (h1 : 0 < t1 ∧ t1 < tk) (h2 : 0 < t2 ∧ t2 < tk) (h12 : t1 ≠ t2) :
    tX ≠ 0 ∧ tY ≠ 0 ∧ tX ≠ tY ∧ tk ≤ d := by lia
/-- what the comprehension of _law_met has made so far -/
noncomputable def MetJ (led : Led) (lo : Nat) (l : Nat) (z : List Nat) (q1 q2 q3 : List Nat × Nat) (i tk : Nat) (ys : List Value) (nx : Led) : Prop :=
  nx = led ∧ lo ≤ tk ∧ (i = 0 → ys = []) ∧ (i = 1 → ∃ a : Nat, ys = [.str (S (put l z q1.1)) a] ∧ (0 < a ∧ a < tk) ∧ (a = q1.2 ∨ lo ≤ a)) ∧
  (i = 2 → ∃ a b : Nat, ys = [.str (S (put l z q1.1)) a, .str (S (put l z q2.1)) b] ∧ (0 < a ∧ a < tk) ∧ (0 < b ∧ b < tk) ∧ a ≠ b) ∧
  (i = 3 → ∃ a b c : Nat, ys = [.str (S (put l z q1.1)) a, .str (S (put l z q2.1)) b, .str (S (put l z q3.1)) c] ∧ (0 < a ∧ a < tk) ∧ (0 < b ∧ b < tk) ∧ (0 < c ∧ c < tk) ∧ a ≠ b)
theorem MetJ.zero {led : Led} {lo l tk : Nat} {z : List Nat} {q1 q2 q3 : List Nat × Nat} (h : lo ≤ tk) : MetJ led lo l z q1 q2 q3 0 tk [] led := ⟨rfl, h, fun _ => rfl, nofun, nofun, nofun⟩
theorem MetJ.mono {led : Led} {lo l : Nat} {z : List Nat} {q1 q2 q3 : List Nat × Nat} (i tk tk' : Nat) (ys : List Value) (nx : Led) (hle : tk ≤ tk') (h : MetJ led lo l z q1 q2 q3 i tk ys nx) : MetJ led lo l z q1 q2 q3 i tk' ys nx := by
  obtain ⟨e, h0, h1, h2, h3, h4⟩ := h
  refine ⟨e, Nat.le_trans h0 hle, h1, fun q => ?_, fun q => ?_, fun q => ?_⟩
  · obtain ⟨a, b, c, d⟩ := h2 q; clear h1 h2 h3 h4; exact ⟨a, b, ⟨c.1, by lia⟩, d⟩
  · obtain ⟨a, b, c, d, e, f⟩ := h3 q; clear h1 h2 h3 h4; exact ⟨a, b, c, ⟨d.1, by lia⟩, ⟨e.1, by lia⟩, f⟩
  · obtain ⟨a, b, c, d, e, f, g, k⟩ := h4 q; clear h1 h2 h3 h4; exact ⟨a, b, c, d, ⟨e.1, by lia⟩, ⟨f.1, by lia⟩, ⟨g.1, by lia⟩, k⟩
theorem MetJ.step {led : Led} {lo l : Nat} {z : List Nat} {q1 q2 q3 q : List Nat × Nat} {i tk tk' tok : Nat} {ys : List Value} {nx : Led} (h : MetJ led lo l z q1 q2 q3 i tk ys nx) (hq : [q1, q2, q3][i]? = some q)
    (h1 : 0 < q1.2 ∧ q1.2 < lo) (h2 : 0 < q2.2 ∧ q2.2 < lo) (h3 : 0 < q3.2 ∧ q3.2 < lo) (h12 : q1.2 ≠ q2.2) (hj : (tok = q.2 ∧ tk' = tk) ∨ (tok = tk ∧ tk' = tk + 1)) :
    MetJ led lo l z q1 q2 q3 (i + 1) tk' (ys ++ [.str (S (put l z q.1)) tok]) nx := by
  obtain ⟨e, k0, k1, k2, k3, k4⟩ := h
  match i, hq with
  | 0, hq =>
    simp at hq
    subst hq
    rw [k1 rfl]
    clear k1 k2 k3 k4
    exact ⟨e, by lia, nofun, fun _ => ⟨tok, rfl, ⟨by lia, by lia⟩, by lia⟩, nofun, nofun⟩
  | 1, hq =>
    simp at hq
    subst hq
    obtain ⟨a, rfl, b, c⟩ := k2 rfl
    clear k1 k2 k3 k4
    exact ⟨e, by lia, nofun, nofun, fun _ => ⟨a, tok, rfl, ⟨b.1, by lia⟩, ⟨by lia, by lia⟩, by lia⟩, nofun⟩
  | 2, hq =>
    simp at hq
    subst hq
    obtain ⟨a, b, rfl, c, d, f⟩ := k3 rfl
    clear k1 k2 k3 k4
    exact ⟨e, by lia, nofun, nofun, nofun, fun _ => ⟨a, b, tok, rfl, ⟨c.1, by lia⟩, ⟨d.1, by lia⟩, ⟨by lia, by lia⟩, f⟩⟩
  | i + 3, hq => simp at hq
theorem met_item {q1 q2 q3 : List Nat × Nat} {i : Nat} {v : Value} (h : [Value.str (S q1.1) q1.2, .str (S q2.1) q2.2, .str (S q3.1) q3.2][i]? = some v) : ∃ x t, [q1, q2, q3][i]? = some (x, t) ∧ v = .str (S x) t ∧ (x = q1.1 ∨ x = q2.1 ∨ x = q3.1) := by
  match i, h with
  | 0, h => simp at h; exact ⟨_, _, rfl, h.symm, .inl rfl⟩
  | 1, h => simp at h; exact ⟨_, _, rfl, h.symm, .inr (.inl rfl)⟩
  | 2, h => simp at h; exact ⟨_, _, rfl, h.symm, .inr (.inr rfl)⟩
  | i + 3, h => simp at h
theorem lt3 {a b c x : Nat} (h : a < b) (h2 : b ≤ c) : a < c + x + 1 + 1 := by lia
theorem le3 {a b x : Nat} (h : a ≤ b) : a ≤ b + x + 1 + 1 := by lia

end
section
section
open PySem.Calls LCg
variable {prog : Program} {w : World} {A : Around} {E : Value → Shared → Prop} {s : Shared} {h₀ : Heap} {L : Addr} {news : Led} {Q : Value → Shared → Prop}
theorem index_false {D : Addr} {bs : List Bool} {vs : List Value} {k j : Nat} (N : News h₀ L s.heap news) (hm : (D, ls k vs) ∈ news) (hv : vs = bs.map .bool) (hj : bs[j]? = some false) (hlt : ∀ i, i < j → bs[i]? = some true) (hz : bs.length ≤ 1000000)
    (h : Q (.int (j : Int) s.toks) { s with toks := s.toks + 1 }) : wpAny (model prog w) A (call (.builtin "list.index") [.ref D, .bool false]) Q E s := by
  subst hv
  have hjl : j < bs.length := (List.getElem?_eq_some_iff.mp hj).1
  have hjv : bs[j] = false := (List.getElem?_eq_some_iff.mp hj).2
  refine call_meets F.slot_list_index ⟨_, (N _ hm).1, rfl⟩ F.entry_list_index (F.args_list_index_2 _ _)
    (SeqAt.list_indexAt D (bs.map Value.bool).toArray k none #[] (.bool false) (fun v => match v with | .bool b => b == false | _ => false) j (by simpa using hjl) (by lia) (by simp [hjv]) (fun i hi hij => ?_)) ⟨(N _ hm).1, fun y hy => ?_, h⟩
  · have hib : i < bs.length := by simpa using hi
    have := (List.getElem?_eq_some_iff.mp (hlt i hij)).2
    simp [this]
  · have hy' : ∃ b ∈ bs, Value.bool b = y := by simpa using hy
    obtain ⟨b, _, rfl⟩ := hy'
    exact SeqAt.EqAt.bool_bool b false
end
theorem in_one {c : Nat} {z : List Nat} (h : (Builtin.Str.occurrences (S z) (S [c]) 0 (S z).length 1).isEmpty = false) : c ∈ z := by
  rw [PyProof.Rows.empty_one] at h
  simpa using h
/-- where two texts differ first -/
theorem zip_first {pre x y : List Nat} (hx : x.head? ≠ y.head?) (hx0 : x ≠ []) (hy0 : y ≠ []) :
    ((pre ++ x).zip (pre ++ y))[pre.length]? = some (x.headD 0, y.headD 0) ∧ ∀ i, i < pre.length → ∃ c, ((pre ++ x).zip (pre ++ y))[i]? = some (c, c) := by
  constructor
  · rcases x with _ | ⟨a, x⟩
    · exact absurd rfl hx0
    · rcases y with _ | ⟨b, y⟩
      · exact absurd rfl hy0
      · simp [List.getElem?_zip_eq_some]
  · intro i hi
    refine ⟨pre[i], ?_⟩
    simp [List.getElem?_zip_eq_some, List.getElem?_append_left hi]
set_option maxRecDepth 100000 in
set_option maxHeartbeats 8000000 in
theorem met_ (w : World) (n : Nat) (t u g res : Tr) (d : MetB n t u g res) (ht : t.Ok) (hu : u.Ok) (hg : g.Ok) (t1 t2 t3 : Tok) (lo : Nat) (ht1 : 0 < t1 ∧ t1 < lo) (ht2 : 0 < t2 ∧ t2 < lo) (ht3 : 0 < t3 ∧ t3 < lo) (h12 : t1 ≠ t2) (rest : Led) :
    DoesT w 20 200 (.ref 188) [.str (S (t.enc 51)) t1, .str (S (u.enc 51)) t2, .str (S (g.enc 51)) t3] rest lo (fun K => ∀ (t' : Tok) (tk : Nat), 0 < t' → t' < tk → K tk (.str (S (res.enc 51)) t') rest) := by
  k_with_none
  k_with "my k_in" => first | with_reducible assumption | exact Frag.In.keeps (by with_reducible assumption) (Fr.keep (by with_reducible assumption))
  k_with "my k_ne" => (refine neN ?_; (try dsimp only); first | with_reducible assumption | (refine Ne.symm ?_; with_reducible assumption) | lia)
  k_with "my ROOM" => ((try dsimp only [Around.deeper, Around.mark, Around.in1]); first | exact room3 (by assumption) rfl | exact room2 (by assumption) rfl | lia)
  k_with "my ite" => first | (refine ite_pos (by with_reducible assumption) ?_) | (refine ite_neg (by with_reducible assumption) ?_) | (refine ite_pos (decide_eq_true (by with_reducible assumption)) ?_) | (refine ite_neg (Bool.eq_false_iff.mp (decide_eq_false (by with_reducible assumption))) ?_)
  k_with "my exec While" => (try k_fold); refine Stop.mk ?_
  k_with "my subscriptTail Name Name str int" => (refine sub_str (by assumption) (by assumption) ?_)
  k_with "my call builtin:ord" => (refine ord_S ?_)
  k_with "my exec Assign cons ListComp" => (try k_fold); (k_dflt (refine Assign_Lc_k (_F₀ := by k_asm) (by rfl) (by with_unfolding_all rfl) (by with_unfolding_all rfl) (by decide) (by rfl) (by decide) (by rfl) (by rfl) ?_))
  k_with "my eval ListComp" => (try k_fold); (k_dflt (refine Lc_k (_F₀ := by k_asm) (by with_unfolding_all rfl) (by decide) (by rfl) (by decide) ?_))
  k_with "my execs cons" => ((with_reducible refine wpAny_execs_cons ?_); try dsimp only)
  k_with "my execs nil" => (refine wpAny_execs_nil ?_)
  k_with "my call builtin:len" => (with_reducible refine' len_S (by k_asm) ?_)
  k_with "my eval ListComp" => (try k_fold); (refine grow_in ?_; k_dflt (refine Lc_k (_F₀ := by k_asm) (by with_unfolding_all rfl) (by decide) (by rfl) (by decide) ?_))
  k_with "my k_all" => with_reducible assumption
  k_with "my call ref" => ((refine Does.useG (behind' _ (k := 51) (by decide) (by k_asm) (by k_asm) (by with_reducible assumption) _ _ _) (by k_asm) (by k_asm) (by k_asm) (by k_asm) (by k_asm) rfl rfl (by walk_at "ROOM") (by walk_at "ROOM") ?_; intro t9zz h9zz k9zz F9zz N9zz g9zz; (try k_sweep))); (try revert g9zz); (try revert N9zz); (try revert F9zz); (try revert k9zz); (try revert h9zz); (try revert t9zz); intros
  k_with "my subscriptTail Name Slice str ref" => ((k_dflt (refine' cut_part (by k_asm) (by with_reducible assumption) (by exact rfl) (by exact rfl) (by k_asm) (by k_asm) ?_ (by with_unfolding_all rfl) (by (intro _; with_unfolding_all rfl))); intro h9zz t9zz k9zz F9zz N9zz j9zz; (try k_sweep))); (try revert j9zz); (try revert N9zz); (try revert F9zz); (try revert k9zz); (try revert t9zz); (try revert h9zz); intros
  k_with "my call builtin:list.index" => refine Stop.mk ?_
  k_with "my call builtin:str.replace" => (((k_dflt (refine' replace_tok ?_ ?_ ?_ ?_ ?_ ?_ ?_)); (next => k_asm); (next => k_asm); (next => k_asm); (next => k_asm); (next => k_asm); (next => k_asm); intro t9zz k9zz j9zz)); (try revert j9zz); (try revert k9zz); (try revert t9zz); intros
  k_with "my call type:zip" => refine Stop.mk ?_
  have hu' := hu
  clear hu
  unfold DoesT
  intro dp un gd env outer A₀ base h₀ L m sH sG sD sT sO R p loose mean mg mb hf hk B F X N T hd hu hlo hret
  k_dflt (refine' code_defCT ?k1 ?k2 ?k3 ?k4 ?k5 ?kA ?kF ?kK ?k6 ?k7 ?k8 ?k9 ?kB ?kD ?_ ?c2 ?c3 ?c4; (case kA => exact rfl); (case kF => exact hf); (case kK => exact hk); (case k1 => exact B); (case k2 => exact F); (case k3 => exact X); (case k4 => exact N); (case k5 => exact T); (case k6 => k_is); (case k7 => k_is); (case k8 => (refine room_of hd ?_; dsimp only; lia)); (case k9 => first | exact BindsTo.of_eq rfl | exact binds_K (by k_in) rfl (by k_is) rfl rfl rfl); (case kB => exact rfl); (case kD => decide +kernel); (case c2 => exact rfl); (case c3 => exact rfl); (case c4 => exact rfl); k_whole)
  intro g' L' h1 tk' cells' hg' FG' F' N' Y' B' X' T' l1
  (try k_lt l1)
  k_cells Y'
  (try simp only [List.cons_append, List.nil_append] at N')
  (try dsimp only)
  (try k_fold)
  k_steps
  refine Stop.go ?_
  rename_i oR oL dR dL
  rename Fr _ _ _ _ => F1
  (try k_fold)
  refine whlT (σ := Nat × (Tr × Tr × Tr) × (Tok × Tok × Tok) × Obj × Obj) (fun c => [("one", .str (S (c.2.1.1.enc 51)) c.2.2.1.1), ("two", .str (S (c.2.1.2.1.enc 51)) c.2.2.1.2.1), ("goal", .str (S (c.2.1.2.2.enc 51)) c.2.2.1.2.2)]) (fun c => (L' + 1 + 1, c.2.2.2.1) :: (L' + 1, c.2.2.2.2) :: rest)
    (fun tk c => MetB c.1 c.2.1.1 c.2.1.2.1 c.2.1.2.2 res ∧ (c.2.1.1.Ok ∧ c.2.1.2.1.Ok ∧ c.2.1.2.2.Ok) ∧ (0 < c.2.2.1.1 ∧ c.2.2.1.1 < tk) ∧ (0 < c.2.2.1.2.1 ∧ c.2.2.1.2.1 < tk) ∧ (0 < c.2.2.1.2.2 ∧ c.2.2.1.2.2 < tk) ∧ c.2.2.1.1 ≠ c.2.2.1.2.1 ∧ (∃ v, c.2.2.2.1.data = .cell v) ∧ ∃ v, c.2.2.2.2.data = .cell v) (fun c => c.1) (n, (t, u, g), (t1, t2, t3), oR, oL) F1 N' (fun _ h => h) ?h2 ?h3 ?turn
  case h2 => repeat' (first | exact List.forall_mem_nil _ | refine List.forall_mem_cons.mpr ⟨by first | rfl | (dsimp only; refine Eq.trans (b := some (Value.int _ _)) rfl ?_; refine int_cong ?_; simp only [List.length_append, List.length_cons, List.length_nil]; lia), ?_⟩)
  case h3 =>
    (try dsimp only)
    exact ⟨d, ⟨ht, hu', hg⟩, ⟨ht1.1, Nat.lt_of_lt_of_le ht1.2 (Nat.le_trans hlo hg')⟩, ⟨ht2.1, Nat.lt_of_lt_of_le ht2.2 (Nat.le_trans hlo hg')⟩, ⟨ht3.1, Nat.lt_of_lt_of_le ht3.2 (Nat.le_trans hlo hg')⟩, h12, ⟨_, dR⟩, ⟨_, dL⟩⟩
  case turn =>
    clear F1 N' dR dL oR oL
    intro End1 hE1
    rintro ⟨n, ⟨t, u, g⟩, ⟨t1, t2, t3⟩, oR, oL⟩ um h tk hJ0 F2 N2
    (try k_fold)
    refine andE8 hJ0 ?_
    clear hJ0
    intro d hK1 ht1 ht2 ht3 h12 hK6 hK7
    obtain ⟨ht, hu', hg⟩ := hK1
    obtain ⟨vR, dR⟩ := hK6
    obtain ⟨vL, dL⟩ := hK7
    (try dsimp only at d ht hu' hg ht1 ht2 ht3 h12 dR dL F2 N2 ⊢)
    by_cases hne : t = u
    · subst hne
      have hrg := d.same
      subst hrg
      have hb : ¬ ((S (t.enc 51) != S (t.enc 51)) = true) := by simp
      k_steps
      rename Fr _ _ _ _ => F9
      rename News _ _ _ _ => N9
      (try simp only [List.push_toArray] at N9)
      exact hret t3 _ ht3.1 ht3.2 _ F9 (fun p hp => N9 p (List.mem_cons_of_mem _ (List.mem_cons_of_mem _ hp)))
    clear hret
    obtain ⟨n', l, r, x, y, rfl, hdf, hxy, hlr, d'⟩ := d.inv hne
    obtain ⟨pre, p1, p2, e1, e2, hxo, hyo, hhead, _⟩ := diff_enc (k := 51) (by decide) t u x y ht hu' hne hdf
    have hst := d.sz.1
    have hsu := d.sz.2.1
    unfold Sz at hst hsu
    have hb : (S (t.enc 51) != S (u.enc 51)) = true := by
      simp only [bne_iff_ne, ne_eq]
      exact fun q => hne (enc_eq (k := 51) (by decide) ht hu' (by simpa using congrArg (fun q : Str => q.cps.toList) q))
    k_steps
    refine Stop.go ?_
    (try k_fold)
    refine comp_zip (fun i ys nx => nx = (L' + 1 + 1, oR) :: (L' + 1, oL) :: rest ∧ ys = (((t.enc 51).zip (u.enc 51)).take i).map fun q => Value.bool (q.1 == q.2)) rfl rfl rfl rfl F2 N2 ?hs ⟨rfl, rfl⟩ ?turn ?done
    case hs => rw [sizeLine_eq]; lia
    case turn =>
      intro g0 I
      refine cturn_pair (Pt := fun i vals => ∃ c d t' u', (t.enc 51)[i]? = some c ∧ (u.enc 51)[i]? = some d ∧ vals = #[.str (S [c]) t', .str (S [d]) u']) ?hne9 ?_
      case hne9 => decide
      rintro i v v' ys nx C oC D M h tk own E' hi hJ0 hJ1 hyl hC hM1 hM2 hw hof ho hCD F3 N3
      intro Qe
      (try k_fold)
      obtain ⟨c1, c2, tq, uq, hc1, hc2, heq⟩ := hJ0
      obtain ⟨rfl, hys⟩ := hJ1
      clear F2 N2
      obtain ⟨rfl, rfl⟩ : v = .str (S [c1]) tq ∧ v' = .str (S [c2]) uq := by simpa using heq
      k_steps
      (try dsimp only)
      refine cend ((L' + 1 + 1, oR) :: (L' + 1, oL) :: rest) (by k_asm) (by k_asm) (by (repeat (first | assumption | exact List.mem_cons_self | apply List.mem_cons_of_mem))) (by (repeat (first | assumption | exact List.mem_cons_self | apply List.mem_cons_of_mem))) (by (intro p9 hp9; repeat (first | exact hp9 | exact List.mem_append_left _ hp9 | exact List.mem_append_right _ hp9 | apply List.mem_cons_of_mem))) (by (intro p9 hp9; repeat (first | exact hp9 | exact List.mem_append_left _ hp9 | exact List.mem_append_right _ hp9 | apply List.mem_cons_of_mem))) ?_ ?_
      · exact ho
      · refine ⟨rfl, ?_⟩
        have hz : ((t.enc 51).zip (u.enc 51))[i]? = some (c1, c2) := by rw [List.getElem?_zip_eq_some]; exact ⟨hc1, hc2⟩
        rw [List.take_add_one, hz, hys, List.map_append]
        have e : (S [c1] == S [c2]) = (c1 == c2) := by
          rw [Bool.eq_iff_iff]; simp
        show _ = _ ++ [Value.bool (c1 == c2)]
        rw [← e]
    case done =>
      rintro g0 tk0 ys nx hZ0 D h tk' hgt F3 N3 hD hgt2
      obtain ⟨rfl, hys⟩ := hZ0
      (try dsimp only at hgt2)
      clear F2 N2
      k_steps
      refine Stop.go ?_
      rename Fr _ _ _ _ => F9
      rename News _ _ _ _ => N9
      (try simp only [List.push_toArray] at N9)
      obtain ⟨cx, rx, ex, _⟩ := enc_head (k := 51) x
      obtain ⟨cy, ry, ey, _⟩ := enc_head (k := 51) y
      have hcc : cx ≠ cy := by rw [ex, ey] at hhead; simpa using hhead
      have hzf := zip_first (pre := pre) (x := x.enc 51 ++ p1) (y := y.enc 51 ++ p2) (by rw [ex, ey]; simpa using hcc) (by rw [ex]; simp) (by rw [ey]; simp)
      rw [← List.append_assoc, ← List.append_assoc, ← e1, ← e2] at hzf
      have hmin : min (t.enc 51).length (u.enc 51).length = ((t.enc 51).zip (u.enc 51)).length := by simp
      refine index_false (bs := ((t.enc 51).zip (u.enc 51)).map fun q => q.1 == q.2) (j := pre.length) (k := ys.length) N9 List.mem_cons_self ?hv ?hj ?hlt ?hz ?_
      case hv => rw [hys, hmin, List.take_of_length_le (Nat.le_refl _), List.map_map]; rfl
      case hj =>
        rw [List.getElem?_map, hzf.1, ex, ey]
        simpa using hcc
      case hlt =>
        intro i hi
        obtain ⟨c, hc⟩ := hzf.2 i hi
        rw [List.getElem?_map, hc]; simp
      case hz => rw [List.length_map, List.length_zip]; refine Nat.le_trans (Nat.min_le_left _ _) ?_; lia
      have hD1 : @Ne Nat (L' + 1 + 1) D := hD _ List.mem_cons_self
      have hD2 : @Ne Nat (L' + 1) D := hD _ (List.mem_cons_of_mem _ List.mem_cons_self)
      have hr1 : ∀ p ∈ rest, p.1 ≠ L' + 1 + 1 := fun p hp => Nat.ne_of_lt (Nat.lt_of_lt_of_le (l1 p hp) (Nat.le_add_right L' 2))
      have hr2 : ∀ p ∈ rest, p.1 ≠ L' + 1 := fun p hp => Nat.ne_of_lt (Nat.lt_of_lt_of_le (l1 p hp) (Nat.le_add_right L' 1))
      clear hD
      have hst' : (t.enc 51).length ≤ 1000000 := by lia
      have hsu' : (u.enc 51).length ≤ 1000000 := by lia
      have hxl : (x.enc 51).length ≤ 1000000 := by have := congrArg List.length e1; simp only [List.length_append] at this; lia
      have hyl : (y.enc 51).length ≤ 1000000 := by have := congrArg List.length e2; simp only [List.length_append] at this; lia
      k_steps
      · rename_i zh0 zt1 zh1 zk1 gA zh2 tX zk2 jX zt2 zh3 zk3 gB zh4 tY zk4 jY zD1 zh5 zl1 zh6 zh7 zo1 zd1 zh8 zo2 zd2 hlen zD2 zh9 zl2 zh10 zh11 oL' dL' zh12 oR' dR' hin D' zh13 F9 N9 l9
        (try dsimp only at gA gB jX jY)
        have hx : ∃ a b, r = .nd a b ∧ x = r ∧ y = .lf l := by
          rcases hxy with h | h
          · exfalso
            rw [h.1] at hlen
            simp [Tr.enc] at hlen
          · exact h
        obtain ⟨_, _, _, hx1, hy1⟩ := hx
        have hx2 := hx1.symm
        subst hx2 hy1
        have hl256 : 256 ≤ l := hyo
        have htok := tok_apart hgt2 gA jX gB jY ht1 ht2 h12
        have hX0 : tX ≠ 0 := htok.1
        have hY0 : tY ≠ 0 := htok.2.1
        have hXY : tY ≠ tX := fun e => htok.2.2.1 e.symm
        have hsz1 := d'.sz.1
        have hsz2 := d'.sz.2.1
        have hsz3 := d'.sz.2.2
        have hsg := d.sz.2.2
        unfold Sz at hsz1 hsz2 hsz3 hsg
        rw [enc_sub (by lia)] at hsz1 hsz2 hsz3
        have hne : r.enc 51 ≠ [l] := fun q => hlr (by rw [← mem_enc (k := 51) (by lia), q]; exact List.mem_cons_self)
        (try k_fold)
        refine comp_tupleT (news := (D', { cls := .type "tuple", data := .seq #[.str (S (t.enc 51)) t1, .str (S (u.enc 51)) t2, .str (S (g.enc 51)) t3] }) :: (L' + 1 + 1, oR') :: (L' + 1, oL') :: rest) (o := { cls := .type "tuple", data := .seq #[.str (S (t.enc 51)) t1, .str (S (u.enc 51)) t2, .str (S (g.enc 51)) t3] }) (k := 0) (vs := [.str (S (t.enc 51)) t1, .str (S (u.enc 51)) t2, .str (S (g.enc 51)) t3])
          (MetJ ((D', { cls := .type "tuple", data := .seq #[.str (S (t.enc 51)) t1, .str (S (u.enc 51)) t2, .str (S (g.enc 51)) t3] }) :: (L' + 1 + 1, oR') :: (L' + 1, oL') :: rest) tk l (r.enc 51) (t.enc 51, t1) (u.enc 51, t2) (g.enc 51, t3)) rfl rfl rfl F9 ?hN List.mem_cons_self rfl rfl (by rw [sizeLine_eq]; simp) ?hJ MetJ.mono ?turn ?done
        case hN =>
          intro p hp
          refine N9 p ?_
          revert p hp
          (repeat' (first | exact List.forall_mem_nil _ | refine List.forall_mem_cons.mpr ⟨by (repeat (first | with_reducible assumption | with_reducible exact List.mem_cons_self | apply List.mem_cons_of_mem)), ?_⟩))
          (try (intro p9 hp9; repeat (first | exact hp9 | exact List.mem_append_left _ hp9 | exact List.mem_append_right _ hp9 | apply List.mem_cons_of_mem)))
        case hJ => exact MetJ.zero (le3 htok.2.2.2)
        case turn =>
          intro g0 I
          refine cturn_name ?_
          rintro i v ys nx C oC D2 M h2 tk2 own E' hi hv hJ hyl2 hC hM hw hof ho hCD F3 N3
          intro Qe
          (try k_fold)
          clear F9 N9
          obtain rfl := hJ.1
          obtain ⟨q, tq, hq, rfl, hqq⟩ := met_item (q1 := (t.enc 51, t1)) (q2 := (u.enc 51, t2)) (q3 := (g.enc 51, t3)) hv
          have hq1 : q.length ≤ 400000 := by rcases hqq with h | h | h <;> rw [h] <;> assumption
          have hq2 : (put l (r.enc 51) q).length ≤ 400000 := by rcases hqq with h | h | h <;> rw [h] <;> assumption
          k_steps
          rename (_ ∨ _) => j9
          (try dsimp only)
          refine cend ((D', { cls := .type "tuple", data := .seq #[.str (S (t.enc 51)) t1, .str (S (u.enc 51)) t2, .str (S (g.enc 51)) t3] }) :: (L' + 1 + 1, oR') :: (L' + 1, oL') :: rest) (by k_asm) (by k_asm) (by (repeat (first | assumption | exact List.mem_cons_self | apply List.mem_cons_of_mem))) (by (repeat (first | assumption | exact List.mem_cons_self | apply List.mem_cons_of_mem))) (by (intro p9 hp9; repeat (first | exact hp9 | exact List.mem_append_left _ hp9 | exact List.mem_append_right _ hp9 | apply List.mem_cons_of_mem))) (by (intro p9 hp9; repeat (first | exact hp9 | exact List.mem_append_left _ hp9 | exact List.mem_append_right _ hp9 | apply List.mem_cons_of_mem))) ?_ ?_
          · exact ho
          · exact hJ.step hq ht1 ht2 ht3 h12 j9
        case done =>
          rintro g0 tk3 ys nx hJ D3 h3 tk4 hg4 F4 N4 hD4 hgt4
          clear F9 N9
          obtain ⟨rfl, hlo3, _, _, _, hJ⟩ := hJ
          obtain ⟨a, b, c, rfl, hta, htb, htc, hab⟩ := hJ rfl
          (try dsimp only at hg4)
          rw [← enc_sub (by lia), ← enc_sub (by lia), ← enc_sub (by lia)] at N4
          k_steps
          rename Fr _ _ _ _ => F9
          rename News _ _ _ _ => N9
          (try simp only [List.push_toArray] at N9)
          (first | refine hE3 _ _ _ ?_ | refine hE2 _ _ _ ?_ | refine hE1 _ _ _ ?_)
          refine wendT_next (n', (t.sub l r, u.sub l r, g.sub l r), (a, b, c), oR', oL') F9 N9 ?h1 ?h2 ?h3 (Nat.lt_succ_self _)
          case h1 =>
            (repeat' (first | exact List.forall_mem_nil _ | refine List.forall_mem_cons.mpr ⟨by (repeat (first | with_reducible assumption | with_reducible exact List.mem_cons_self | apply List.mem_cons_of_mem)), ?_⟩))
            (try (intro p9 hp9; repeat (first | exact hp9 | exact List.mem_append_left _ hp9 | exact List.mem_append_right _ hp9 | apply List.mem_cons_of_mem)))
          case h2 => repeat' (first | exact List.forall_mem_nil _ | refine List.forall_mem_cons.mpr ⟨by first | rfl | (dsimp only; refine Eq.trans (b := some (Value.int _ _)) rfl ?_; refine int_cong ?_; simp only [List.length_append, List.length_cons, List.length_nil]; lia), ?_⟩)
          case h3 =>
            have hro : r.Ok := by assumption
            refine ⟨d', ⟨Tr.Ok.sub hro ht, Tr.Ok.sub hro hu', Tr.Ok.sub hro hg⟩, ⟨hta.1, lt3 hta.2 hg4⟩, ⟨htb.1, lt3 htb.2 hg4⟩, ⟨htc.1, lt3 htc.2 hg4⟩, hab, ⟨_, dR'⟩, ⟨_, dL'⟩⟩
      · exfalso
        rename (_ = false) => hin
        rename (1 < _) => hlen
        have hx : ∃ a b, r = .nd a b ∧ x = r ∧ y = .lf l := by
          rcases hxy with h | h
          · exfalso
            rw [h.1] at hlen
            simp [Tr.enc] at hlen
          · exact h
        obtain ⟨_, _, _, hx1, hy1⟩ := hx
        have hx2 := hx1.symm
        subst hx2 hy1
        have hl256 : 256 ≤ l := hyo
        exact hlr ((mem_enc (k := 51) (by lia) _).mp (in_one hin))
      · rename_i zh0 zt1 zh1 zk1 gA zh2 tX zk2 jX zt2 zh3 zk3 gB zh4 tY zk4 jY zD1 zh5 zl1 zh6 zh7 oL' dL' zh8 oR' dR' hlen hin D' zh9 F9 N9 l9
        (try dsimp only at gA gB jX jY)
        have hx : x = .lf l ∧ y = r := by
          rcases hxy with h | ⟨a, b, e1, e2, e3⟩
          · exact h
          · exfalso
            apply hlen
            have := Tr.enc_len 51 x
            rw [e2, e1] at this ⊢
            have h1 := Tr.lv_pos a
            have h2 := Tr.lv_pos b
            simp only [Tr.enc, Tr.lv, List.length_cons, List.length_append] at this ⊢
            lia
        obtain ⟨hx1, hy1⟩ := hx
        have hy2 := hy1.symm
        subst hx1 hy2
        have hl256 : 256 ≤ l := hxo
        have htok := tok_apart hgt2 gA jX gB jY ht1 ht2 h12
        have hX0 : tX ≠ 0 := htok.1
        have hY0 : tY ≠ 0 := htok.2.1
        have hXY : tX ≠ tY := htok.2.2.1
        have hsz1 := d'.sz.1
        have hsz2 := d'.sz.2.1
        have hsz3 := d'.sz.2.2
        have hsg := d.sz.2.2
        unfold Sz at hsz1 hsz2 hsz3 hsg
        rw [enc_sub (by lia)] at hsz1 hsz2 hsz3
        have hne : r.enc 51 ≠ [l] := fun q => hlr (by rw [← mem_enc (k := 51) (by lia), q]; exact List.mem_cons_self)
        (try k_fold)
        refine comp_tupleT (news := (D', { cls := .type "tuple", data := .seq #[.str (S (t.enc 51)) t1, .str (S (u.enc 51)) t2, .str (S (g.enc 51)) t3] }) :: (L' + 1 + 1, oR') :: (L' + 1, oL') :: rest) (o := { cls := .type "tuple", data := .seq #[.str (S (t.enc 51)) t1, .str (S (u.enc 51)) t2, .str (S (g.enc 51)) t3] }) (k := 0) (vs := [.str (S (t.enc 51)) t1, .str (S (u.enc 51)) t2, .str (S (g.enc 51)) t3])
          (MetJ ((D', { cls := .type "tuple", data := .seq #[.str (S (t.enc 51)) t1, .str (S (u.enc 51)) t2, .str (S (g.enc 51)) t3] }) :: (L' + 1 + 1, oR') :: (L' + 1, oL') :: rest) tk l (r.enc 51) (t.enc 51, t1) (u.enc 51, t2) (g.enc 51, t3)) rfl rfl rfl F9 ?hN List.mem_cons_self rfl rfl (by rw [sizeLine_eq]; simp) ?hJ MetJ.mono ?turn ?done
        case hN =>
          intro p hp
          refine N9 p ?_
          revert p hp
          (repeat' (first | exact List.forall_mem_nil _ | refine List.forall_mem_cons.mpr ⟨by (repeat (first | with_reducible assumption | with_reducible exact List.mem_cons_self | apply List.mem_cons_of_mem)), ?_⟩))
          (try (intro p9 hp9; repeat (first | exact hp9 | exact List.mem_append_left _ hp9 | exact List.mem_append_right _ hp9 | apply List.mem_cons_of_mem)))
        case hJ => exact MetJ.zero (le3 htok.2.2.2)
        case turn =>
          intro g0 I
          refine cturn_name ?_
          rintro i v ys nx C oC D2 M h2 tk2 own E' hi hv hJ hyl2 hC hM hw hof ho hCD F3 N3
          intro Qe
          (try k_fold)
          clear F9 N9
          obtain rfl := hJ.1
          obtain ⟨q, tq, hq, rfl, hqq⟩ := met_item (q1 := (t.enc 51, t1)) (q2 := (u.enc 51, t2)) (q3 := (g.enc 51, t3)) hv
          have hq1 : q.length ≤ 400000 := by rcases hqq with h | h | h <;> rw [h] <;> assumption
          have hq2 : (put l (r.enc 51) q).length ≤ 400000 := by rcases hqq with h | h | h <;> rw [h] <;> assumption
          k_steps
          rename (_ ∨ _) => j9
          (try dsimp only)
          refine cend ((D', { cls := .type "tuple", data := .seq #[.str (S (t.enc 51)) t1, .str (S (u.enc 51)) t2, .str (S (g.enc 51)) t3] }) :: (L' + 1 + 1, oR') :: (L' + 1, oL') :: rest) (by k_asm) (by k_asm) (by (repeat (first | assumption | exact List.mem_cons_self | apply List.mem_cons_of_mem))) (by (repeat (first | assumption | exact List.mem_cons_self | apply List.mem_cons_of_mem))) (by (intro p9 hp9; repeat (first | exact hp9 | exact List.mem_append_left _ hp9 | exact List.mem_append_right _ hp9 | apply List.mem_cons_of_mem))) (by (intro p9 hp9; repeat (first | exact hp9 | exact List.mem_append_left _ hp9 | exact List.mem_append_right _ hp9 | apply List.mem_cons_of_mem))) ?_ ?_
          · exact ho
          · exact hJ.step hq ht1 ht2 ht3 h12 j9
        case done =>
          rintro g0 tk3 ys nx hJ D3 h3 tk4 hg4 F4 N4 hD4 hgt4
          clear F9 N9
          obtain ⟨rfl, hlo3, _, _, _, hJ⟩ := hJ
          obtain ⟨a, b, c, rfl, hta, htb, htc, hab⟩ := hJ rfl
          (try dsimp only at hg4)
          rw [← enc_sub (by lia), ← enc_sub (by lia), ← enc_sub (by lia)] at N4
          k_steps
          rename Fr _ _ _ _ => F9
          rename News _ _ _ _ => N9
          (try simp only [List.push_toArray] at N9)
          (first | refine hE3 _ _ _ ?_ | refine hE2 _ _ _ ?_ | refine hE1 _ _ _ ?_)
          refine wendT_next (n', (t.sub l r, u.sub l r, g.sub l r), (a, b, c), oR', oL') F9 N9 ?h1 ?h2 ?h3 (Nat.lt_succ_self _)
          case h1 =>
            (repeat' (first | exact List.forall_mem_nil _ | refine List.forall_mem_cons.mpr ⟨by (repeat (first | with_reducible assumption | with_reducible exact List.mem_cons_self | apply List.mem_cons_of_mem)), ?_⟩))
            (try (intro p9 hp9; repeat (first | exact hp9 | exact List.mem_append_left _ hp9 | exact List.mem_append_right _ hp9 | apply List.mem_cons_of_mem)))
          case h2 => repeat' (first | exact List.forall_mem_nil _ | refine List.forall_mem_cons.mpr ⟨by first | rfl | (dsimp only; refine Eq.trans (b := some (Value.int _ _)) rfl ?_; refine int_cong ?_; simp only [List.length_append, List.length_cons, List.length_nil]; lia), ?_⟩)
          case h3 =>
            have hro : r.Ok := by assumption
            refine ⟨d', ⟨Tr.Ok.sub hro ht, Tr.Ok.sub hro hu', Tr.Ok.sub hro hg⟩, ⟨hta.1, lt3 hta.2 hg4⟩, ⟨htb.1, lt3 htb.2 hg4⟩, ⟨htc.1, lt3 htc.2 hg4⟩, hab, ⟨_, dR'⟩, ⟨_, dL'⟩⟩
      · exfalso
        rename (_ = false) => hin
        rename (¬ 1 < _) => hlen
        have hx : x = .lf l ∧ y = r := by
          rcases hxy with h | ⟨a, b, e1, e2, e3⟩
          · exact h
          · exfalso
            apply hlen
            have := Tr.enc_len 51 x
            rw [e2, e1] at this ⊢
            have h1 := Tr.lv_pos a
            have h2 := Tr.lv_pos b
            simp only [Tr.enc, Tr.lv, List.length_cons, List.length_append] at this ⊢
            lia
        obtain ⟨hx1, hy1⟩ := hx
        have hy2 := hy1.symm
        subst hx1 hy2
        have hl256 : 256 ≤ l := hxo
        exact hlr ((mem_enc (k := 51) (by lia) _).mp (in_one hin))

end
section
/-- an object of the ledger that is surely not the pile, nor its dict -/
noncomputable def Apart (x d : Addr) (p : Addr × Obj) : Prop := (@Ne Nat p.1 x ∧ @Ne Nat p.1 d) ∨ (∃ c, p.2.cls = .type c ∧ c ≠ "dict")
theorem apart_ne {h₀ h : Heap} {L x d : Addr} {vs : List Value} {n : Nat} {hh : Int} {kt : Tok} {iv : Value} {R : Led} (N : News h₀ L h (acc x d vs n hh kt iv R)) (hR : ∀ p ∈ R, Apart x d p) : (∀ p ∈ R, p.1 ≠ x) ∧ (∀ p ∈ R, p.1 ≠ d) := by
  have hx := (N _ List.mem_cons_self).1
  have hd := (N _ (List.mem_cons_of_mem _ List.mem_cons_self)).1
  refine ⟨fun p hp e => ?_, fun p hp e => ?_⟩
  · have h1 := (N p (List.mem_cons_of_mem _ (List.mem_cons_of_mem _ hp))).1
    rcases hR p hp with a | ⟨c, hc, _⟩
    · exact a.1 e
    · rw [e, hx] at h1
      have := Option.some.inj h1
      rw [← this] at hc
      cases hc
  · have h1 := (N p (List.mem_cons_of_mem _ (List.mem_cons_of_mem _ hp))).1
    rcases hR p hp with a | ⟨c, hc, hne⟩
    · exact a.2 e
    · rw [e, hd] at h1
      have := Option.some.inj h1
      rw [← this] at hc
      injection hc with hc
      exact hne hc.symm
theorem Does.of_news {w : World} {D U : Nat} {f : Value} {args : List Value} {news : Led} {post : (Value → Led → Prop) → Prop} {P : Prop} (hP : ∀ (h₀ h : Heap) (L : Addr), News h₀ L h news → P) (H : P → Does w D U f args news post) : Does w D U f args news post := by
  intro dp un gd env outer A₀ base h₀ L m sH sG sD sT sO R p loose mean mg mb hf hk B F X N
  exact H (hP _ _ _ N) dp un gd env outer A₀ base h₀ L m sH sG sD sT sO R p loose mean mg mb hf hk B F X N
theorem push_ (w : World) {x d n hh kt iv} {vs : List Value} {R : Led} {a b : Str} {ta tb : Tok} (hdx : @Ne Nat d x) (hR : ∀ p ∈ R, Apart x d p) (hz : vs.length ≤ 1000) :
    Does w 10 100 (.ref 87) [.ref x, .str a ta, .str b tb] (acc x d vs n hh kt iv R)
      (fun K => ∀ q n₂, (∀ p ∈ acc x d vs n hh kt iv R, p.1 < q) → K .none ((q, { cls := .type "tuple", data := .seq [.str a ta, .str b tb].toArray }) :: acc x d (vs ++ [.ref q]) n₂ hh kt iv R)) :=
  Does.of_news (fun _ _ _ N => apart_ne N hR) fun h => acc_push w x d n hh kt iv vs R a b ta tb hdx h.1 hz
theorem pop_ (w : World) {x d n hh kt iv} {vs : List Value} {v : Value} {R : Led} (hdx : @Ne Nat d x) (hR : ∀ p ∈ R, Apart x d p) (hz : vs.length < 1000) :
    Does w 20 200 (.ref 103) [.ref x] (acc x d (vs ++ [v]) n hh kt iv R) (fun K => K v (acc x d vs (n + 1) hh kt iv R)) :=
  Does.of_news (fun _ _ _ N => apart_ne N hR) fun h => acc_pop w x d n hh kt iv vs v R hdx h.1 hz
theorem popfrom_ (w : World) {x d n hh kt iv} {vs : List Value} {R : Led} (hdx : @Ne Nat d x) (hR : ∀ p ∈ R, Apart x d p) (hz : vs.length < 1000) :
    Does w 20 200 (.ref 95) [.ref x] (acc x d vs n hh kt iv R) (fun K => ∀ q n₂, (∀ p ∈ acc x d [] n₂ hh kt iv R, p.1 < q) → K (.ref q) ((q, listOf vs.toArray 0) :: acc x d [] n₂ hh kt iv R)) :=
  Does.of_news (fun _ _ _ N => apart_ne N hR) fun h => acc_popfrom w x d n hh kt iv vs R hdx h.1 hz
theorem reset_ (w : World) {x d l n hh kt iv c} {vs us : List Value} {R : Led} (hdx : @Ne Nat d x) (hR : ∀ p ∈ R, Apart x d p) (hl : Apart x d (l, listOf us.toArray c)) (hz : vs.length < 1000) (hz2 : us.length < 1000) :
    Does w 20 200 (.ref 125) [.ref x, .ref l] ((l, listOf us.toArray c) :: acc x d vs n hh kt iv R) (fun K => ∀ n₂ iv', K .none (acc x d us n₂ hh kt iv' R)) := by
  refine Does.of_news (P := ((∀ p ∈ R, p.1 ≠ x) ∧ (∀ p ∈ R, p.1 ≠ d)) ∧ @Ne Nat l x ∧ @Ne Nat l d) (fun h₀ h L N => ?_) fun h => acc_reset w x d l n hh kt iv c vs us R hdx h.1.1 h.1.2 h.2.1 h.2.2 hz hz2
  refine ⟨apart_ne (fun p hp => N p (List.mem_cons_of_mem _ hp)) hR, ?_⟩
  have := apart_ne (R := (l, listOf us.toArray c) :: R) (x := x) (d := d) (vs := vs) (n := n) (hh := hh) (kt := kt) (iv := iv) (h₀ := h₀) (h := h) (L := L) (fun p hp => N p (by
    rcases List.mem_cons.mp hp with rfl | hp
    · exact List.mem_cons_of_mem _ List.mem_cons_self
    · rcases List.mem_cons.mp hp with rfl | hp
      · exact List.mem_cons_of_mem _ (List.mem_cons_of_mem _ List.mem_cons_self)
      · rcases List.mem_cons.mp hp with rfl | hp
        · exact List.mem_cons_self
        · exact List.mem_cons_of_mem _ (List.mem_cons_of_mem _ (List.mem_cons_of_mem _ hp)))) (fun p hp => by
    rcases List.mem_cons.mp hp with rfl | hp
    · exact hl
    · exact hR p hp)
  exact ⟨this.1 _ List.mem_cons_self, this.2 _ List.mem_cons_self⟩
section
variable {h₀ h : Heap} {L : Addr}
theorem pull1 {a x y : Addr × Obj} {R : Led} (N : News h₀ L h (a :: x :: y :: R)) : News h₀ L h (x :: y :: a :: R) := fun p hp => N p (mem_app_swap (l := [x, y]) (r := [a]) p hp)
theorem pull2 {a b x y : Addr × Obj} {R : Led} (N : News h₀ L h (a :: b :: x :: y :: R)) : News h₀ L h (x :: y :: a :: b :: R) := fun p hp => N p (mem_app_swap (l := [x, y]) (r := [a, b]) p hp)
theorem pull3 {a b c x y : Addr × Obj} {R : Led} (N : News h₀ L h (a :: b :: c :: x :: y :: R)) : News h₀ L h (x :: y :: a :: b :: c :: R) := fun p hp => N p (mem_app_swap (l := [x, y]) (r := [a, b, c]) p hp)
theorem pull4 {a b c d x y : Addr × Obj} {R : Led} (N : News h₀ L h (a :: b :: c :: d :: x :: y :: R)) : News h₀ L h (x :: y :: a :: b :: c :: d :: R) := fun p hp => N p (mem_app_swap (l := [x, y]) (r := [a, b, c, d]) p hp)
/-- the list l is in front, the pile behind some others -/
theorem pullr {a b x y : Addr × Obj} {R : Led} (N : News h₀ L h (a :: b :: x :: y :: R)) : News h₀ L h (a :: x :: y :: b :: R) := fun p hp => N p (mem_app_mono (l := [a]) (mem_app_swap (l := [x, y]) (r := [b])) p hp)
theorem pullr2 {a b c x y : Addr × Obj} {R : Led} (N : News h₀ L h (a :: b :: c :: x :: y :: R)) : News h₀ L h (a :: x :: y :: b :: c :: R) := fun p hp => N p (mem_app_mono (l := [a]) (mem_app_swap (l := [x, y]) (r := [b, c])) p hp)
theorem pullr3 {a b c d x y : Addr × Obj} {R : Led} (N : News h₀ L h (a :: b :: c :: d :: x :: y :: R)) : News h₀ L h (a :: x :: y :: b :: c :: d :: R) := fun p hp => N p (mem_app_mono (l := [a]) (mem_app_swap (l := [x, y]) (r := [b, c, d])) p hp)
end

end
section
section
open PySem.Calls LCg
variable {prog : Program} {w : World} {A : Around} {sH : Heap} {sG : Array GenState} {sD : Drawn} {sT : Nat} {sO : OsState} {env : Env} {h₀ : Heap} {L : Addr} {m : Str → Option Value}
theorem range_size (n : Nat) : Builtin.Range.rangeSize 0 n 1 = n := by
  unfold Builtin.Range.rangeSize
  simp
  try lia
theorem range_small (n : Nat) (hn : n ≤ 1000000) : Builtin.Range.small 0 n 1 = true := by
  unfold Builtin.Range.small
  rw [range_size]
  simp [Builtin.Range.rangeFitsLong]
  lia
theorem range_made {n : Nat} {t : Tok} {E : Value → Shared → Prop} {Q : Value → Shared → Prop} (hn : n ≤ 1000000)
    (h : ∀ h' tk, sH.objs.size + 2 = h'.objs.size → IsRangeIter h' (sH.objs.size + 1) 0 n 1 → (∀ b o, sH.get? b = some o → h'.get? b = some o) → Q (.ref (sH.objs.size + 1)) (Shared.mk h' sG sD tk sO)) :
    wpAny (model prog w) A (call (.type "range") [.int (n : Int) t]) (fun xv s₁ => wpAny (model prog w) A (pyIter xv) Q E s₁) E (Shared.mk sH sG sD sT sO) := by
  refine call_range_1 ?_
  refine wpAny_pyIter_range (IsRange.new _ _ _ _ _ _ _) (range_small n hn) ?_
  have e := range_size n
  rw [e]
  refine Eq.mp ?_ (h ((sH.push { cls := .type "range", data := .fields #[.int 0 sT, .int (n : Int) t, .int 1 (sT + 1)] }).push { cls := .type "range_iterator", data := .fields #[rawInt 0, rawInt n, rawInt 1] }) (sT + 1 + 1) ?_ ?_ fun b o e => Heap.get?_push_of_some _ (Heap.get?_push_of_some _ e))
  · show Q (.ref (sH.objs.size + 1)) _ = Q (.ref (sH.push _).objs.size) _
    rw [Heap.size_push]
  · rw [Heap.size_push, Heap.size_push]
  · have := Heap.get?_push_size (sH.push { cls := .type "range", data := .fields #[.int 0 sT, .int (n : Int) t, .int 1 (sT + 1)] }) (o := { cls := .type "range_iterator", data := .fields #[rawInt 0, rawInt n, rawInt 1] }) rfl
    rw [Heap.size_push] at this
    exact this
theorem comp_range {elt : Expr} {x : Str} {px : Pos} {ifs : List Expr} {scope : Scope} {cl : List (Str × Addr)} {Fin : Array GenState → Drawn → Nat → OsState → List Value → Led → Prop} {n : Nat} {t : Tok} {news : Led} {E : Value → Shared → Prop} (J : Nat → List Value → Led → Prop)
    (hh : A.handled = none) (hkind : scope.kind = .function) (hx : scope.names.lookup x = some .local) (F : Fr h₀ L sH m) (N : News h₀ L sH news) (hsz : n ≤ 1000000)
    (hJ : J 0 [] news) (turn : ∀ (g : Heap) (tk : Nat) I, CTurn prog w A h₀ L m env elt ifs scope cl [I] [I] n (fun i bs => ∃ v, (∃ t, v = .int ((0 : Int) + i * 1) t) ∧ bs = [(x, v)]) (fun i _ => J i) sG sD sO) (done : ∀ (g : Heap) tk ys nx, J n ys nx → Fin sG sD tk sO ys nx) :
    wpAny (model prog w) A (call (.type "range") [.int (n : Int) t]) (fun xv s₁ => wpAny (model prog w) A (pyIter xv) (fun it s₂ => CompAt prog w A h₀ L m env elt (.Name x px) ifs scope cl Fin it s₂) E s₁) E (Shared.mk sH sG sD sT sO) := by
  have hLs : L < sH.objs.size := F.ns.lt
  have hab : h₀.objs.size ≤ L := F.above
  refine range_made hsz fun h' tk hsize hit hk => ?_
  have W := Walks.range (prog := prog) (w := w) hh (sH.objs.size + 1) 0 1 n
  refine ⟨sH.objs.size + 1, _, _, _, _, _, _, _, news, fun i _ => J i, rfl, KTurns.ofWalks W (fun i v s₀ Q E st q => wpAny_of_eq (a := ()) rfl q), takes_name hkind hx, W.self, by rw [sizeLine_eq]; lia, fun i h st b hb => ?_, ?_, fun b hb => ?_, ?_, fun b hb => ?_, F.keeps hk, N.grown hk, fun p hp hI => ?_, hJ, fun _ _ _ _ _ _ h => h, turn h' tk _, fun tk' ys nx h => done h' tk' ys nx h⟩
  · rw [List.mem_singleton.mp hb]; exact ⟨_, st⟩
  · simpa using hit
  · show b < h'.objs.size
    rw [← hsize, List.mem_singleton.mp hb]
    exact Nat.lt_succ_self _
  · intro hI
    exact ktu_ne 1 hLs (List.mem_singleton.mp hI)
  · rw [List.mem_singleton.mp hb]; exact ktu_new F (Nat.le_add_right _ _)
  · exact ktu_ne 1 (Heap.lt_size (N p hp).1) (List.mem_singleton.mp hI)
theorem turns_range {σ : Type} {x : Str} {px : Pos} {body : List Stmt} {n : Nat} {t : Tok} {m₀ : Str → Option Value} {news : Led} {Q : Flow → Shared → Prop}
    (ps : σ → List (Str × Value)) (led : σ → Led) (J : Nat → σ → Prop) (c₀ : σ) (hh : A.handled = none) (hsz : n ≤ 1000000)
    (F : Fr h₀ env.locals sH m₀) (N : News h₀ env.locals sH news)
    (h1 : ∀ p ∈ led c₀, p ∈ news) (h2 : ∀ p ∈ ps c₀, m₀ p.1 = some p.2) (h3 : J 0 c₀)
    (turn : ∀ i v c u h tk own I (g : Heap) (tk₀ : Nat), i < n → (∃ t, v = .int ((0 : Int) + i * 1) t) → J i c → (∀ p ∈ led c, p.1 ≠ I) → (∃ o, (I, o) ∈ own) → (∀ p ∈ own, p.1 = I) → Fr h₀ env.locals h (kstB u (ps c)) → News h₀ env.locals h (led c ++ own) →
      let Qw := FEnd h₀ env.locals sG sD sO [I] own ps led (J (i + 1)) Q
      wpAny (model prog w) A (assign (.Name x px) env v) (fun _ s₃ => wpAny (model prog w) A (execs body env) Qw (fun _ _ => False) s₃) (fun _ _ => False) (Shared.mk h sG sD tk sO))
    (done : ∀ c u h tk (g : Heap) (tk₀ : Nat), J n c → Fr h₀ env.locals h (kstB u (ps c)) → News h₀ env.locals h (led c) → Q .next (Shared.mk h sG sD tk sO)) :
    wpAny (model prog w) A (call (.type "range") [.int (n : Int) t]) (fun xv s₁ => wpAny (model prog w) A (pyIter xv) (fun it s₂ => TurnsAt prog w A h₀ env (.Name x px) body Q (fun _ _ => False) it s₂) (fun _ _ => False) s₁) (fun _ _ => False) (Shared.mk sH sG sD sT sO) := by
  have hLs : env.locals < sH.objs.size := F.ns.lt
  refine range_made hsz fun h' tk hsize hit hk => ?_
  refine turns_k (target := .Name x px) (sH := h') (sG := sG) (sD := sD) (sT := tk) (sO := sO) (KTurns.ofWalks (Walks.range (prog := prog) (w := w) hh (sH.objs.size + 1) 0 1 n) (fun i v s₀ Q E st q => wpAny_of_eq (a := ()) rfl q)) ps led J c₀ (fun i h st b hb => ?_) ?_ (fun b hb => ?_) ?_
    (F.keeps hk) (N.grown hk) h1 (fun p hp hI => ?_) h2 h3 ?_ ?_
  · rw [List.mem_singleton.mp hb]; exact ⟨_, st⟩
  · intro hI
    exact ktu_ne 1 hLs (List.mem_singleton.mp hI)
  · rw [List.mem_singleton.mp hb]; exact ktu_new F (Nat.le_add_right _ _)
  · simpa using hit
  · exact ktu_ne 1 (Heap.lt_size (N p (h1 p hp)).1) (List.mem_singleton.mp hI)
  · intro i v c u h tk₁ own hi hv hJ hof hw hfp9 F₁ N₁
    exact turn i v c u h tk₁ own (sH.objs.size + 1) h' tk hi hv hJ (fun p hp e => hof p hp (by rw [e]; exact List.mem_singleton.mpr rfl)) (hw _ (List.mem_singleton.mpr rfl)) (fun p hp => by simpa using hfp9 p hp) F₁ N₁
  · intro c u h tk₁ hJ F₁ N₁
    exact done c u h tk₁ h' tk hJ F₁ N₁
end

end
section
section
open PySem.Calls LCg Builtin.Str
variable {prog : Program} {w : World} {A : Around} {E : Value → Shared → Prop} {s : Shared} {sH : Heap} {sG : Array GenState} {sD : Drawn} {sT : Nat} {sO : OsState} {h₀ : Heap} {L : Addr} {m : Str → Option Value} {news : Led} {Q : Value → Shared → Prop}
theorem sub_str0 {value slice : PySem.Expr} {l r : List Nat} {c : Nat} {t u : Tok} (hx : l = c :: r) (hl : l.length ≤ 1000000) (h : Q (.str (S [c]) sT) (Shared.mk sH sG sD (sT + 1) sO))
    (hs : subscripted slice false (.str (S l) t) (.int 0 u) = operate [.str (S l) t, .int 0 u] (getItem (.str (S l) t) (.int 0 u)) := by with_unfolding_all rfl)
    (ht : ∀ r, letTemporaryGo value (.str (S l) t) r = pure () := by intro _; with_unfolding_all rfl) :
    wpAny (model prog w) A (subscriptTail value slice (.str (S l) t) (.int 0 u)) Q E (Shared.mk sH sG sD sT sO) :=
  sub_str (p := 0) (by rw [hx]; rfl) hl h hs ht
theorem cut_from {value slice : PySem.Expr} {l pre z : List Nat} {t ui : Tok} {i : Int} (hl : l = pre ++ z) (hz : l.length ≤ 1000000) (ei : i = (pre.length : Int))
    (hF : Fr h₀ L sH m) (N : News h₀ L sH news)
    (h : ∀ h' t' k, Fr h₀ L h' m → News h₀ L h' news → Q (.str (S z) t') (Shared.mk h' sG sD k sO))
    (hs : subscripted slice false (.str (S l) t) (.ref sH.objs.size) = operate [.ref sH.objs.size, .str (S l) t] (getItem (.str (S l) t) (.ref sH.objs.size)) := by with_unfolding_all rfl)
    (ht : ∀ r, letTemporaryGo value (.str (S l) t) r = pure () := by intro _; with_unfolding_all rfl) :
    wpAny (model prog w) A (subscriptTail value slice (.str (S l) t) (.ref sH.objs.size)) Q E (Shared.mk (sH.push { cls := .type "slice", data := .fields #[.int i ui, .none, .none] }) sG sD sT sO) := by
  subst ei
  refine PyProof.Rows.slice_strN_sn (s := ⟨sH, sG, sD, sT, sO⟩) hF N (fun h' t' k F' N' => ?_) hs ht (by rw [S_len, sizeLine_eq]; lia)
  have e' : Txt.slice (S l) (some (pre.length : Int)) none = S z := by
    have hll : (S l).cps.toList.length = l.length := by simp
    rw [show Txt.slice (S l) (some (pre.length : Int)) none = StrLaws.sliceText (S l) (some (pre.length : Int)) none from rfl, StrLaws.sliceText_from ⟨by lia, by rw [hll, hl, List.length_append]; lia⟩]
    show S _ = S z
    congr 1
    have e1 : ((S l).cps.toList) = l := by simp
    have e2 : (((pre ++ z).length : Int) - (pre.length : Int)).toNat = z.length := by rw [List.length_append]; lia
    have e3 : ((pre.length : Int)).toNat = pre.length := by lia
    rw [e1, hl, e2, e3]
    simp
  rw [e']
  exact h h' t' k F' N'
theorem cut_head {value slice : PySem.Expr} {l z post : List Nat} {c : Nat} {t ui uj : Tok} {j : Int} (hl : l = c :: (z ++ post)) (hz : l.length ≤ 1000000) (ej : j = (([c] ++ z).length : Nat))
    (hF : Fr h₀ L sH m) (N : News h₀ L sH news)
    (h : ∀ h' t' k, Fr h₀ L h' m → News h₀ L h' news → (t' = t ∧ k = sT ∨ t' = sT ∧ k = sT + 1) → Q (.str (S z) t') (Shared.mk h' sG sD k sO))
    (hs : subscripted slice false (.str (S l) t) (.ref sH.objs.size) = operate [.ref sH.objs.size, .str (S l) t] (getItem (.str (S l) t) (.ref sH.objs.size)) := by with_unfolding_all rfl)
    (ht : ∀ r, letTemporaryGo value (.str (S l) t) r = pure () := by intro _; with_unfolding_all rfl) :
    wpAny (model prog w) A (subscriptTail value slice (.str (S l) t) (.ref sH.objs.size)) Q E (Shared.mk (sH.push { cls := .type "slice", data := .fields #[.int 1 ui, .int j uj, .none] }) sG sD sT sO) :=
  cut_part (pre := [c]) (z := z) (post := post) (by rw [hl]; simp) hz rfl (by rw [ej, List.length_append]) hF N h hs ht
theorem chr_S {n : Nat} {t : Tok} (hn : n ≤ 100000) (h : Q (.str (S [n]) sT) (Shared.mk sH sG sD (sT + 1) sO)) : wpAny (model prog w) A (call (.builtin "chr") [.int (n : Int) t]) Q E (Shared.mk sH sG sD sT sO) :=
  P.chr_of_int (by simp; lia) (by simpa using h)
theorem item_331 {value slice : Expr} {a : Addr} {k j : Nat} {u t1 t2 t3 : Tok} (N : News h₀ L s.heap news) (hm : (a, ls k [.int 3 t1, .int 3 t2, .int 1 t3]) ∈ news) (hj : j < 3) (h : ∀ t, Q (.int ((([3, 3, 1] : List Nat).getD j 0 : Nat) : Int) t) s)
    (hs : subscripted slice false (.ref a) (.int (j : Int) u) = operate [.ref a, .int (j : Int) u] (getItem (.ref a) (.int (j : Int) u)) := by with_unfolding_all rfl) :
    wpAny (model prog w) A (subscriptTail value slice (.ref a) (.int (j : Int) u)) Q E s := by
  have hl : s.heap.IsList a ([.int 3 t1, .int 3 t2, .int 1 t3] : List Value).toArray := News.isList N hm
  refine PyProof.Rows.tail_any hl.typeIs PySem.F.slot_list_getitem.lookup (PyProof.Rows.getItem_listL (x := .int ((([3, 3, 1] : List Nat).getD j 0 : Nat) : Int) (([t1, t2, t3] : List Tok).getD j 0)) hl (by lia) (by lia) ?_ (h _)) hs
  match j, hj with
  | 0, _ => rfl
  | 1, _ => rfl
  | 2, _ => rfl
  | j + 3, h => lia
end
theorem behind1 (w : World) {k : Nat} (hk : k < 256) {x : List Nat} {tr : Tr} {post : List Nat} (hx : x = k :: (tr.enc k ++ post)) (htr : tr.Ok) (hlen : x.length ≤ 1000000) (t t2 : Tok) (news : Led) :
    Does w 10 100 (.ref 183) [.str (S x) t, .int 1 t2] news (fun K => ∀ t', K (.int (([k] ++ tr.enc k).length : Nat) t') news) := by
  have := behind' w hk (x := x) (pre := [k]) (post := post) (by rw [hx]; simp) htr hlen t t2 news
  rw [List.length_append]
  exact this
/-- a tuple of the pile -/
noncomputable abbrev tupO (a : Tok) (z : List Nat) (b : Tok) : Obj := { cls := .type "tuple", data := .seq [.str (Str.ofString "") a, .str (S z) b].toArray }
/-- what lies on a pile: texts, bottom first -/
noncomputable def PileV (k : Nat) (R : Led) (ts : List Tr) (vs : List Value) : Prop := Paired (fun (t : Tr) v => ∃ q a b, v = .ref q ∧ (q, tupO a (t.enc k) b) ∈ R) ts vs
theorem pd_mono {α β : Type} {F G : α → β → Prop} (h : ∀ a b, F a b → G a b) {l : List α} {vs : List β} (p : Paired F l vs) : Paired G l vs := by
  induction p with
  | nil => exact .nil
  | cons x _ ih => exact .cons (h _ _ x) ih
theorem PileV.mono {k : Nat} {R R' : Led} (h : ∀ p ∈ R, p ∈ R') {ts : List Tr} {vs : List Value} (p : PileV k R ts vs) : PileV k R' ts vs := pd_mono (fun _ _ x => by
  obtain ⟨q, a, b, e, hm⟩ := x
  exact ⟨q, a, b, e, h _ hm⟩) p
theorem pd_snoc {α β : Type} {F : α → β → Prop} {a : α} : ∀ {l : List α} {vs : List β}, Paired F (l ++ [a]) vs → ∃ vs' b, vs = vs' ++ [b] ∧ F a b ∧ Paired F l vs'
  | [], _, h => by
    cases h with
    | cons h r => cases r; exact ⟨[], _, rfl, h, .nil⟩
  | _ :: _, _, h => by
    cases h with
    | cons h r =>
      obtain ⟨vs', b, rfl, h1, h2⟩ := pd_snoc r
      exact ⟨_ :: vs', b, rfl, h1, .cons h h2⟩
theorem PileV.snoc {k : Nat} {R : Led} {t : Tr} {ts : List Tr} {vs : List Value} (h : PileV k R (ts ++ [t]) vs) : ∃ vs' q a b, vs = vs' ++ [.ref q] ∧ (q, tupO a (t.enc k) b) ∈ R ∧ PileV k R ts vs' := by
  obtain ⟨vs', _, rfl, ⟨q, a, b, rfl, hm⟩, hr⟩ := pd_snoc h
  exact ⟨vs', q, a, b, rfl, hm, hr⟩
theorem PileV.add {k : Nat} {R : Led} {t : Tr} {q : Addr} {a b : Tok} {ts : List Tr} {vs : List Value} (h : PileV k R ts vs) (hm : (q, tupO a (t.enc k) b) ∈ R) : PileV k R (ts ++ [t]) (vs ++ [.ref q]) :=
  pd_append h (.cons ⟨q, a, b, rfl, hm⟩ .nil)
section
open PySem.Calls LCg
variable {prog : Program} {w : World} {A : Around} {E : Value → Shared → Prop} {s : Shared} {sH : Heap} {sG : Array GenState} {sD : Drawn} {sT : Nat} {sO : OsState} {h₀ : Heap} {L : Addr} {news : Led} {Q : Value → Shared → Prop}
theorem tup1 {value slice : Expr} {q : Addr} {a b u : Tok} {z : List Nat} (N : News h₀ L s.heap news) (hm : (q, tupO a z b) ∈ news) (h : Q (.str (S z) b) s)
    (hs : subscripted slice false (.ref q) (.int 1 u) = operate [.ref q, .int 1 u] (getItem (.ref q) (.int 1 u)) := by with_unfolding_all rfl) :
    wpAny (model prog w) A (subscriptTail value slice (.ref q) (.int 1 u)) Q E s :=
  PyProof.Rows.item_tupleT (N.isTup hm) (by decide) (by decide) rfl rfl h hs
end
theorem memOf {α : Type} {a : α} {l : List α} (h : a ∈ l) : List.Mem a l := h
/-- three pops, one after the other -/
noncomputable def V3 (vs0 : List Value) (a b c : Value) : Nat → List Value
  | 0 => vs0 ++ [c] ++ [b] ++ [a]
  | 1 => vs0 ++ [c] ++ [b]
  | 2 => vs0 ++ [c]
  | _ => vs0
noncomputable def Y3 (a b c : Value) : Nat → List Value
  | 0 => []
  | 1 => [a]
  | 2 => [a, b]
  | _ => [a, b, c]
theorem v3_step {k : Nat} {R : Led} {vs0 : List Value} {qx qy qz : Addr} {X Y Z : Tr} {ax bx ay by' az bz : Tok} (hx : (qx, tupO ax (X.enc k) bx) ∈ R) (hy : (qy, tupO ay (Y.enc k) by') ∈ R) (hz : (qz, tupO az (Z.enc k) bz) ∈ R) {i : Nat} (hi : i < 3) :
    ∃ q a z b, V3 vs0 (.ref qx) (.ref qy) (.ref qz) i = V3 vs0 (.ref qx) (.ref qy) (.ref qz) (i + 1) ++ [.ref q] ∧ (q, tupO a z b) ∈ R ∧
      Y3 (.str (S (X.enc k)) bx) (.str (S (Y.enc k)) by') (.str (S (Z.enc k)) bz) (i + 1) = Y3 (.str (S (X.enc k)) bx) (.str (S (Y.enc k)) by') (.str (S (Z.enc k)) bz) i ++ [.str (S z) b] := by
  match i, hi with
  | 0, _ => exact ⟨_, _, _, _, rfl, hx, rfl⟩
  | 1, _ => exact ⟨_, _, _, _, rfl, hy, rfl⟩
  | 2, _ => exact ⟨_, _, _, _, rfl, hz, rfl⟩
  | i + 3, h => lia
theorem v3_len {vs0 : List Value} {a b c : Value} (i : Nat) : (V3 vs0 a b c i).length ≤ vs0.length + 3 := by
  match i with
  | 0 => simp [V3]
  | 1 => simp [V3]
  | 2 => simp [V3]
  | i + 3 => simp [V3]
section
open PySem.Calls LCg
variable {prog : Program} {w : World} {A : Around} {E : Value → Shared → Prop} {s : Shared} {sH : Heap} {sG : Array GenState} {sD : Drawn} {sT : Nat} {sO : OsState} {h₀ : Heap} {L : Addr} {m : Str → Option Value} {Q : Value → Shared → Prop}
theorem exKeys {K : Frag} {P : Params} {a : Addr} {es : Array DictEntry} {n : Nat} (hl : K.lookup a = some ⟨.type "dict", none, .dict es n, #[]⟩) (hk : KeysLit P es.toList) :
    ∃ (es : Array DictEntry) (n : Nat), K.lookup a = some ⟨.type "dict", none, .dict es n, #[]⟩ ∧ KeysLit P es.toList := ⟨es, n, hl, hk⟩
theorem tokKeys (P : Params) : ∃ (es : Array DictEntry) (n : Nat), (hd.heap_39 P).lookup 148 = some ⟨.type "dict", none, .dict es n, #[]⟩ ∧ KeysLit P es.toList := by
  refine' exKeys ?l ?k
  case l => k_is
  case k => k_keys
theorem tokItem {value slice : PySem.Expr} {x : Str} {v : Value} {t : Tok} (F : Fr h₀ L sH m) (X : (hd.heap_39 w.params).In h₀) (e : nsIn (hd.heap_39 w.params) 148 x = some (some v))
    (h : Q v (Shared.mk sH sG sD (sT + 1) sO))
    (hs : subscripted slice false (.ref 148) (.str x t) = operate [.ref 148, .str x t] (getItem (.ref 148) (.str x t)) := by with_unfolding_all rfl) :
    wpAny (model prog w) A (subscriptTail value slice (.ref 148) (.str x t)) Q E (Shared.mk sH sG sD sT sO) := by
  obtain ⟨es, n, hl, hk⟩ := tokKeys w.params
  exact topItem_K F X hl hk e h hs
end

end
section
/-- the state of the loop of _law_front -/
structure FS where
  k : Nat
  ts : List Tr
  c : Nat
  tc : Tok
  vs : List Value
  n : Nat
  iv : Value
  R : Led
set_option maxRecDepth 100000 in
set_option maxHeartbeats 8000000 in
theorem front_ (w : World) {x d : Addr} {n k c y c' : Nat} {hh : Int} {kt tc : Tok} {iv : Value} {vs : List Value} {RR : Led} {ts rs : List Tr} (hdx : @Ne Nat d x) (hR : ∀ p ∈ RR, Apart x d p) (hP : PileV 49 RR ts.reverse vs) (hF : FrontB k ts c y c' rs) :
    Does w 40 400 (.ref 198) [.ref x, .int (c : Int) tc] (acc x d vs n hh kt iv RR) (fun K => ∀ (T : Addr) (ta tb : Tok) (vs' : List Value) (n₂ : Nat) (iv' : Value) (R' : Led), (∀ p ∈ RR, p ∈ R') → PileV 49 R' rs.reverse vs' → (∀ p ∈ R', Apart x d p) →
      K (.ref T) ((T, { cls := .type "tuple", data := .seq [.int (y : Int) ta, .int (c' : Int) tb].toArray }) :: acc x d vs' n₂ hh kt iv' R')) := by
  k_with_none
  k_with "my k_in" => first | with_reducible assumption | exact Frag.In.keeps (by with_reducible assumption) (Fr.keep (by with_reducible assumption))
  k_with "my k_ne" => (refine neN ?_; (try dsimp only); first | with_reducible assumption | (refine Ne.symm ?_; with_reducible assumption) | lia)
  k_with "my ROOM" => ((try dsimp only [Around.deeper, Around.mark, Around.in1]); first | exact room3 (by assumption) rfl | exact room2 (by assumption) rfl | lia)
  k_with "my ite" => first | (refine ite_pos (by with_reducible assumption) ?_) | (refine ite_neg (by with_reducible assumption) ?_) | (refine ite_pos (decide_eq_true (by with_reducible assumption)) ?_) | (refine ite_neg (Bool.eq_false_iff.mp (decide_eq_false (by with_reducible assumption))) ?_)
  k_with "my exec While" => (try k_fold); refine Stop.mk ?_
  k_with "my subscriptTail Name Name str int" => (refine sub_str (by assumption) (by assumption) ?_)
  k_with "my call builtin:ord" => (refine ord_S ?_)
  k_with "my binaryOp Add int int" => with_reducible first | (refine' add_lit 1 (by decide) ?_) | (refine' add_lit 2 (by decide) ?_) | refine add_nat ?_
  k_with "my binaryOp Sub int int" => with_reducible first | (refine' sub_lit 1 (by decide) (by first | with_reducible_and_instances lia | decide) ?_) | (refine' sub_lit 256 (by decide) (by first | with_reducible_and_instances lia | decide) ?_) | (refine' sub_lit 300 (by decide) (by first | with_reducible_and_instances lia | decide) ?_) | (refine' sub_nat (by first | with_reducible_and_instances lia | decide) ?_)
  k_with "my binaryOp Mod int int" => with_reducible first | (refine' mod_lit 3 (by decide) (by first | with_reducible_and_instances lia | decide) ?_) | (refine' mod_lit 2 (by decide) (by first | with_reducible_and_instances lia | decide) ?_) | (refine' mod_nat (by first | with_reducible_and_instances lia | decide) ?_)
  k_with "my binaryOp FloorDiv int int" => with_reducible first | (refine' div_lit 3 (by decide) (by first | with_reducible_and_instances lia | decide) (by decide) ?_) | (refine' div_lit 2 (by decide) (by first | with_reducible_and_instances lia | decide) (by decide) ?_) | fail
  k_with "my call builtin:len" => ((k_dflt (refine' len_L (by k_asm) (by k_mem) ?_ ?_)); (next => with_reducible_and_instances lia))
  k_with "my subscriptTail" => ((k_dflt (refine' item_L (by k_asm) (by k_mem) (by with_reducible assumption) ?_ ?_; k_whole)); (next => with_reducible_and_instances lia))
  k_with "my subscriptTail" => ((k_dflt (refine' item_C 0 (by exact rfl) (by k_asm) (by k_mem) (by with_reducible assumption) ?_ ?_; k_whole)); (next => decide))
  k_with "my subscriptTail Name Name ref int" => ((k_dflt (refine' item_L (by k_asm) (by k_mem) (by with_reducible assumption) ?_ ?_; k_whole)); (next => with_reducible_and_instances lia))
  k_with "my binaryOp Add ref ref" => (((k_dflt (refine' sum_L (by k_asm) (by k_asm) (by k_mem) (by k_mem) ?_ ?_)); (next => ((try rw [sizeLine_eq]); (try simp only [List.length_append, List.length_take, List.length_drop, List.length_cons, List.length_nil]); with_reducible_and_instances lia)); intro Dpzz hpzz Fpzz Npzz l1zz; (try k_lt l1zz))); (try revert l1zz); (try revert Npzz); (try revert Fpzz); (try revert hpzz); (try revert Dpzz); intros
  k_with "my subscriptTail Name Slice ref ref" => (((k_dflt (refine' cut_L _ (by k_asm) (by k_asm) (by k_mem) (by kmk_part) (by kmk_part) (by first | exact pick_from _ _ | exact pick_upto _ _) ?_ ?_ (by with_unfolding_all rfl) (by kmk_pure))); (next => ((try rw [sizeLine_eq]); with_reducible_and_instances lia)); intro Dpzz hpzz Fpzz Npzz l1zz; (try k_lt l1zz))); (try revert l1zz); (try revert Npzz); (try revert Fpzz); (try revert hpzz); (try revert Dpzz); intros
  k_with "my binaryOp Add str str" => (with_reducible first | ((refine' add_S ?_ ?_); (next => ((try rw [sizeLine_eq]); (try simp only [List.length_append, List.length_cons, List.length_nil]); with_reducible_and_instances lia)); intro tpzz tkpzz) | ((refine' add_CS [64] (by with_unfolding_all exact rfl) ?_ ?_); (next => ((try rw [sizeLine_eq]); (try simp only [List.length_append, List.length_cons, List.length_nil]); with_reducible_and_instances lia)); intro tpzz tkpzz) | ((refine' add_CS [34] (by with_unfolding_all exact rfl) ?_ ?_); (next => ((try rw [sizeLine_eq]); (try simp only [List.length_append, List.length_cons, List.length_nil]); with_reducible_and_instances lia)); intro tpzz tkpzz) | ((refine' add_CS [92] (by with_unfolding_all exact rfl) ?_ ?_); (next => ((try rw [sizeLine_eq]); (try simp only [List.length_append, List.length_cons, List.length_nil]); with_reducible_and_instances lia)); intro tpzz tkpzz) | ((refine' add_SC [34] (by with_unfolding_all exact rfl) ?_ ?_); (next => ((try rw [sizeLine_eq]); (try simp only [List.length_append, List.length_cons, List.length_nil]); with_reducible_and_instances lia)); intro tpzz tkpzz) | ((refine' add_SC [10] (by with_unfolding_all exact rfl) ?_ ?_); (next => ((try rw [sizeLine_eq]); (try simp only [List.length_append, List.length_cons, List.length_nil]); with_reducible_and_instances lia)); intro tpzz tkpzz)); (try revert tkpzz); (try revert tpzz); (try revert tkpzz); (try revert tpzz); (try revert tkpzz); (try revert tpzz); (try revert tkpzz); (try revert tpzz); (try revert tkpzz); (try revert tpzz); (try revert tkpzz); (try revert tpzz); intros
  k_with "my exec For" => (try k_fold); (k_dflt (refine For_k (F := by k_asm) ?_))
  k_with "my inplaceOp Add" => ((dsimp only; (with_reducible refine' iadd_S ?_ ?_); (next => ((try rw [sizeLine_eq]); (try simp only [List.length_append, List.length_cons, List.length_nil]); with_reducible_and_instances lia)); intro tpzz tkpzz)); (try revert tkpzz); (try revert tpzz); intros
  k_with "my exec Assign cons ListComp" => (try k_fold); (k_dflt (refine Assign_Lc_k (_F₀ := by k_asm) (by rfl) (by with_unfolding_all rfl) (by with_unfolding_all rfl) (by decide) (by rfl) (by decide) (by rfl) (by rfl) ?_))
  k_with "my eval ListComp" => (try k_fold); (k_dflt (refine Lc_k (_F₀ := by k_asm) (by with_unfolding_all rfl) (by decide) (by rfl) (by decide) ?_))
  k_with "my k_mem" => first | with_reducible assumption | (refine memOf ?_; with_reducible assumption)
  k_with "my call ref" => (((refine' Does.useG (pop_ _ ?_ ?_ ?_) (by k_asm) (by k_asm) (by k_asm) (by (first | with_reducible assumption | with_reducible exact pull1 (by k_asm) | with_reducible exact pull2 (by k_asm) | with_reducible exact pull3 (by k_asm) | with_reducible exact pull4 (by k_asm))) (by k_asm) rfl rfl (by walk_at "ROOM") (by walk_at "ROOM") ?_); (next => with_reducible assumption); (next => (repeat' (first | with_reducible assumption | exact List.forall_mem_nil _ | refine List.forall_mem_cons.mpr ⟨?_, ?_⟩ | refine List.forall_mem_append.mpr ⟨?_, ?_⟩ | exact .inr ⟨_, rfl, by decide⟩))); (next => ((try simp only [List.length_append, List.length_cons, List.length_nil]); lia)); intro h9zz k9zz F9zz N9zz g9zz; (try k_sweep))); (try revert g9zz); (try revert N9zz); (try revert F9zz); (try revert k9zz); (try revert h9zz); intros
  k_with "my call ref" => (((refine' Does.useG (push_ _ ?_ ?_ ?_) (by k_asm) (by k_asm) (by k_asm) (by (first | with_reducible assumption | with_reducible exact pull1 (by k_asm) | with_reducible exact pull2 (by k_asm) | with_reducible exact pull3 (by k_asm) | with_reducible exact pull4 (by k_asm))) (by k_asm) rfl rfl (by walk_at "ROOM") (by walk_at "ROOM") ?_); (next => with_reducible assumption); (next => (repeat' (first | with_reducible assumption | exact List.forall_mem_nil _ | refine List.forall_mem_cons.mpr ⟨?_, ?_⟩ | refine List.forall_mem_append.mpr ⟨?_, ?_⟩ | exact .inr ⟨_, rfl, by decide⟩))); (next => ((try simp only [List.length_append, List.length_cons, List.length_nil]); lia)); intro q9zz m9zz l9zz h9zz k9zz F9zz N9zz g9zz; (try k_lt l9zz); (try k_sweep))); (try revert l9zz); (try revert g9zz); (try revert N9zz); (try revert F9zz); (try revert k9zz); (try revert h9zz); (try revert m9zz); (try revert q9zz); intros
  k_with "my call ref" => ((refine' Does.useG (acc_count _ _ _ _ _ _ _ _ _) (by k_asm) (by k_asm) (by k_asm) (by (first | with_reducible assumption | with_reducible exact pull1 (by k_asm) | with_reducible exact pull2 (by k_asm) | with_reducible exact pull3 (by k_asm) | with_reducible exact pull4 (by k_asm))) (by k_asm) rfl rfl (by walk_at "ROOM") (by walk_at "ROOM") ?_; intro t9zz h9zz k9zz F9zz N9zz g9zz; (try k_sweep))); (try revert g9zz); (try revert N9zz); (try revert F9zz); (try revert k9zz); (try revert h9zz); (try revert t9zz); intros
  k_with "my call ref" => ((refine' Does.useG (isterminal _ _ _ _) (by k_asm) (by k_asm) (by k_asm) (by with_reducible assumption) (by k_asm) rfl rfl (by walk_at "ROOM") (by walk_at "ROOM") ?_; intro h9zz k9zz F9zz N9zz g9zz; (try k_sweep))); (try revert g9zz); (try revert N9zz); (try revert F9zz); (try revert k9zz); (try revert h9zz); intros
  k_with "my getMethod ref" => (k_dflt (refine' method_acc (by k_in) (by (refine' acc_at (by k_asm) (by k_mem) (by k_mem))) (by k_is) (by k_is) (by k_is) (by first | exact looks_typeIn (by k_in) (by k_is) | exact Looks.of_pure PySem.F.type_list_append) (by decide) (by rfl) ?_; k_whole))
  k_with "my subscriptTail" => (k_dflt (refine' tup1 (by k_asm) (by k_mem) ?_))
  k_with "my call ref" => (((refine' Does.useG (popfrom_ _ ?_ ?_ ?_) (by k_asm) (by k_asm) (by k_asm) (by (first | with_reducible assumption | with_reducible exact pull1 (by k_asm) | with_reducible exact pull2 (by k_asm) | with_reducible exact pull3 (by k_asm) | with_reducible exact pull4 (by k_asm))) (by k_asm) rfl rfl (by walk_at "ROOM") (by walk_at "ROOM") ?_); (next => with_reducible assumption); (next => (repeat' (first | with_reducible assumption | exact List.forall_mem_nil _ | refine List.forall_mem_cons.mpr ⟨?_, ?_⟩ | refine List.forall_mem_append.mpr ⟨?_, ?_⟩ | exact .inr ⟨_, rfl, by decide⟩))); (next => ((try simp only [List.length_append, List.length_cons, List.length_nil]); lia)); intro q9zz m9zz l9zz h9zz k9zz F9zz N9zz g9zz; (try k_lt l9zz); (try k_sweep))); (try revert l9zz); (try revert g9zz); (try revert N9zz); (try revert F9zz); (try revert k9zz); (try revert h9zz); (try revert m9zz); (try revert q9zz); intros
  k_with "my call ref" => (((refine' Does.useG (reset_ _ ?_ ?_ ?_ ?_ ?_) (by k_asm) (by k_asm) (by k_asm) (by (first | with_reducible assumption | with_reducible exact pullr (by k_asm) | with_reducible exact pullr2 (by k_asm) | with_reducible exact pullr3 (by k_asm))) (by k_asm) rfl rfl (by walk_at "ROOM") (by walk_at "ROOM") ?_); (next => with_reducible assumption); (next => (repeat' (first | with_reducible assumption | exact List.forall_mem_nil _ | refine List.forall_mem_cons.mpr ⟨?_, ?_⟩ | refine List.forall_mem_append.mpr ⟨?_, ?_⟩ | exact .inr ⟨_, rfl, by decide⟩))); (next => exact .inr ⟨_, rfl, by decide⟩); (next => ((try simp only [List.length_append, List.length_cons, List.length_nil]); lia)); (next => ((try simp only [List.length_append, List.length_cons, List.length_nil]); lia)); intro m9zz v9zz h9zz k9zz F9zz N9zz g9zz; (try k_sweep))); (try revert g9zz); (try revert N9zz); (try revert F9zz); (try revert k9zz); (try revert h9zz); (try revert v9zz); (try revert m9zz); intros
  k_with "my call type:range" => refine Stop.mk ?_
  k_with "my call builtin:chr" => (refine' chr_S (by k_asm) ?_)
  k_with "my subscriptTail" => ((k_dflt (refine' item_331 (by k_asm) (by k_mem) (by with_reducible assumption) ?_); intro t9zz)); (try revert t9zz); intros
  k_with "my call ref" => ((refine' Does.useG (behind1 _ (k := 49) (by decide) (by k_asm) (by k_asm) (by with_reducible assumption) _ _ _) (by k_asm) (by k_asm) (by k_asm) (by with_reducible assumption) (by k_asm) rfl rfl (by walk_at "ROOM") (by walk_at "ROOM") ?_; intro t9zz h9zz k9zz F9zz N9zz g9zz; (try k_sweep))); (try revert g9zz); (try revert N9zz); (try revert F9zz); (try revert k9zz); (try revert h9zz); (try revert t9zz); intros
  k_with "my subscriptTail Name Slice str ref" => ((k_dflt (refine' cut_head (by k_asm) (by with_reducible assumption) (by exact rfl) (by k_asm) (by k_asm) ?_ (by with_unfolding_all rfl) (by (intro _; with_unfolding_all rfl))); intro h9zz t9zz k9zz F9zz N9zz j9zz; (try k_sweep))); (try revert j9zz); (try revert N9zz); (try revert F9zz); (try revert k9zz); (try revert t9zz); (try revert h9zz); intros
  k_with "my subscriptTail Name Slice str ref" => ((k_dflt (refine' cut_from (by k_asm) (by with_reducible assumption) (by exact rfl) (by k_asm) (by k_asm) ?_ (by with_unfolding_all rfl) (by (intro _; with_unfolding_all rfl))); intro h9zz t9zz k9zz F9zz N9zz; (try k_sweep))); (try revert N9zz); (try revert F9zz); (try revert k9zz); (try revert t9zz); (try revert h9zz); intros
  k_with "my subscriptTail Name Constant str int" => (k_dflt (refine' sub_str0 (by exact rfl) ?_ ?_); (next => with_reducible assumption))
  k_with "my compareOp Eq int int" => (dsimp only; with_reducible refine PyProof.Rows.eq_int ?_)
  k_with "my subscriptTail Name Constant ref str" => (k_dflt (refine' tokItem (by k_asm) (by k_asm) (by k_is) ?_))
  k_with "my binaryOp Add str str" => (with_reducible ((refine' add_CS [49] (by with_unfolding_all exact rfl) ?_ ?_); (next => ((try rw [sizeLine_eq]); (try simp only [List.length_append, List.length_cons, List.length_nil]); with_reducible_and_instances lia)); intro tpzz tkpzz)); (try revert tkpzz); (try revert tpzz); intros
  unfold Does
  intro dp un gd env outer A₀ base h₀ L m sH sG sD sT sO R p loose mean mg mb hf hk B F X N T hd hu hret
  k_dflt (refine' code_defCF ?k1 ?k2 ?k3 ?k4 ?k5 ?kA ?kF ?kK ?k6 ?k7 ?k8 ?k9 ?kB ?kD ?_ ?c2 ?c3 ?c4; (case kA => exact rfl); (case kF => exact hf); (case kK => exact hk); (case k1 => exact B); (case k2 => exact F); (case k3 => exact X); (case k4 => exact N); (case k5 => exact T); (case k6 => k_is); (case k7 => k_is); (case k8 => (refine room_of hd ?_; dsimp only; lia)); (case k9 => first | exact BindsTo.of_eq rfl | exact binds_K (by k_in) rfl (by k_is) rfl rfl rfl); (case kB => exact rfl); (case kD => decide +kernel); (case c2 => exact rfl); (case c3 => exact rfl); (case c4 => exact rfl); k_whole)
  intro g' L' h1 tk' cells' FG' F' N' Y' B' X' T' l1
  (try k_lt l1)
  k_cells Y'
  (try simp only [List.cons_append, List.nil_append] at N')
  (try dsimp only)
  (try k_fold)
  k_steps
  refine Stop.go ?_
  rename_i oP dP
  rename Fr _ _ _ _ => F1
  have hPa : Apart x d (L' + 1, oP) := .inl ⟨Nat.ne_of_gt (Nat.lt_succ_of_lt l1.1), Nat.ne_of_gt (Nat.lt_succ_of_lt l1.2.1)⟩
  (try k_fold)
  refine whl (σ := FS) (fun s => [("count", .int (s.c : Int) s.tc)]) (fun s => (L' + 1, oP) :: acc x d s.vs s.n hh kt s.iv s.R)
    (fun s => (∀ p ∈ RR, p ∈ s.R) ∧ (∀ p ∈ s.R, Apart x d p) ∧ PileV 49 s.R s.ts.reverse s.vs ∧ FrontB s.k s.ts s.c y c' rs) (fun s => s.k) ⟨k, ts, c, tc, vs, n, iv, RR⟩ F1 N' (fun _ h => h) ?h2 ?h3 ?turn
  case h2 => repeat' (first | exact List.forall_mem_nil _ | refine List.forall_mem_cons.mpr ⟨by first | rfl | (dsimp only; refine Eq.trans (b := some (Value.int _ _)) rfl ?_; refine int_cong ?_; simp only [List.length_append, List.length_cons, List.length_nil]; lia), ?_⟩)
  case h3 => exact ⟨fun _ h => h, hR, hP, hF⟩
  case turn =>
    intro End1 hE1
    rintro ⟨k, ts, c, tc, vs, n, iv, R1⟩ u h tk hJ0 F2 N2
    (try k_fold)
    refine andE4 hJ0 ?_
    clear hJ0
    intro hsub hR1 hP1 hF1
    clear F1 N'
    (try dsimp only at hsub hR1 hP1 hF1 F2 N2 ⊢)
    cases hF1 with
    | var hn hok =>
      rename_i n0 
      rw [List.reverse_cons] at hP1
      obtain ⟨vs', q, a, b, rfl, hq, hP2⟩ := hP1.snoc
      have hlen : vs'.length < 1000 := by
        have := hP2.length
        have h3 := hok.2.1
        simp at this h3
        lia
      have hle : ((Tr.lf n0).enc 49).length ≤ 1000000 := by simp [Tr.enc]
      have hd0 : decide ((n0 : Int) < 256) = false := by simp; lia
      k_steps
      refine hE1 _ _ _ ?_
      dsimp only [WEnd]
      k_steps
      rename Fr _ _ _ _ => F9
      rename News _ _ _ _ => N9
      (try simp only [List.push_toArray] at N9)
      refine hret _ _ _ _ _ _ ((L' + 1, oP) :: R1) (fun p hp => List.mem_cons_of_mem _ (hsub p hp)) (hP2.mono fun p hp => List.mem_cons_of_mem _ hp) ?_ _ _ F9 N9
      (repeat' (first | with_reducible assumption | exact List.forall_mem_nil _ | refine List.forall_mem_cons.mpr ⟨?_, ?_⟩ | refine List.forall_mem_append.mpr ⟨?_, ?_⟩ | exact .inr ⟨_, rfl, by decide⟩))
    | app hok hF2 =>
      rename_i k2 f a r
      rw [List.reverse_cons] at hP1
      obtain ⟨vs', q, ta, tb, rfl, hq, hP2⟩ := hP1.snoc
      have hlen : vs'.length < 900 := by
        have := hP2.length
        have h3 := hok.2.1
        simp at this h3
        lia
      have hlz := (hok.1 _ List.mem_cons_self).2
      have hoz : f.Ok ∧ a.Ok := (hok.1 _ List.mem_cons_self).1
      have hof := hoz.1
      have hle : ((Tr.nd f a).enc 49).length ≤ 1000000 := by lia
      have hx1 : (Tr.nd f a).enc 49 = 49 :: (f.enc 49 ++ a.enc 49) := rfl
      have hx2 : (Tr.nd f a).enc 49 = [49] ++ f.enc 49 ++ a.enc 49 := rfl
      have hx3 : (Tr.nd f a).enc 49 = ([49] ++ f.enc 49) ++ a.enc 49 := rfl
      have hd0 : decide ((49 : Int) < 256) = true := rfl
      have hd1 : decide (((49 : Nat) : Int) < 256) = true := rfl
      k_steps
      rename Fr _ _ _ _ => F9
      rename News _ _ _ _ => N9
      (try simp only [List.push_toArray] at N9)
      rename_i q1 m1 zh1 zk1 zg1 l1' zh zt zk zj q2 m2 zh2 zk2 zg2 l2
      (first | refine hE3 _ _ _ ?_ | refine hE2 _ _ _ ?_ | refine hE1 _ _ _ ?_)
      refine' wend_next ⟨k2, f :: a :: r, c, tc, vs' ++ [.ref q1] ++ [.ref q2], _, iv, (q2, tupO _ (f.enc 49) _) :: (q1, tupO _ (a.enc 49) _) :: R1⟩ F9 N9 ?h1 ?h2 ⟨?h3, ?h5, ?h6, hF2⟩ (Nat.lt_succ_self _)
      case h1 =>
        refine List.forall_mem_cons.mpr ⟨?_, ?_⟩
        ·
          (repeat (first | assumption | exact List.mem_cons_self | apply List.mem_cons_of_mem))
        refine List.forall_mem_cons.mpr ⟨?_, ?_⟩
        ·
          (repeat (first | assumption | exact List.mem_cons_self | apply List.mem_cons_of_mem))
        refine List.forall_mem_cons.mpr ⟨?_, ?_⟩
        ·
          (repeat (first | assumption | exact List.mem_cons_self | apply List.mem_cons_of_mem))
        refine List.forall_mem_cons.mpr ⟨?_, ?_⟩
        ·
          (repeat (first | assumption | exact List.mem_cons_self | apply List.mem_cons_of_mem))
        refine List.forall_mem_cons.mpr ⟨?_, ?_⟩
        ·
          (repeat (first | assumption | exact List.mem_cons_self | apply List.mem_cons_of_mem))
        (intro p9 hp9; repeat (first | exact hp9 | exact List.mem_append_left _ hp9 | exact List.mem_append_right _ hp9 | apply List.mem_cons_of_mem))
      case h2 => repeat' (first | exact List.forall_mem_nil _ | refine List.forall_mem_cons.mpr ⟨by first | rfl | (dsimp only; refine Eq.trans (b := some (Value.int _ _)) rfl ?_; refine int_cong ?_; simp only [List.length_append, List.length_cons, List.length_nil]; lia), ?_⟩)
      case h3 => exact fun p hp => List.mem_cons_of_mem _ (List.mem_cons_of_mem _ (hsub p hp))
      case h5 => (repeat' (first | with_reducible assumption | exact List.forall_mem_nil _ | refine List.forall_mem_cons.mpr ⟨?_, ?_⟩ | refine List.forall_mem_append.mpr ⟨?_, ?_⟩ | exact .inr ⟨_, rfl, by decide⟩))
      case h6 =>
        (try dsimp only)
        rw [List.reverse_cons, List.reverse_cons]
        exact ((hP2.mono fun p hp => List.mem_cons_of_mem _ (List.mem_cons_of_mem _ hp)).add (List.mem_cons_of_mem _ List.mem_cons_self)).add List.mem_cons_self
    | comb hcode hok hok2 hctr hF2 =>
      rename_i k2 code r r'
      rw [List.reverse_cons] at hP1
      obtain ⟨vs', q, ta, tb, rfl, hq, hP2⟩ := hP1.snoc
      have hlen : vs'.length < 900 := by
        have := hP2.length
        have h3 := hok.2.1
        simp at this h3
        lia
      have hle : ((Tr.lf code).enc 49).length ≤ 1000000 := by simp [Tr.enc]
      have hc1 : 256 ≤ code ∧ code < 259 := by lia
      have hd0 : decide ((code : Int) < 256) = false := by simp; lia
      have hd1 : ¬ ((299 : Int) < (code : Int)) := by lia
      have har : arity code ≤ 3 := by rcases hcode with h | h | h <;> rw [h] <;> decide
      k_steps
      refine Stop.go ?_
      rename Fr _ _ _ _ => F9
      rename News _ _ _ _ => N9
      generalize hm : arity code - r.length = mm at hok2 hctr hF2
      (try k_fold)
      refine whl (σ := Nat × Tok × Tok × List Value × Nat × Value × Led) (fun s => [("count", .int ((c + s.1 : Nat) : Int) s.2.1), ("code", .int (code : Int) s.2.2.1)]) (fun s => (L' + 1, oP) :: acc x d s.2.2.2.1 s.2.2.2.2.1 hh kt s.2.2.2.2.2.1 s.2.2.2.2.2.2)
        (fun s => s.1 ≤ mm ∧ PileV 49 s.2.2.2.2.2.2 (r ++ more c s.1).reverse s.2.2.2.1 ∧ (∀ p ∈ R1, p ∈ s.2.2.2.2.2.2) ∧ ∀ p ∈ s.2.2.2.2.2.2, Apart x d p) (fun s => mm - s.1) (0, tc, ?tok, vs', n + 1, iv, R1) F9 N9 ?h1 ?h2 ?h3 ?turn
      case h1 =>
        (repeat' (first | exact List.forall_mem_nil _ | refine List.forall_mem_cons.mpr ⟨by (repeat (first | with_reducible assumption | with_reducible exact List.mem_cons_self | apply List.mem_cons_of_mem)), ?_⟩))
        (try (intro p9 hp9; repeat (first | exact hp9 | exact List.mem_append_left _ hp9 | exact List.mem_append_right _ hp9 | apply List.mem_cons_of_mem)))
      case h2 => repeat' (first | exact List.forall_mem_nil _ | refine List.forall_mem_cons.mpr ⟨by first | rfl | (dsimp only; refine Eq.trans (b := some (Value.int _ _)) rfl ?_; refine int_cong ?_; simp only [List.length_append, List.length_cons, List.length_nil]; lia), ?_⟩)
      case h3 => exact ⟨Nat.zero_le _, by simpa [more] using hP2, fun _ h => h, hR1⟩
      case turn =>
        intro End2 hE2
        rintro ⟨j, t1, t2, vs1, n1, iv1, R2⟩ u2 h2 tk2 hJ0 F3 N3
        (try k_fold)
        refine andE4 hJ0 ?_
        clear hJ0
        intro hj hP3 hs2 hR2
        clear F9 N9
        (try dsimp only at hj hP3 hs2 hR2 F3 N3 ⊢)
        have hl1 : vs1.length = r.length + j := by
          have := hP3.length
          simp [more_length] at this
          lia
        have hl2 : vs1.length < 800 := by
          have h3 := hok2.2.1
          simp [more_length] at h3
          lia
        have hcc : c + j ≤ 100000 := by have := hok2.2.2.2; lia
        have hj3 : code - 256 < 3 := Nat.sub_lt_right_of_lt_add hc1.1 hc1.2
        by_cases hlt : (vs1.length : Int) < ((([3, 3, 1] : List Nat).getD (code - 256) 0 : Nat) : Int)
        · k_steps
          rename Fr _ _ _ _ => F9
          rename News _ _ _ _ => N9
          (try simp only [List.push_toArray] at N9)
          have hjm : j < mm := by
            have h9 : vs1.length < arity code := Int.ofNat_lt.mp hlt
            rw [hl1] at h9
            exact hm ▸ Nat.lt_sub_of_add_lt (Nat.add_comm _ _ ▸ h9)
          (first | refine hE3 _ _ _ ?_ | refine hE2 _ _ _ ?_ | refine hE1 _ _ _ ?_)
          refine' wend_next (j + 1, _, t2, _, _, _, _) F9 N9 (List.forall_mem_cons.mpr ⟨?h0, List.forall_mem_cons.mpr ⟨List.mem_cons_self, List.forall_mem_cons.mpr ⟨List.mem_cons_of_mem _ List.mem_cons_self, fun p hp => List.mem_cons_of_mem _ (List.mem_cons_of_mem _ hp)⟩⟩⟩) ?h2 ⟨hjm, ?h4, ?h5, ?h6⟩ ?h7
          case h0 => (repeat (first | assumption | exact List.mem_cons_self | apply List.mem_cons_of_mem))
          case h2 => repeat' (first | exact List.forall_mem_nil _ | refine List.forall_mem_cons.mpr ⟨by first | rfl | (dsimp only; refine Eq.trans (b := some (Value.int _ _)) rfl ?_; refine int_cong ?_; simp only [List.length_append, List.length_cons, List.length_nil]; lia), ?_⟩)
          case h4 =>
            (try dsimp only)
            rw [more_succ, ← List.append_assoc, List.reverse_append]
            refine .cons ?hc (hP3.mono ?hs)
            case hc =>
              refine ⟨_, ?ta, ?tb, rfl, ?hm⟩
              case hm => (repeat (first | assumption | exact List.mem_cons_self | apply List.mem_cons_of_mem))
            case hs =>
              intro p hp
              repeat (first | exact hp | apply List.mem_cons_of_mem)
          case h5 =>
            intro p hp
            have hp := hs2 p hp
            repeat (first | exact hp | apply List.mem_cons_of_mem)
          case h6 => dsimp only; (repeat' (first | with_reducible assumption | exact List.forall_mem_nil _ | refine List.forall_mem_cons.mpr ⟨?_, ?_⟩ | refine List.forall_mem_append.mpr ⟨?_, ?_⟩ | exact .inr ⟨_, rfl, by decide⟩))
          case h7 => exact Nat.sub_lt_sub_left hjm (Nat.lt_succ_self j)
        · have hjm : j = mm := by
            have : ((([3, 3, 1] : List Nat).getD (code - 256) 0 : Nat) : Int) = (arity code : Int) := rfl
            lia
          subst hjm
          k_steps
          · refine Stop.go ?_
            rename Fr _ _ _ _ => F9
            rename News _ _ _ _ => N9
            (try simp only [List.push_toArray] at N9)
            rename (_ < _) => hc258
            have h25 : code = 256 ∨ code = 257 := by lia
            have har3 : arity code = 3 := by rcases h25 with h | h <;> rw [h] <;> rfl
            have hlen3 : 3 ≤ (r ++ more c j).length := by rw [List.length_append, more_length]; lia
            obtain ⟨X, Y, Z, r0, hr0⟩ := cons3 hlen3
            rw [hr0] at hP3 hctr hok2
            simp only [List.reverse_cons] at hP3
            obtain ⟨vs2, qx, ax, bx, rfl, hqx, hP3⟩ := hP3.snoc
            obtain ⟨vs3, qy, ay, by', rfl, hqy, hP3⟩ := hP3.snoc
            obtain ⟨vs0, qz, az, bz, rfl, hqz, hP3⟩ := hP3.snoc
            (try k_fold)
            refine comp_range (news := (L' + 1, oP) :: acc x d (V3 vs0 (.ref qx) (.ref qy) (.ref qz) 0) n1 hh kt iv1 R2) (n := 3) (fun i ys nx => ∃ n2, nx = (L' + 1, oP) :: acc x d (V3 vs0 (.ref qx) (.ref qy) (.ref qz) i) n2 hh kt iv1 R2 ∧ ys = Y3 (.str (S (X.enc 49)) bx) (.str (S (Y.enc 49)) by') (.str (S (Z.enc 49)) bz) i) rfl rfl rfl F9 ?hN (by decide) ⟨_, rfl, rfl⟩ ?turn ?done
            case hN =>
              intro p hp
              refine N9 p ?_
              revert p hp
              (repeat' (first | exact List.forall_mem_nil _ | refine List.forall_mem_cons.mpr ⟨by (repeat (first | with_reducible assumption | exact List.mem_cons_self | apply List.mem_cons_of_mem)), ?_⟩))
              (try (intro p9 hp9; repeat (first | exact hp9 | exact List.mem_append_left _ hp9 | exact List.mem_append_right _ hp9 | apply List.mem_cons_of_mem)))
            case turn =>
              intro g0 tk0 I
              refine cturn_name ?_
              rintro i v ys nx C oC D M h4 tk4 own E' hi hv hJ0 hyl hC hM hw hof ho hCD F4 N4
              intro Qe
              (try k_fold)
              obtain ⟨n2, rfl, rfl⟩ := hJ0
              clear F9 N9
              obtain ⟨q, a, z, b, hV, hm9, hY⟩ := v3_step (vs0 := vs0) hqx hqy hqz hi
              rw [hV] at N4 ho
              have hvl := v3_len (vs0 := vs0) (a := .ref qx) (b := .ref qy) (c := .ref qz) (i + 1)
              generalize hV' : V3 vs0 (.ref qx) (.ref qy) (.ref qz) (i + 1) = V' at hV N4 ho hvl
              have hCa : Apart x d (C, oC) := .inl ⟨fun e => (ho _ (List.mem_cons_of_mem _ List.mem_cons_self)).1 e.symm, fun e => (ho _ (List.mem_cons_of_mem _ (List.mem_cons_of_mem _ List.mem_cons_self))).1 e.symm⟩
              have hown : ∀ p ∈ own, Apart x d p := fun p hp => .inl ⟨fun e => (ho _ (List.mem_cons_of_mem _ List.mem_cons_self)).2.2 (e ▸ hof p hp), fun e => (ho _ (List.mem_cons_of_mem _ (List.mem_cons_of_mem _ List.mem_cons_self))).2.2 (e ▸ hof p hp)⟩
              have hV9 : V'.length < 1000 := by simp at hl2 hvl; lia
              have hm9' : (q, tupO a z b) ∈ R2 ++ own := List.mem_append_left _ hm9
              simp only [List.cons_append] at N4
              k_steps
              (try dsimp only)
              refine cend ((L' + 1, oP) :: acc x d V' (n2 + 1) hh kt iv1 R2) (by k_asm) (by k_asm) (by (repeat (first | assumption | exact List.mem_cons_self | apply List.mem_cons_of_mem))) (by (repeat (first | assumption | exact List.mem_cons_self | apply List.mem_cons_of_mem))) (by (intro p9 hp9; repeat (first | exact hp9 | exact List.mem_append_left _ hp9 | exact List.mem_append_right _ hp9 | apply List.mem_cons_of_mem))) ?_ ?_ ?_
              ·
                (repeat' (first | exact List.forall_mem_nil _ | refine List.forall_mem_cons.mpr ⟨by (repeat (first | with_reducible assumption | with_reducible exact List.mem_cons_self | apply List.mem_cons_of_mem)), ?_⟩))
                (try (intro p9 hp9; repeat (first | exact hp9 | exact List.mem_append_left _ hp9 | exact List.mem_append_right _ hp9 | apply List.mem_cons_of_mem)))
              · intro p hp
                rcases List.mem_cons.mp hp with rfl | hp
                · exact ho _ List.mem_cons_self
                rcases List.mem_cons.mp hp with rfl | hp
                · exact ho (x, accObj d (V' ++ [Value.ref q]).toArray n2) (List.mem_cons_of_mem _ List.mem_cons_self)
                rcases List.mem_cons.mp hp with rfl | hp
                · exact ho (d, isz hh kt iv1) (List.mem_cons_of_mem _ (List.mem_cons_of_mem _ List.mem_cons_self))
                · exact ho _ (List.mem_cons_of_mem _ (List.mem_cons_of_mem _ (List.mem_cons_of_mem _ hp)))
              · exact ⟨n2 + 1, by rw [hV'], hY.symm⟩
            case done =>
              rintro g0 tk0 ys nx hZ0 D h4 tk4 hg4 F4 N4 hD
              obtain ⟨n2, rfl, rfl⟩ := hZ0
              clear F9 N9
              simp only [V3, Y3] at N4
              have hv0 : vs0.length < 800 := by simp at hl2; lia
              have hYl := (hok2.1 Y (List.mem_cons_of_mem _ List.mem_cons_self)).2
              have hZl := (hok2.1 Z (List.mem_cons_of_mem _ (List.mem_cons_of_mem _ List.mem_cons_self))).2
              k_steps
              ·
                rename Fr _ _ _ _ => F9
                rename News _ _ _ _ => N9
                (try simp only [List.push_toArray] at N9)
                rename_i q1 m1 zh0 zk0 zg0 l91 q2 m2 zh1 zk1 zg1 l92
                have h256 : code = 256 := by lia
                subst h256
                obtain rfl : X :: .nd Y Z :: r0 = r' := Option.some.inj hctr
                (first | refine hE3 _ _ _ ?_ | refine hE2 _ _ _ ?_ | refine hE1 _ _ _ ?_)
                refine' wend_next ⟨k2, X :: .nd Y Z :: r0, c + j, t1, vs0 ++ [.ref q1] ++ [.ref q2], _, iv1, (q2, tupO _ (X.enc 49) _) :: (q1, tupO _ ((Tr.nd Y Z).enc 49) _) :: R2⟩ F9 N9 ?h1 ?h2 ⟨?h3, ?h5, ?h6, hF2⟩ (Nat.lt_succ_self _)
                case h1 =>
                  refine List.forall_mem_cons.mpr ⟨?_, ?_⟩
                  ·
                    (repeat (first | assumption | exact List.mem_cons_self | apply List.mem_cons_of_mem))
                  refine List.forall_mem_cons.mpr ⟨?_, ?_⟩
                  ·
                    (repeat (first | assumption | exact List.mem_cons_self | apply List.mem_cons_of_mem))
                  refine List.forall_mem_cons.mpr ⟨?_, ?_⟩
                  ·
                    (repeat (first | assumption | exact List.mem_cons_self | apply List.mem_cons_of_mem))
                  refine List.forall_mem_cons.mpr ⟨?_, ?_⟩
                  ·
                    (repeat (first | assumption | exact List.mem_cons_self | apply List.mem_cons_of_mem))
                  refine List.forall_mem_cons.mpr ⟨?_, ?_⟩
                  ·
                    (repeat (first | assumption | exact List.mem_cons_self | apply List.mem_cons_of_mem))
                  (intro p9 hp9; repeat (first | exact hp9 | exact List.mem_append_left _ hp9 | exact List.mem_append_right _ hp9 | apply List.mem_cons_of_mem))
                case h2 => repeat' (first | exact List.forall_mem_nil _ | refine List.forall_mem_cons.mpr ⟨by first | rfl | (dsimp only; refine Eq.trans (b := some (Value.int _ _)) rfl ?_; refine int_cong ?_; simp only [List.length_append, List.length_cons, List.length_nil]; lia), ?_⟩)
                case h3 => exact fun p hp => List.mem_cons_of_mem _ (List.mem_cons_of_mem _ (hs2 p (hsub p hp)))
                case h5 => dsimp only; (repeat' (first | with_reducible assumption | exact List.forall_mem_nil _ | refine List.forall_mem_cons.mpr ⟨?_, ?_⟩ | refine List.forall_mem_append.mpr ⟨?_, ?_⟩ | exact .inr ⟨_, rfl, by decide⟩))
                case h6 =>
                  (try dsimp only)
                  rw [List.reverse_cons, List.reverse_cons]
                  exact ((hP3.mono fun p hp => List.mem_cons_of_mem _ (List.mem_cons_of_mem _ hp)).add (List.mem_cons_of_mem _ List.mem_cons_self)).add List.mem_cons_self
              ·
                rename Fr _ _ _ _ => F9
                rename News _ _ _ _ => N9
                (try simp only [List.push_toArray] at N9)
                rename_i q1 m1 zh0 zk0 zg0 l91 q2 m2 zh1 zk1 zg1 l92 q3 m3 zh2 zk2 zg2 l93
                have h257 : code = 257 := by lia
                subst h257
                obtain rfl : X :: Z :: Y :: r0 = r' := Option.some.inj hctr
                (first | refine hE3 _ _ _ ?_ | refine hE2 _ _ _ ?_ | refine hE1 _ _ _ ?_)
                refine' wend_next ⟨k2, X :: Z :: Y :: r0, c + j, t1, vs0 ++ [.ref q1] ++ [.ref q2] ++ [.ref q3], _, iv1, (q3, tupO _ (X.enc 49) _) :: (q2, tupO _ (Z.enc 49) _) :: (q1, tupO _ (Y.enc 49) _) :: R2⟩ F9 N9 ?h1 ?h2 ⟨?h3, ?h5, ?h6, hF2⟩ (Nat.lt_succ_self _)
                case h1 =>
                  refine List.forall_mem_cons.mpr ⟨?_, ?_⟩
                  ·
                    (repeat (first | assumption | exact List.mem_cons_self | apply List.mem_cons_of_mem))
                  refine List.forall_mem_cons.mpr ⟨?_, ?_⟩
                  ·
                    (repeat (first | assumption | exact List.mem_cons_self | apply List.mem_cons_of_mem))
                  refine List.forall_mem_cons.mpr ⟨?_, ?_⟩
                  ·
                    (repeat (first | assumption | exact List.mem_cons_self | apply List.mem_cons_of_mem))
                  refine List.forall_mem_cons.mpr ⟨?_, ?_⟩
                  ·
                    (repeat (first | assumption | exact List.mem_cons_self | apply List.mem_cons_of_mem))
                  refine List.forall_mem_cons.mpr ⟨?_, ?_⟩
                  ·
                    (repeat (first | assumption | exact List.mem_cons_self | apply List.mem_cons_of_mem))
                  refine List.forall_mem_cons.mpr ⟨?_, ?_⟩
                  ·
                    (repeat (first | assumption | exact List.mem_cons_self | apply List.mem_cons_of_mem))
                  (intro p9 hp9; repeat (first | exact hp9 | exact List.mem_append_left _ hp9 | exact List.mem_append_right _ hp9 | apply List.mem_cons_of_mem))
                case h2 => repeat' (first | exact List.forall_mem_nil _ | refine List.forall_mem_cons.mpr ⟨by first | rfl | (dsimp only; refine Eq.trans (b := some (Value.int _ _)) rfl ?_; refine int_cong ?_; simp only [List.length_append, List.length_cons, List.length_nil]; lia), ?_⟩)
                case h3 => exact fun p hp => List.mem_cons_of_mem _ (List.mem_cons_of_mem _ (List.mem_cons_of_mem _ (hs2 p (hsub p hp))))
                case h5 => dsimp only; (repeat' (first | with_reducible assumption | exact List.forall_mem_nil _ | refine List.forall_mem_cons.mpr ⟨?_, ?_⟩ | refine List.forall_mem_append.mpr ⟨?_, ?_⟩ | exact .inr ⟨_, rfl, by decide⟩))
                case h6 =>
                  (try dsimp only)
                  rw [List.reverse_cons, List.reverse_cons, List.reverse_cons]
                  exact (((hP3.mono fun p hp => List.mem_cons_of_mem _ (List.mem_cons_of_mem _ (List.mem_cons_of_mem _ hp))).add (List.mem_cons_of_mem _ (List.mem_cons_of_mem _ List.mem_cons_self))).add (List.mem_cons_of_mem _ List.mem_cons_self)).add List.mem_cons_self
          · rename (¬ _ < _) => hc258
            rename Fr _ _ _ _ => F9
            rename News _ _ _ _ => N9
            (try simp only [List.push_toArray] at N9)
            have h258 : code = 258 := by lia
            subst h258
            have hr9 : r ++ more c j = r' := by
              have : ∀ l : List Tr, ctr 258 l = some l := by
                intro l
                rcases l with _ | ⟨a, _ | ⟨b, _ | ⟨c, l⟩⟩⟩ <;> rfl
              rw [this] at hctr
              exact Option.some.inj hctr
            subst hr9
            (first | refine hE3 _ _ _ ?_ | refine hE2 _ _ _ ?_ | refine hE1 _ _ _ ?_)
            refine' wend_next ⟨k2, r ++ more c j, c + j, t1, vs1, n1, iv1, R2⟩ F9 N9 ?h1 ?h2 ⟨?h3, hR2, hP3, hF2⟩ (Nat.lt_succ_self _)
            case h1 =>
              (repeat' (first | exact List.forall_mem_nil _ | refine List.forall_mem_cons.mpr ⟨by (repeat (first | with_reducible assumption | with_reducible exact List.mem_cons_self | apply List.mem_cons_of_mem)), ?_⟩))
              (try (intro p9 hp9; repeat (first | exact hp9 | exact List.mem_append_left _ hp9 | exact List.mem_append_right _ hp9 | apply List.mem_cons_of_mem)))
            case h2 => repeat' (first | exact List.forall_mem_nil _ | refine List.forall_mem_cons.mpr ⟨by first | rfl | (dsimp only; refine Eq.trans (b := some (Value.int _ _)) rfl ?_; refine int_cong ?_; simp only [List.length_append, List.length_cons, List.length_nil]; lia), ?_⟩)
            case h3 => exact fun p hp => hs2 p (hsub p hp)

end
section
section
open PySem.Calls LCg
variable {prog : Program} {w : World} {A : Around} {E : Value → Shared → Prop} {sH : Heap} {sG : Array GenState} {sD : Drawn} {sT : Nat} {sO : OsState} {h₀ : Heap} {L : Addr} {m : Str → Option Value} {news : Led} {Q : Value → Shared → Prop}
theorem paired_signs {l : List Nat} : ∀ {ys : List Value}, CarriedAll ys ((l.map fun n => (⟨#[n]⟩ : Str)).map PyData.str) → Paired (fun (c : Nat) v => IsT [c] v) l ys := by
  induction l with
  | nil =>
    intro ys h
    rw [List.map_nil, List.map_nil] at h
    cases h
    exact .nil
  | cons c l ih =>
    intro ys h
    rw [List.map_cons, List.map_cons] at h
    cases h with
    | cons hc hr =>
      refine .cons ?_ (ih hr)
      cases hc with
      | str x t => exact ⟨t, rfl⟩
theorem list_S {l : List Nat} {t : Tok} (hh : A.handled = none) (F : Fr h₀ L sH m) (N : News h₀ L sH news) (hz : l.length ≤ 100000)
    (h : ∀ D k ys h' tk, Fr h₀ L h' m → News h₀ L h' ((D, ls k ys) :: news) → (∀ p ∈ news, p.1 < D) → Paired (fun (c : Nat) v => IsT [c] v) l ys → ys.length = l.length → Q (.ref D) (Shared.mk h' sG sD tk sO)) :
    wpAny (model prog w) A (call (.type "list") [.str (S l) t]) Q E (Shared.mk sH sG sD sT sO) := by
  refine list_strD hh F N (fun h' tk ys F' N' _ hn _ P C => ?_) (by rw [S_len, sizeLine_eq]; lia)
  obtain ⟨k, N'', _⟩ := gn_enter P F' N' hn
  have hp := paired_signs (l := l) (by simpa [PyProof.Rows.signs] using C)
  exact h _ k ys h' tk F' N'' (fun p hp => Heap.lt_size (N p hp).1) hp hp.length.symm
theorem rev_L {value slice : Expr} {ops : List Value} {a : Addr} {k : Nat} {vs : List Value} {vk : Value} (F : Fr h₀ L sH m) (N : News h₀ L sH news) (hm : (a, ls k vs) ∈ news) (pk : IsPart vk (some (-1))) (hz : vs.length ≤ 100000)
    (h : ∀ D h', Fr h₀ L h' m → News h₀ L h' ((D, ls 0 vs.reverse) :: news) → (∀ p ∈ news, p.1 < D) → Q (.ref D) (Shared.mk h' sG sD sT sO))
    (hs : subscripted slice false (.ref a) (.ref sH.objs.size) = operate ops (getItem (.ref a) (.ref sH.objs.size))) (ht : ∀ r, letTemporaryGo value (.ref a) r = pure ()) :
    wpAny (model prog w) A (subscriptTail value slice (.ref a) (.ref sH.objs.size)) Q E (Shared.mk (sH.push { cls := .type "slice", data := .fields #[.none, .none, vk] }) sG sD sT sO) :=
  krv_lit (s := ⟨sH, sG, sD, sT, sO⟩) (its := vs.toArray) (zs := vs.reverse) F N (News.isList N hm) pk (by simp) h hs ht (by simp [sizeLine_eq]; lia)
end

end
section
section
open PySem.Calls
/-- an entry of an object's dict -/
noncomputable abbrev ent (w : World) (k : Str) (t : Tok) (v : Value) : DictEntry := ⟨PyData.keyHash w.params k, .str k t, v⟩
/-- the tokens that a lexer's dict bears -/
structure NT where
  a : Tok
  b : Tok
  c : Tok
  d : Tok
  e : Tok
/-- a lexer's dict -/
noncomputable abbrev netO (w : World) (q : NT) (n : Int) (tn : Tok) (v : Value) (pb : Addr) : Obj :=
  dictOf [ent w "lineno" q.a (.int n tn), ent w "instream" q.b v, ent w "whitespace" q.c (.str "\n\t\r " q.e), ent w "pushback" q.d (.ref pb)] 4
end
set_option maxRecDepth 100000 in
set_option maxHeartbeats 8000000 in
theorem net_init (w : World) (x d : Addr) (v : Value) (rest : Led) (hdx : @Ne Nat d x) (h1 : ∀ p ∈ rest, p.1 ≠ x) (h2 : ∀ p ∈ rest, p.1 ≠ d) :
    Does w 10 100 (.ref 35) [.ref x, v] ((x, instObj 59 d) :: (d, dictOf [] 0) :: rest) (fun K => ∀ pb q tn, @LT.lt Nat _ x pb → @LT.lt Nat _ d pb → (∀ p ∈ rest, p.1 < pb) → K .none ((pb, ls 0 []) :: (x, instObj 59 d) :: (d, netO w q 1 tn v pb) :: rest)) := by
  k_with_none
  k_with "my k_in" => first | with_reducible assumption | exact Frag.In.keeps (by with_reducible assumption) (Fr.keep (by with_reducible assumption))
  k_with "my k_ne" => (refine neN ?_; (try dsimp only); first | with_reducible assumption | (refine Ne.symm ?_; with_reducible assumption) | lia)
  k_with "my ROOM" => ((try dsimp only [Around.deeper, Around.mark, Around.in1]); first | exact room3 (by assumption) rfl | exact room2 (by assumption) rfl | lia)
  k_with "my ite" => first | (refine ite_pos (by with_reducible assumption) ?_) | (refine ite_neg (by with_reducible assumption) ?_) | (refine ite_pos (decide_eq_true (by with_reducible assumption)) ?_) | (refine ite_neg (Bool.eq_false_iff.mp (decide_eq_false (by with_reducible assumption))) ?_)
  k_with "my exec While" => (try k_fold); refine Stop.mk ?_
  k_with "my subscriptTail Name Name str int" => (refine sub_str (by assumption) (by assumption) ?_)
  k_with "my call builtin:ord" => (refine ord_S ?_)
  k_with "my k_all" => with_reducible assumption
  unfold Does
  intro dp un gd env outer A₀ base h₀ L m sH sG sD sT sO R p loose mean mg mb hf hk B F X N T hd hu hret
  k_dflt (refine' code_defF ?k1 ?k2 ?k3 ?k4 ?k5 ?kA ?kF ?kK ?k6 ?k7 ?k8 ?k9 ?kB ?_ ?c2 ?c3 ?c4 ?c5; (case kA => exact rfl); (case kF => exact hf); (case kK => exact hk); (case k1 => exact B); (case k2 => exact F); (case k3 => exact X); (case k4 => exact N); (case k5 => exact T); (case k6 => k_is); (case k7 => k_is); (case k8 => (refine room_of hd ?_; dsimp only; lia)); (case k9 => first | exact BindsTo.of_eq rfl | exact binds_K (by k_in) rfl (by k_is) rfl rfl rfl); (case c5 => decide); (case kB => exact locs rfl); (case c2 => exact rfl); (case c3 => exact rfl); (case c4 => exact rfl); k_whole)
  intro g' L' h1 FG' F' N' B' X' T'
  (try dsimp only)
  (try k_fold)
  k_steps
  rename Fr _ _ _ _ => F9
  rename News _ _ _ _ => N9
  (try simp only [List.push_toArray] at N9)
  rename (_ ∧ _) => l9
  exact hret _ ⟨_, _, _, _, _⟩ _ l9.1 l9.2.1 (allLt_mem _ l9.2.2) _ _ F9 N9
section
open PySem.Calls
theorem net_new (w : World) (v : Value) (rest : Led) :
    Does w 20 200 (.ref 59) [v] rest (fun K => ∀ x d pb q tn, @LT.lt Nat _ d x → @LT.lt Nat _ x pb → (∀ p ∈ rest, p.1 < d) → K (.ref x) ((pb, ls 0 []) :: (x, instObj 59 d) :: (d, netO w q 1 tn v pb) :: rest)) := by
  unfold Does
  intro dp un gd env outer A₀ base h₀ L m sH sG sD sT sO R p loose mean mg mb hf hk B F X N T hd' hu hret
  refine make_K (C := 59) (fI := 35) F N (X.keeps F.keep) (by k_is) (by k_is) (by k_is) (fun x d h' F' N' l1 l2 => ?_)
  refine net_init w x d v rest (Nat.ne_of_lt l2) (fun p hp => Nat.ne_of_lt (Nat.lt_trans (l1 p hp) l2)) (fun p hp => Nat.ne_of_lt (l1 p hp)) _ _ _ _ _ _ _ _ _ _ _ _ _ _ _ _ _ _ _ _ _ hf hk B F' X N' T ?_ ?_ ?_
  · show dp + 1 + 10 < recursionLimit
    lia
  · show un + 1 + 100 < cLine
    lia
  · intro pb q tn lx ld lr h9 tk9 F9 N9
    exact ⟨rfl, hret x d pb q tn l2 lx l1 _ _ F9 N9⟩
end

end
section
section
open PySem.Calls LCg
variable {prog : Program} {w : World} {A A₀ : Around} {E : Value → Shared → Prop} {sH : Heap} {sG : Array GenState} {sD : Drawn} {sT : Nat} {sO : OsState} {K : Frag} {h₀ base : Heap} {L D : Addr} {m mg mb : Str → Option Value} {news news' : Led} {p : Program} {loose : List Str} {mean : ExcName → Option Value}
theorem truthy_L {a : Addr} {k : Nat} {vs : List Value} {Q : Bool → Shared → Prop} (N : News h₀ L sH news) (hm : (a, ls k vs) ∈ news) (hz : vs.length ≤ 1000000) (h : Q (!vs.isEmpty) (Shared.mk sH sG sD (sT + 1 + 1) sO)) :
    wpAny (model prog w) A (truthy (.ref a)) Q E (Shared.mk sH sG sD sT sO) := by
  refine wpAny_truthy_list (News.isList N hm) (by simp; lia) ?_
  simpa using h
theorem kl_last_snoc : ∀ (vs : List Value) (v : Value), kl_last (vs ++ [v]) = some (vs, v)
  | [], v => rfl
  | x :: vs, v => by
    show (match kl_last (vs ++ [v]) with | some (p, y) => some (x :: p, y) | none => some ([], x)) = _
    rw [kl_last_snoc vs v]
theorem pop_last_L {n : Nat} {vs : List Value} {v : Value} {Q : Value → Shared → Prop} (F : Fr h₀ L sH m) (N : News h₀ L sH news) (U : Upd D (ls n (vs ++ [v])) (ls (n + 1) vs) news news') (hz : vs.length ≤ 1000000)
    (h : ∀ h', Fr h₀ L h' m → News h₀ L h' news' → Q v (Shared.mk h' sG sD sT sO)) : wpAny (model prog w) A (call (.builtin "list.pop") [.ref D]) Q E (Shared.mk sH sG sD sT sO) :=
  kl_pop (its := (vs ++ [v]).toArray) F N (by simpa using kl_last_snoc vs v) U (by simp [sizeLine_eq]; lia) h
theorem pop_first_L {n : Nat} {vs : List Value} {v : Value} {u : Tok} {Q : Value → Shared → Prop} (F : Fr h₀ L sH m) (N : News h₀ L sH news) (U : Upd D (ls n (v :: vs)) (ls (n + 1) vs) news news') (hz : vs.length ≤ 1000000)
    (h : ∀ h', Fr h₀ L h' m → News h₀ L h' news' → Q v (Shared.mk h' sG sD sT sO)) : wpAny (model prog w) A (call (.builtin "list.pop") [.ref D, .int 0 u]) Q E (Shared.mk sH sG sD sT sO) :=
  kl_popAt (its := (v :: vs).toArray) (k := 0) (p := []) (q := vs) F N (by decide) (by simp [seqIndex?]) rfl U (by simp [sizeLine_eq]; lia) h
theorem code_nestF {env : Env} {outer : List Env} {R : Result → Shared → Prop} {name qual : Str} {params : Arguments} {body : List Stmt} {scope : Scope} {cl : List (Str × Addr)} {doc pm ctv : Value} {c' : Addr} {f : Addr} {args : Args} {binds : List (Str × Value)}
    (B : Below A₀ base outer h₀) (F : Fr h₀ L sH m) (X₀ : K.In h₀) (N : News h₀ L sH news) (T : Top p loose mean mg mb h₀) (hA : A.frames = some (env :: outer)) (hf : env.frame = some L) (hke : env.scope.kind = .function)
    (ho : (f, fnMade name qual params body scope cl doc pm c' ctv) ∈ news) (hcd : sH.CodeRec (.ref c') qual) (hroom : A.depth < recursionLimit)
    (hbind : BindsTo (Shared.mk sH sG sD sT sO) (fnX name qual params body scope cl .none .none doc pm none (.ref c') ctv) args binds) (hloc : ∀ y ∈ binds, scope.names.lookup y.1 = some .local)
    (h : ∀ g L' h₁, Fr h₀ L g m → Fr g L' h₁ (fun y => binds.reverse.lookup y) → News g L' h₁ news → Below A base (env :: outer) g → K.In g → Top p loose mean mg mb g →
      wpAny (model prog w) (A.deeper (envX qual scope L' f (.ref c') cl)) (execs body (envX qual scope L' f (.ref c') cl))
        (fun fl s' => LeaveK h₀ L m g R (match fl with | .ret v => v | _ => .none) s')
        (fun _ _ => False)
        (Shared.mk h₁ sG sD (sT + binds.length) sO))
    (hco : scope.isCoroutine = false) (hgen : scope.isGenerator = false) (hk : scope.kind = .function)
    (hcell : ∀ x ∈ scope.names, x.2 ≠ .cell) : codeAny (model prog w) A (.call (.ref f) args) R (Shared.mk sH sG sD sT sO) :=
  code_nest B F X₀ N T hA hf hke ho hcd hroom hbind hloc (fun g L' h₁ FG F' N' B' X' T' => wpAny_mono (h g L' h₁ FG F' N' B' X' T') (fun _ _ x => x) fun _ _ x => x.elim) hco hgen hk hcell
end
/-- a def within a def of the text -/
noncomputable def stIn (i j : Nat) : Option Stmt := match PW.main.body[i]? with
  | some (.FunctionDef _ _ b _ _ _ _ _ _ _) => b[j]?
  | _ => none
noncomputable abbrev pcO (i j : Nat) (cell : Addr) (qual : Str) (doc pm : Value) (c' : Addr) (ctv : Value)
    {name : Str} {args : Arguments} {body : List Stmt} {decs : List Expr} {ret : Option Expr} {tps : List TypeParam} {scope : Scope} {tscope : Option Scope} {bind : Str} {pos : Pos} (_ : stIn i j = some (.FunctionDef name args body decs ret tps scope tscope bind pos)) : Obj :=
  fnMade name qual args body scope [(Str.ofString "signs", cell)] doc pm c' ctv
/-- the function that hands a lexer its signs -/
noncomputable abbrev PC (cell : Addr) (qual : Str) (doc pm : Value) (c' : Addr) (ctv : Value) : Obj := pcO 59 2 cell qual doc pm c' ctv rfl
set_option maxRecDepth 100000 in
set_option maxHeartbeats 8000000 in
theorem piece_ (w : World) {fn c cell sg : Addr} {oc oe : Obj} {fs : Array Value} {qual : Str} {qt : Tok} {doc pm ctv : Value} {k : Nat} {sv : List Value} (v : Value) (n : Int) (t : Tok) (rest : Led)
    (h1 : oe.data = .cell (some (.ref sg))) (h2 : oc.data = .fields fs) (h3 : fs[1]? = some (.str qual qt)) (hfs : @Ne Nat fn sg) (hcs : @Ne Nat c sg) (hes : @Ne Nat cell sg) (hrs : ∀ p ∈ rest, p.1 ≠ sg) (hz : sv.length ≤ 1000000) (hz2 : (sv ++ [v]).length ≤ 1000000) :
    Does w 10 100 (.ref fn) [.int n t] ((sg, ls k (sv ++ [v])) :: (fn, PC cell qual doc pm c ctv) :: (c, oc) :: (cell, oe) :: rest)
      (fun K => K v ((sg, ls (k + 1) sv) :: (fn, PC cell qual doc pm c ctv) :: (c, oc) :: (cell, oe) :: rest)) := by
  k_with "my truthy ref" => (k_dflt (refine' truthy_L (by k_asm) (by k_mem) (by with_reducible assumption) ?_))
  k_with "my call builtin:list.pop" => ((k_dflt (refine' pop_last_L (by k_asm) (by k_asm) (by k_upd) (by with_reducible assumption) ?_); intro hpzz Fpzz Npzz; (try k_sweep))); (try revert Npzz); (try revert Fpzz); (try revert hpzz); intros
  unfold Does
  intro dp un gd env outer A₀ base h₀ L m sH sG sD sT sO R p loose mean mg mb hf hk B F X N T hd' hu hret
  k_dflt (refine' code_nestF B F X N T ?kA hf hk ?k6 ?k7 ?k8 ?k9 ?kB ?_ ?c2 ?c3 ?c4 ?c5; (case kA => exact rfl); (case k6 => exact List.mem_cons_of_mem _ List.mem_cons_self); (case k7 => exact codeRec_news N (List.mem_cons_of_mem _ (List.mem_cons_of_mem _ List.mem_cons_self)) h2 h3); (case k8 => (refine room_of hd' ?_; dsimp only; lia)); (case k9 => exact BindsTo.of_eq rfl); (case c5 => decide); (case kB => exact locs rfl); (case c2 => exact rfl); (case c3 => exact rfl); (case c4 => exact rfl); k_whole)
  intro g' L' h1 FG' F' N' B' X' T'
  (try dsimp only)
  (try k_fold)
  have hC : CodeHd g' 163 159 := codeHd_of_K X' (by kernel_rfl)
  have hb : (!(sv ++ [v]).isEmpty) = true := by simp
  k_steps
  rename Fr _ _ _ _ => F9
  rename News _ _ _ _ => N9
  (try simp only [List.push_toArray] at N9)
  exact hret _ _ F9 N9
set_option maxRecDepth 100000 in
set_option maxHeartbeats 8000000 in
theorem piece_nil (w : World) {fn c cell sg : Addr} {oc oe : Obj} {fs : Array Value} {qual : Str} {qt : Tok} {doc pm ctv : Value} {k : Nat} (n : Int) (t : Tok) (rest : Led)
    (h1 : oe.data = .cell (some (.ref sg))) (h2 : oc.data = .fields fs) (h3 : fs[1]? = some (.str qual qt))  :
    Does w 10 100 (.ref fn) [.int n t] ((sg, ls k []) :: (fn, PC cell qual doc pm c ctv) :: (c, oc) :: (cell, oe) :: rest)
      (fun K => ∀ t', K (.str (Str.ofString "") t') ((sg, ls k []) :: (fn, PC cell qual doc pm c ctv) :: (c, oc) :: (cell, oe) :: rest)) := by
  unfold Does
  intro dp un gd env outer A₀ base h₀ L m sH sG sD sT sO R p loose mean mg mb hf hk B F X N T hd' hu hret
  k_dflt (refine' code_nestF B F X N T ?kA hf hk ?k6 ?k7 ?k8 ?k9 ?kB ?_ ?c2 ?c3 ?c4 ?c5; (case kA => exact rfl); (case k6 => exact List.mem_cons_of_mem _ List.mem_cons_self); (case k7 => exact codeRec_news N (List.mem_cons_of_mem _ (List.mem_cons_of_mem _ List.mem_cons_self)) h2 h3); (case k8 => (refine room_of hd' ?_; dsimp only; lia)); (case k9 => exact BindsTo.of_eq rfl); (case c5 => decide); (case kB => exact locs rfl); (case c2 => exact rfl); (case c3 => exact rfl); (case c4 => exact rfl); k_whole)
  intro g' L' h1 FG' F' N' B' X' T'
  (try dsimp only)
  (try k_fold)
  have hC : CodeHd g' 163 159 := codeHd_of_K X' (by kernel_rfl)
  have hb : ¬ ((!([] : List Value).isEmpty) = true) := by simp
  have hz : ([] : List Value).length ≤ 1000000 := by decide
  k_steps
  rename Fr _ _ _ _ => F9
  rename News _ _ _ _ => N9
  (try simp only [List.push_toArray] at N9)
  exact hret _ _ _ F9 N9

end
section
/-- a lexer of the law's: its objects' addresses and what else it bears -/
structure LX where
  lx : Addr
  dlx : Addr
  pb : Addr
  st : Addr
  dst : Addr
  fn : Addr
  c : Addr
  cell : Addr
  sg : Addr
  qa : NT
  qb : NT
  tb : Tok
  rt : Tok
  oc : Obj
  oe : Obj
  fs : Array Value
  qual : Str
  qt : Tok
  doc : Value
  pm : Value
  ctv : Value
  pst : Addr
section
open PySem.Calls
noncomputable abbrev LX.strO (w : World) (q : LX) : Obj :=
  dictOf [ent w "lineno" q.qb.a (.int 1 q.tb), ent w "instream" q.qb.b .none, ent w "whitespace" q.qb.c (.str "\n\t\r " q.qb.e), ent w "pushback" q.qb.d (.ref q.pst), ent w "read" q.rt (.ref q.fn)] 5
/-- a lexer in the ledger: pv are the words pushed back, n its line, sv the signs left (the next one last) -/
noncomputable abbrev lexL (w : World) (q : LX) (pk : Nat) (pv : List Value) (n : Int) (tn : Tok) (sk : Nat) (sv : List Value) (rest : Led) : Led :=
  (q.sg, ls sk sv) :: (q.fn, PC q.cell q.qual q.doc q.pm q.c q.ctv) :: (q.c, q.oc) :: (q.cell, q.oe) :: (q.pb, ls pk pv) :: (q.lx, instObj 59 q.dlx) :: (q.dlx, netO w q.qa n tn (.ref q.st) q.pb) :: (q.st, instObj 59 q.dst) :: (q.dst, q.strO w) :: rest
structure LX.Ok (q : LX) : Prop where
  e : q.oe.data = .cell (some (.ref q.sg))
  f : q.oc.data = .fields q.fs
  g : q.fs[1]? = some (.str q.qual q.qt)
  l : @LT.lt Nat _ q.cell q.sg ∧ @LT.lt Nat _ q.sg q.dst ∧ @LT.lt Nat _ q.dst q.st ∧ @LT.lt Nat _ q.st q.fn ∧ @LT.lt Nat _ q.fn q.dlx ∧ @LT.lt Nat _ q.dlx q.lx ∧ @LT.lt Nat _ q.lx q.pb ∧ @Ne Nat q.c q.sg ∧ @Ne Nat q.c q.dlx ∧ @Ne Nat q.c q.pb
structure LX.Off (q : LX) (rest : Led) : Prop where
  a : ∀ p ∈ rest, p.1 ≠ q.sg
  b : ∀ p ∈ rest, p.1 ≠ q.dlx
  c : ∀ p ∈ rest, p.1 ≠ q.pb
theorem LX.Ok.ch {q : LX} (h : q.Ok) : (@LT.lt Nat _ q.cell q.pb ∧ @LT.lt Nat _ q.sg q.pb ∧ @LT.lt Nat _ q.dst q.pb ∧ @LT.lt Nat _ q.st q.pb ∧ @LT.lt Nat _ q.fn q.pb ∧ @LT.lt Nat _ q.dlx q.pb) ∧ (@LT.lt Nat _ q.cell q.dlx ∧ @LT.lt Nat _ q.sg q.dlx ∧ @LT.lt Nat _ q.dst q.dlx ∧ @LT.lt Nat _ q.st q.dlx) :=
  have a6 := Nat.lt_trans h.l.2.2.2.2.2.1 h.l.2.2.2.2.2.2.1
  have a5 := Nat.lt_trans h.l.2.2.2.2.1 a6
  have a4 := Nat.lt_trans h.l.2.2.2.1 a5
  have a3 := Nat.lt_trans h.l.2.2.1 a4
  have a2 := Nat.lt_trans h.l.2.1 a3
  have b4 := Nat.lt_trans h.l.2.2.2.1 h.l.2.2.2.2.1
  have b3 := Nat.lt_trans h.l.2.2.1 b4
  have b2 := Nat.lt_trans h.l.2.1 b3
  ⟨⟨Nat.lt_trans h.l.1 a2, a2, a3, a4, a5, a6⟩, Nat.lt_trans h.l.1 b2, b2, b3, b4⟩
/-- the list of the words pushed back is none of the others -/
theorem LX.Ok.pbs {q : LX} (h : q.Ok) : @Ne Nat q.sg q.pb ∧ @Ne Nat q.fn q.pb ∧ @Ne Nat q.c q.pb ∧ @Ne Nat q.cell q.pb ∧ @Ne Nat q.lx q.pb ∧ @Ne Nat q.dlx q.pb ∧ @Ne Nat q.st q.pb ∧ @Ne Nat q.dst q.pb :=
  have a := h.ch.1
  ⟨Nat.ne_of_lt a.2.1, Nat.ne_of_lt a.2.2.2.2.1, h.l.2.2.2.2.2.2.2.2.2, Nat.ne_of_lt a.1, Nat.ne_of_lt h.l.2.2.2.2.2.2.1, Nat.ne_of_lt a.2.2.2.2.2, Nat.ne_of_lt a.2.2.2.1, Nat.ne_of_lt a.2.2.1⟩
/-- nor is the lexer's dict -/
theorem LX.Ok.dls {q : LX} (h : q.Ok) : @Ne Nat q.sg q.dlx ∧ @Ne Nat q.fn q.dlx ∧ @Ne Nat q.c q.dlx ∧ @Ne Nat q.cell q.dlx ∧ @Ne Nat q.lx q.dlx ∧ @Ne Nat q.pb q.dlx ∧ @Ne Nat q.st q.dlx ∧ @Ne Nat q.dst q.dlx ∧ @Ne Nat q.fn q.sg ∧ @Ne Nat q.c q.sg ∧ @Ne Nat q.cell q.sg :=
  have b := h.ch.2
  ⟨Nat.ne_of_lt b.2.1, Nat.ne_of_lt h.l.2.2.2.2.1, h.l.2.2.2.2.2.2.2.2.1, Nat.ne_of_lt b.1, Nat.ne_of_gt h.l.2.2.2.2.2.1, Nat.ne_of_gt h.ch.1.2.2.2.2.2, Nat.ne_of_lt b.2.2.2, Nat.ne_of_lt b.2.2.1,
    Nat.ne_of_gt (Nat.lt_trans h.l.2.1 (Nat.lt_trans h.l.2.2.1 h.l.2.2.2.1)), h.l.2.2.2.2.2.2.2.1, Nat.ne_of_lt h.l.1⟩
/-- what lies below the cell is none of them -/
theorem LX.Ok.abv {q : LX} (h : q.Ok) {a : Addr} (ha : @LT.lt Nat _ a q.cell) : @Ne Nat q.sg a ∧ @Ne Nat q.fn a ∧ @Ne Nat q.cell a ∧ @Ne Nat q.pb a ∧ @Ne Nat q.lx a ∧ @Ne Nat q.dlx a ∧ @Ne Nat q.st a ∧ @Ne Nat q.dst a :=
  have a1 := Nat.lt_trans ha h.l.1
  have a2 := Nat.lt_trans a1 h.l.2.1
  have a3 := Nat.lt_trans a2 h.l.2.2.1
  have a4 := Nat.lt_trans a3 h.l.2.2.2.1
  have a5 := Nat.lt_trans a4 h.l.2.2.2.2.1
  have a6 := Nat.lt_trans a5 h.l.2.2.2.2.2.1
  ⟨Nat.ne_of_gt a1, Nat.ne_of_gt a4, Nat.ne_of_gt ha, Nat.ne_of_gt (Nat.lt_trans a6 h.l.2.2.2.2.2.2.1), Nat.ne_of_gt a6, Nat.ne_of_gt a5, Nat.ne_of_gt a3, Nat.ne_of_gt a2⟩
theorem LX.Ok.sg {q : LX} (h : q.Ok) {pk : Nat} {pv : List Value} {O1 O2 O3 O4 : Obj} {rest : Led} (ho : q.Off rest) : ∀ p ∈ (q.pb, ls pk pv) :: (q.lx, O1) :: (q.dlx, O2) :: (q.st, O3) :: (q.dst, O4) :: rest, p.1 ≠ q.sg := by
  obtain ⟨l1, l2, l3, l4, l5, l6, l7, l8, l9, l10⟩ := h.l
  refine List.forall_mem_cons.mpr ⟨?_, List.forall_mem_cons.mpr ⟨?_, List.forall_mem_cons.mpr ⟨?_, List.forall_mem_cons.mpr ⟨?_, List.forall_mem_cons.mpr ⟨?_, ho.a⟩⟩⟩⟩⟩ <;> exact fun e => by have e : @Eq Nat _ _ := e; dsimp only at e; lia
end
section
open PySem.Calls
end
set_option maxRecDepth 100000 in
set_option maxHeartbeats 8000000 in
theorem read_cons (w : World) (q : LX) (hq : q.Ok) {rest : Led} (hr : q.Off rest) {pk : Nat} {pv : List Value} {n : Int} {tn : Tok} {sk : Nat} {sv : List Value} {c : Nat} {t : Tok} (hz : sv.length ≤ 1000) :
    Does w 20 200 (.ref 42) [.ref q.lx] (lexL w q pk pv n tn sk (sv ++ [.str (S [c]) t]) rest) (fun K => ∀ tn', K (.str (S [c]) t) (lexL w q pk pv (if c = 10 then n + 1 else n) tn' (sk + 1) sv rest)) := by
  k_with_none
  k_with "my k_in" => first | with_reducible assumption | exact Frag.In.keeps (by with_reducible assumption) (Fr.keep (by with_reducible assumption))
  k_with "my k_ne" => (refine neN ?_; (try dsimp only); first | with_reducible assumption | (refine Ne.symm ?_; with_reducible assumption) | lia)
  k_with "my ROOM" => ((try dsimp only [Around.deeper, Around.mark, Around.in1]); first | exact room3 (by assumption) rfl | exact room2 (by assumption) rfl | lia)
  k_with "my ite" => first | (refine ite_pos (by with_reducible assumption) ?_) | (refine ite_neg (by with_reducible assumption) ?_) | (refine ite_pos (decide_eq_true (by with_reducible assumption)) ?_) | (refine ite_neg (Bool.eq_false_iff.mp (decide_eq_false (by with_reducible assumption))) ?_)
  k_with "my exec While" => (try k_fold); refine Stop.mk ?_
  k_with "my subscriptTail Name Name str int" => (refine sub_str (by assumption) (by assumption) ?_)
  k_with "my call builtin:ord" => (refine ord_S ?_)
  k_with "my k_all" => with_reducible assumption
  k_with "my call ref" => (try k_fold); refine Stop.mk ?_
  have hz1 : sv.length ≤ 1000000 := by lia
  have hz2 : (sv ++ [Value.str (S [c]) t]).length ≤ 1000000 := by simp; lia
  refine andE11 hq.dls ?_
  intro x1 x2 x3 x4 x5 x6 x7 x8 hfs hcs hes
  have hra := hr.a
  have hrb := hr.b
  have hrc := hr.c
  unfold Does
  intro dp un gd env outer A₀ base h₀ L m sH sG sD sT sO R p loose mean mg mb hf hk B F X N T hd hu hret
  k_dflt (refine' code_defF ?k1 ?k2 ?k3 ?k4 ?k5 ?kA ?kF ?kK ?k6 ?k7 ?k8 ?k9 ?kB ?_ ?c2 ?c3 ?c4 ?c5; (case kA => exact rfl); (case kF => exact hf); (case kK => exact hk); (case k1 => exact B); (case k2 => exact F); (case k3 => exact X); (case k4 => exact N); (case k5 => exact T); (case k6 => k_is); (case k7 => k_is); (case k8 => (refine room_of hd ?_; dsimp only; lia)); (case k9 => first | exact BindsTo.of_eq rfl | exact binds_K (by k_in) rfl (by k_is) rfl rfl rfl); (case c5 => decide); (case kB => exact locs rfl); (case c2 => exact rfl); (case c3 => exact rfl); (case c4 => exact rfl); k_whole)
  intro g' L' h1 FG' F' N' B' X' T'
  (try dsimp only)
  (try k_fold)
  have hC : CodeHd g' 163 159 := codeHd_of_K X' (by kernel_rfl)
  k_steps
  refine Stop.go ?_
  refine Does.useG (piece_ w _ _ _ _ hq.e hq.f hq.g hfs hcs hes (LX.Ok.sg hq hr) hz1 hz2) (by k_asm) (by k_asm) (by k_asm) (by k_asm) (by k_asm) rfl rfl (by walk_at "ROOM") (by walk_at "ROOM") ?_
  intro h9 k9 F9 N9 g9
  dsimp only [netO, ent] at N9
  by_cases hc : c = 10
  · subst hc
    have hb : (S [10] == Str.ofString "\n") = true := by decide
    k_steps
    rename Fr _ _ _ _ => F9
    rename News _ _ _ _ => N9
    (try simp only [List.push_toArray] at N9)
    exact hret _ _ _ F9 N9
  · rw [if_neg hc] at hret
    have hb : ¬ ((S [c] == Str.ofString "\n") = true) := by
      intro e
      have := eq_of_beq e
      exact hc (by simpa using congrArg (fun q : Str => q.cps.toList) (this.trans (by rfl : Str.ofString "\n" = S [10])))
    k_steps
    rename Fr _ _ _ _ => F9
    rename News _ _ _ _ => N9
    (try simp only [List.push_toArray] at N9)
    exact hret _ _ _ F9 N9
set_option maxRecDepth 100000 in
set_option maxHeartbeats 8000000 in
theorem read_nil (w : World) (q : LX) (hq : q.Ok) {rest : Led} {pk : Nat} {pv : List Value} {n : Int} {tn : Tok} {sk : Nat} :
    Does w 20 200 (.ref 42) [.ref q.lx] (lexL w q pk pv n tn sk [] rest) (fun K => ∀ t', K (.str (Str.ofString "") t') (lexL w q pk pv n tn sk [] rest)) := by
  unfold Does
  intro dp un gd env outer A₀ base h₀ L m sH sG sD sT sO R p loose mean mg mb hf hk B F X N T hd hu hret
  k_dflt (refine' code_defF ?k1 ?k2 ?k3 ?k4 ?k5 ?kA ?kF ?kK ?k6 ?k7 ?k8 ?k9 ?kB ?_ ?c2 ?c3 ?c4 ?c5; (case kA => exact rfl); (case kF => exact hf); (case kK => exact hk); (case k1 => exact B); (case k2 => exact F); (case k3 => exact X); (case k4 => exact N); (case k5 => exact T); (case k6 => k_is); (case k7 => k_is); (case k8 => (refine room_of hd ?_; dsimp only; lia)); (case k9 => first | exact BindsTo.of_eq rfl | exact binds_K (by k_in) rfl (by k_is) rfl rfl rfl); (case c5 => decide); (case kB => exact locs rfl); (case c2 => exact rfl); (case c3 => exact rfl); (case c4 => exact rfl); k_whole)
  intro g' L' h1 FG' F' N' B' X' T'
  (try dsimp only)
  (try k_fold)
  have hC : CodeHd g' 163 159 := codeHd_of_K X' (by kernel_rfl)
  k_steps
  refine Stop.go ?_
  refine Does.useG (piece_nil w _ _ _ hq.e hq.f hq.g) (by k_asm) (by k_asm) (by k_asm) (by k_asm) (by k_asm) rfl rfl (by walk_at "ROOM") (by walk_at "ROOM") ?_
  intro t9 h9 k9 F9 N9 g9
  have hb : ¬ ((Str.ofString "" == Str.ofString "\n") = true) := by decide
  k_steps
  rename Fr _ _ _ _ => F9
  rename News _ _ _ _ => N9
  (try simp only [List.push_toArray] at N9)
  exact hret _ _ _ F9 N9

end
section
set_option maxRecDepth 100000 in
set_option maxHeartbeats 8000000 in
theorem push_tok (w : World) (q : LX) (hq : q.Ok) {rest : Led} (hr : q.Off rest) {pk : Nat} {pv : List Value} {n : Int} {tn : Tok} {sk : Nat} {sv : List Value} (v : Value) (hz : pv.length ≤ 1000) :
    Does w 10 100 (.ref 56) [.ref q.lx, v] (lexL w q pk pv n tn sk sv rest) (fun K => K .none (lexL w q (pk + 1) (pv ++ [v]) n tn sk sv rest)) := by
  k_with_none
  k_with "my k_in" => first | with_reducible assumption | exact Frag.In.keeps (by with_reducible assumption) (Fr.keep (by with_reducible assumption))
  k_with "my k_ne" => (refine neN ?_; (try dsimp only); first | with_reducible assumption | (refine Ne.symm ?_; with_reducible assumption) | lia)
  k_with "my ROOM" => ((try dsimp only [Around.deeper, Around.mark, Around.in1]); first | exact room3 (by assumption) rfl | exact room2 (by assumption) rfl | lia)
  k_with "my ite" => first | (refine ite_pos (by with_reducible assumption) ?_) | (refine ite_neg (by with_reducible assumption) ?_) | (refine ite_pos (decide_eq_true (by with_reducible assumption)) ?_) | (refine ite_neg (Bool.eq_false_iff.mp (decide_eq_false (by with_reducible assumption))) ?_)
  k_with "my exec While" => (try k_fold); refine Stop.mk ?_
  k_with "my subscriptTail Name Name str int" => (refine sub_str (by assumption) (by assumption) ?_)
  k_with "my call builtin:ord" => (refine ord_S ?_)
  k_with "my k_all" => with_reducible assumption
  k_with "my truthy ref" => (k_dflt (refine' truthy_L (by k_asm) (by k_mem) (by with_reducible assumption) ?_))
  k_with "my call builtin:list.pop" => ((k_dflt (refine' pop_first_L (by k_asm) (by k_asm) (by k_upd) (by with_reducible assumption) ?_); intro hpzz Fpzz Npzz; (try k_sweep))); (try revert Npzz); (try revert Fpzz); (try revert hpzz); intros
  k_with "my call builtin:list.append" => ((k_dflt (refine' append_K (by k_asm) (by k_asm) (by k_upd) ?_ (by (simp [sizeLine_eq]; lia)); k_whole); intro hpzz Fpzz Npzz; (try k_sweep))); (try revert Npzz); (try revert Fpzz); (try revert hpzz); intros
  refine andE8 hq.pbs ?_
  intro x1 x2 x3 x4 x5 x6 x7 x8
  have hrc := hr.c
  unfold Does
  intro dp un gd env outer A₀ base h₀ L m sH sG sD sT sO R p loose mean mg mb hf hk B F X N T hd hu hret
  k_dflt (refine' code_defF ?k1 ?k2 ?k3 ?k4 ?k5 ?kA ?kF ?kK ?k6 ?k7 ?k8 ?k9 ?kB ?_ ?c2 ?c3 ?c4 ?c5; (case kA => exact rfl); (case kF => exact hf); (case kK => exact hk); (case k1 => exact B); (case k2 => exact F); (case k3 => exact X); (case k4 => exact N); (case k5 => exact T); (case k6 => k_is); (case k7 => k_is); (case k8 => (refine room_of hd ?_; dsimp only; lia)); (case k9 => first | exact BindsTo.of_eq rfl | exact binds_K (by k_in) rfl (by k_is) rfl rfl rfl); (case c5 => decide); (case kB => exact locs rfl); (case c2 => exact rfl); (case c3 => exact rfl); (case c4 => exact rfl); k_whole)
  intro g' L' h1 FG' F' N' B' X' T'
  (try dsimp only)
  (try k_fold)
  k_steps
  rename Fr _ _ _ _ => F9
  rename News _ _ _ _ => N9
  (try simp only [List.push_toArray] at N9)
  exact hret _ _ F9 N9
set_option maxRecDepth 100000 in
set_option maxHeartbeats 8000000 in
theorem get_push (w : World) (q : LX) (hq : q.Ok) {rest : Led} (hr : q.Off rest) {pk : Nat} {pv : List Value} {n : Int} {tn : Tok} {sk : Nat} {sv : List Value} (v : Value) (hz : pv.length ≤ 1000) :
    Does w 10 100 (.ref 49) [.ref q.lx] (lexL w q pk (v :: pv) n tn sk sv rest) (fun K => K v (lexL w q (pk + 1) pv n tn sk sv rest)) := by
  refine andE8 hq.pbs ?_
  intro x1 x2 x3 x4 x5 x6 x7 x8
  have hrc := hr.c
  have hz1 : pv.length ≤ 1000000 := by lia
  have hz2 : (v :: pv).length ≤ 1000000 := by simp; lia
  have hb : (!(v :: pv).isEmpty) = true := rfl
  unfold Does
  intro dp un gd env outer A₀ base h₀ L m sH sG sD sT sO R p loose mean mg mb hf hk B F X N T hd hu hret
  k_dflt (refine' code_defF ?k1 ?k2 ?k3 ?k4 ?k5 ?kA ?kF ?kK ?k6 ?k7 ?k8 ?k9 ?kB ?_ ?c2 ?c3 ?c4 ?c5; (case kA => exact rfl); (case kF => exact hf); (case kK => exact hk); (case k1 => exact B); (case k2 => exact F); (case k3 => exact X); (case k4 => exact N); (case k5 => exact T); (case k6 => k_is); (case k7 => k_is); (case k8 => (refine room_of hd ?_; dsimp only; lia)); (case k9 => first | exact BindsTo.of_eq rfl | exact binds_K (by k_in) rfl (by k_is) rfl rfl rfl); (case c5 => decide); (case kB => exact locs rfl); (case c2 => exact rfl); (case c3 => exact rfl); (case c4 => exact rfl); k_whole)
  intro g' L' h1 FG' F' N' B' X' T'
  (try dsimp only)
  (try k_fold)
  k_steps
  rename Fr _ _ _ _ => F9
  rename News _ _ _ _ => N9
  (try simp only [List.push_toArray] at N9)
  exact hret _ _ F9 N9

end
section
section
open PySem.Calls LCg Builtin
theorem ci_owner : Manifest.owners.lookup (String.ofList ['r', 'o', 't', 'a', 'r', 'e', 't', 'i', '_', 'e', 'l', 'b', 'a', 'l', 'l', 'a', 'c'].reverse) = some Manifest.sig_callable_iterator := by kernel_rfl
theorem ci_slot_next : Slot "callable_iterator" "__next__" "callable_iterator.__next__" :=
  .of (owner := "callable_iterator") (n := "__next__") (by rw [typeLookup_type, builtinLookup_eq_fast]; kernel_rfl) (by decide +kernel) (by decide +kernel) (by decide +kernel)
    (by first | exact .inl (by decide +kernel) | exact .inr (by decide +kernel)) (by rw [isSubtype_type]; kernel_rfl)
theorem ci_entry_next : entryFor table "callable_iterator.__next__" = some Builtin.«callable_iterator.__next__» := entryFor_of_tree (by kernel_rfl)
theorem ci_args_next (a : Value) : argsOk "callable_iterator.__next__" ⟨[a], []⟩ := by
  unfold argsOk; rw [signature?_of (id := "callable_iterator.__next__") (n := ['_', '_', 't', 'x', 'e', 'n', '_', '_']) (o := ['r', 'o', 't', 'a', 'r', 'e', 't', 'i', '_', 'e', 'l', 'b', 'a', 'l', 'l', 'a', 'c']) (by kernel_rfl) ci_owner]; kernel_rfl
theorem ci_slot_iter : Slot "callable_iterator" "__iter__" "callable_iterator.__iter__" :=
  .of (owner := "callable_iterator") (n := "__iter__") (by rw [typeLookup_type, builtinLookup_eq_fast]; kernel_rfl) (by decide +kernel) (by decide +kernel) (by decide +kernel)
    (by first | exact .inl (by decide +kernel) | exact .inr (by decide +kernel)) (by rw [isSubtype_type]; kernel_rfl)
theorem ci_args_iter (a : Value) : argsOk "callable_iterator.__iter__" ⟨[a], []⟩ := by
  unfold argsOk; rw [signature?_of (id := "callable_iterator.__iter__") (n := ['_', '_', 'r', 'e', 't', 'i', '_', '_']) (o := ['r', 'o', 't', 'a', 'r', 'e', 't', 'i', '_', 'e', 'l', 'b', 'a', 'l', 'l', 'a', 'c']) (by kernel_rfl) ci_owner]; kernel_rfl
theorem ci_entry_iter : entryFor table "callable_iterator.__iter__" = some Builtin.«dict_keyiterator.__iter__» :=
  entryFor_alias (id' := "dict_keyiterator.__iter__") (by kernel_rfl) (by first | rfl | decide +kernel | (unfold String.splitOn; simp +decide [String.splitOnAux])) (by decide +kernel) (by kernel_rfl)
theorem ci_args2 (a b : Value) : argsOk "iter" ⟨[a, b], []⟩ := by unfold argsOk; kernel_rfl
variable {prog : Program} {w : World} {A : Around} {E : Value → Shared → Prop} {s : Shared} {h₀ : Heap} {L I bm : Addr} {m : Str → Option Value} {news : Led}
noncomputable abbrev ciO (bm : Addr) (y : Str) (t : Tok) : Obj := { cls := .type "callable_iterator", data := .fields #[.ref bm, .str y t, .bool false] }
theorem method_call_slot : ∃ r, typeLookup (.type "method") "__call__" = pure (some r) := ⟨.builtin "method.__call__", by rw [typeLookup_type, builtinLookup_eq_fast]; kernel_rfl⟩
theorem call_iter2 {f self : Value} {y : Str} {t : Tok} {Q : Value → Shared → Prop} (F : Fr h₀ L s.heap m) (N : News h₀ L s.heap news) (hm : (bm, methodObj f self) ∈ news)
    (h : ∀ (I : Addr) h', Fr h₀ L h' m → News h₀ L h' ((I, ciO bm y t) :: news) → (∀ p ∈ news, p.1 < I) → Q (.ref I) { s with heap := h' }) :
    wpAny (model prog w) A (call (.builtin "iter") [.ref bm, .str y t]) Q E s := by
  refine call_function_entry (by decide +kernel) (by decide +kernel) kdk_entry_iter (ci_args2 _ _) ?_
  unfold Builtin.«iter»
  refine wpAny_bind (m := someArgs "iter" 1 2 _) (wpAny_of_eq (a := [Value.ref bm, .str y t]) (by first | rfl | kernel_rfl!) ?_)
  obtain ⟨r, hr⟩ := method_call_slot
  refine wpAny_bind (wpAny_specialOf (T := "method") ⟨_, (N _ hm).1, rfl⟩ hr ?_)
  show wpAny _ _ (newFields "callable_iterator" [.ref bm, .str y t, .bool false] >>= _) _ _ _
  exact wpAny_bind (wpAny_newObj_type (wpAny_pure ⟨_, rfl, h _ _ (F.push _) (News.push F N _ rfl) fun q hq => Heap.lt_size (N q hq).1⟩))
theorem pyIter_ci {y : Str} {t : Tok} {Q : Value → Shared → Prop} (N : News h₀ L s.heap news) (hm : (I, ciO bm y t) ∈ news) (h : Q (.ref I) s) : wpAny (model prog w) A (pyIter (.ref I)) Q E s := by
  have hT : s.TypeIs (.ref I) "callable_iterator" := ⟨_, (N _ hm).1, rfl⟩
  refine wpAny_pyIter_slot hT ci_slot_iter (wpAny_call_entry ci_slot_iter hT ci_entry_iter ?_ (ci_args_iter _))
  show wpAny _ _ (ret (.ref I)) _ _ s
  exact wpAny_pure ⟨_, rfl, "callable_iterator", _, hT, ci_slot_next.lookup, h⟩
theorem borrow_call {M : Model} {f : Value} {pos : List Value} {Q : Value → Shared → Prop}
    (hc : codeAny M A (.call f ⟨pos, []⟩) (fun r s' => match r with | .ok (.ret v) => Q v s' | .ok _ => False | .error e => E e s') s) : wpAny M A (callBorrowed f pos) Q E s := by
  intro Γ p hΓ
  unfold callBorrowed
  rw [Sem.wp_call]
  refine wpCode_mono (fun r s' h => ?_) (hc _ p rfl (hΓ.enter _ none p (by intro x; cases x)))
  cases r with
  | error e => exact h
  | ok f => cases f <;> exact h
theorem borrows_method {f : Addr} {self : Value} {oc : Value} {od : Option Addr} {fd : FuncData} {sl : Array (Option Value)} {Q : Bool → Shared → Prop} (hm : s.heap.get? bm = some (methodObj (.ref f) self)) (hf : s.heap.get? f = some ⟨oc, od, .func fd, sl⟩) (h : Q true s) :
    wpAny (model prog w) A (borrowsExactly (.ref bm)) Q E s := by
  unfold borrowsExactly
  refine wpAny_bind (wpAny_load hm ?_)
  (try dsimp only)
  rw [if_pos (by decide)]
  refine wpAny_bind (wpAny_load hf ?_)
  exact wpAny_pure h
/-- a turn of the iterator: the function gives a text that is not the last one -/
theorem ci_next {self : Value} {fa : Addr} {y x : Str} {t tx : Tok} {oc : Value} {od : Option Addr} {fd : FuncData} {sl : Array (Option Value)} {Q : Option Value → Shared → Prop} {R : Shared → Prop}
    (N : News h₀ L s.heap news) (hI : (I, ciO bm y t) ∈ news) (hm : (bm, methodObj (.ref fa) self) ∈ news) (hf : s.heap.get? fa = some ⟨oc, od, .func fd, sl⟩) (hne : y ≠ x)
    (hc : codeAny (model prog w) A.in1 (.call (.ref fa) ⟨[self], []⟩) (fun r s' => r = .ok (.ret (.str x tx)) ∧ s'.heap.get? I = some (ciO bm y t) ∧ R s') s)
    (h : ∀ s', R s' → Q (some (.str x tx)) s') : wpAny (model prog w) A (pyNext (.ref I)) Q E s := by
  have ho := (N _ hI).1
  have hT : s.TypeIs (.ref I) "callable_iterator" := ⟨_, ho, rfl⟩
  unfold pyNext
  refine wpAny_bind (wpAny_attempt (wpAny_callSpecial?_slot (name := Str.ofString "__next__") hT ci_slot_next
    (wpAny_call_entry ci_slot_next hT ci_entry_next ?_ (ci_args_next _))))
  unfold Builtin.«callable_iterator.__next__»
  refine wpAny_bind (wpAny_of_eq (a := (Value.ref I, [])) rfl ?_)
  (try dsimp only)
  refine wpAny_bind (wpAny_field ho rfl (x := .bool false) rfl ?_)
  rw [if_neg (by decide)]
  refine wpAny_bind (wpAny_field ho rfl (x := .ref bm) rfl ?_)
  refine wpAny_bind (wpAny_attempt ?_)
  unfold callOutOfASlot
  refine wpAny_bind (borrows_method (N _ hm).1 hf ?_)
  rw [if_pos rfl]
  refine borrow_call (method_call (N _ hm).1 (codeAny_mono hc fun r s' hr => ?_))
  obtain ⟨rfl, ho', hR⟩ := hr
  (try dsimp only)
  refine wpAny_bind (wpAny_field ho' rfl (x := .bool false) rfl ?_)
  rw [if_neg (by decide)]
  refine wpAny_bind (wpAny_field ho' rfl (x := .str y t) rfl ?_)
  refine wpAny_bind (wpAny_holding (wpAny_eqBool_str ?_))
  rw [decide_eq_false hne]
  rw [if_pos (by decide)]
  first | exact wpAny_pure ⟨_, rfl, wpAny_pure (h _ hR)⟩ | exact wpAny_bind (wpAny_pure ⟨_, rfl, wpAny_pure (h _ hR)⟩) | exact wpAny_bind (wpAny_pure (wpAny_pure ⟨_, rfl, wpAny_pure (h _ hR)⟩))
/-- the function gives the last text: the iterator ends -/
theorem ci_endX {self : Value} {fa : Addr} {y : Str} {t : Tok} {oc : Value} {od : Option Addr} {fd : FuncData} {sl : Array (Option Value)} {Q : Option Value → Shared → Prop} {R : Shared → Prop} (hh : A.handled = none)
    (N : News h₀ L s.heap news) (hI : (I, ciO bm y t) ∈ news) (hm : (bm, methodObj (.ref fa) self) ∈ news) (hf : s.heap.get? fa = some ⟨oc, od, .func fd, sl⟩)
    (hc : codeAny (model prog w) A.in1 (.call (.ref fa) ⟨[self], []⟩) (fun r s' => (∃ tx, r = .ok (.ret (.str y tx))) ∧ s'.heap.get? I = some (ciO bm y t) ∧ s'.heap.get? bm = some (methodObj (.ref fa) self) ∧ s'.heap.get? fa = some ⟨oc, od, .func fd, sl⟩ ∧ R s') s)
    (h : ∀ s' h', R s' → (∀ b o, b ≠ I → s'.heap.get? b = some o → h'.get? b = some o) → Q none { s' with heap := h' }) : wpAny (model prog w) A (pyNext (.ref I)) Q E s := by
  have ho := (N _ hI).1
  have hT : s.TypeIs (.ref I) "callable_iterator" := ⟨_, ho, rfl⟩
  unfold pyNext
  refine wpAny_bind (wpAny_attempt (wpAny_callSpecial?_slot (name := Str.ofString "__next__") hT ci_slot_next
    (wpAny_call_entry ci_slot_next hT ci_entry_next ?_ (ci_args_next _))))
  unfold Builtin.«callable_iterator.__next__»
  refine wpAny_bind (wpAny_of_eq (a := (Value.ref I, [])) rfl ?_)
  (try dsimp only)
  refine wpAny_bind (wpAny_field ho rfl (x := .bool false) rfl ?_)
  rw [if_neg (by decide)]
  refine wpAny_bind (wpAny_field ho rfl (x := .ref bm) rfl ?_)
  refine wpAny_bind (wpAny_attempt ?_)
  unfold callOutOfASlot
  refine wpAny_bind (borrows_method (N _ hm).1 hf ?_)
  rw [if_pos rfl]
  refine borrow_call (method_call (N _ hm).1 (codeAny_mono hc fun r s' hr => ?_))
  obtain ⟨⟨tx, rfl⟩, ho', hm', hf', hR⟩ := hr
  (try dsimp only)
  refine wpAny_bind (wpAny_field ho' rfl (x := .bool false) rfl ?_)
  rw [if_neg (by decide)]
  refine wpAny_bind (wpAny_field ho' rfl (x := .str y t) rfl ?_)
  refine wpAny_bind (wpAny_holding (wpAny_eqBool_str ?_))
  rw [decide_eq_true rfl]
  rw [if_neg (by decide)]
  refine wpAny_bind (wpAny_rule ?_)
  refine wpAny_bind ?_
  refine wpAny_bind (wpAny_field ho' rfl (x := .ref bm) rfl ?_)
  unfold slotLetsGo
  refine wpAny_bind (wpAny_bind (borrows_method hm' hf' ?_))
  rw [if_pos rfl]
  refine wpAny_pure ?_
  refine wpAny_bind (wpAny_setField ho' rfl (by simp) ?_)
  have e1 := Heap.get?_update_self (Obj.mapFields (·.setIfInBounds 0 Value.none)) ho' rfl
  refine wpAny_bind (wpAny_setField e1 rfl (by simp) ?_)
  have e2 := Heap.get?_update_self (Obj.mapFields (·.setIfInBounds 1 Value.none)) e1 rfl
  refine wpAny_setField e2 rfl (by simp) ?_
  refine wpAny_bind ?_
  simp only [newExc, newTuple]
  refine wpAny_bind (wpAny_newObj_type ?_ (by size_fits))
  refine wpAny_bind (m := firstArgMember _ _) (wpAny_of_eq (a := Value.none) (by first | rfl | (simp only [firstArgMember]; rfl)) ?_)
  refine wpAny_newObj_type ?_ (by size_fits)
  simp only [raiseNew]
  refine wpAny_bind (wpAny_handled ?_)
  first | rw [show A.in1.handled = none from hh] | rw [hh]
  refine wpAny_bind (wpAny_pure (wpAny_throw ?_))
  refine wpAny_bind (wpAny_isInstance (T := "StopIteration") (b := true) ⟨_, Heap.get?_push_size _ rfl, rfl⟩ isSubtype_stop ?_)
  refine wpAny_pure (h s' _ hR fun b o hb e => ?_)
  exact Heap.get?_push_of_some _ (Heap.get?_push_of_some _ ((Heap.get?_update_ne _ _ _ _ hb).trans ((Heap.get?_update_ne _ _ _ _ hb).trans ((Heap.get?_update_ne _ _ _ _ hb).trans e))))
end

end
section
section
open PySem.Calls LCg
noncomputable abbrev moO (q : LX) : Obj := methodObj (.ref 42) (.ref q.lx)
theorem fn42 (w : World) : ∃ oc od fd sl, (hd.heap_39 w.params).lookup 42 = some ⟨oc, od, .func fd, sl⟩ := ⟨_, _, _, _, by k_is⟩
theorem lex_in {w : World} {q : LX} {rest : Led} {pk : Nat} {pv : List Value} {n : Int} {tn : Tok} {sk : Nat} {sv : List Value} {p : Addr × Obj} (h : p ∈ rest) : p ∈ lexL w q pk pv n tn sk sv rest := List.mem_append_right (lexL w q pk pv n tn sk sv []) h
theorem lex_mono {w : World} {q : LX} {r r' : Led} {pk : Nat} {pv : List Value} {n : Int} {tn : Tok} {sk : Nat} {sv : List Value} (h : ∀ p ∈ r, p ∈ r') : ∀ p ∈ lexL w q pk pv n tn sk sv r, p ∈ lexL w q pk pv n tn sk sv r' := mem_app_mono (l := lexL w q pk pv n tn sk sv []) h
variable {w : World} {q : LX} {I bm : Addr} {ty : Tok} {rest : Led} {pk : Nat} {pv : List Value} {n : Int} {tn : Tok} {sk : Nat} {sv : List Value} {c : Nat} {t : Tok}
  {dp un : Nat} {gd : Option (List Code)} {env : Env} {outer : List Env} {A₀ : Around} {base h₀ : Heap} {L : Addr} {m : Str → Option Value} {sH : Heap} {sG : Array GenState} {sD : Drawn} {sT : Nat} {sO : OsState} {E : Value → Shared → Prop}
  {p : Program} {loose : List Str} {mean : ExcName → Option Value} {mg mb : Str → Option Value}
theorem next_cons {Q : Option Value → Shared → Prop} (hq : q.Ok) (hr : q.Off ((I, ciO bm (Str.ofString "") ty) :: (bm, moO q) :: rest)) (hz : sv.length ≤ 1000)
    (N : News h₀ L sH (lexL w q pk pv n tn sk (sv ++ [.str (S [c]) t]) ((I, ciO bm (Str.ofString "") ty) :: (bm, moO q) :: rest)))
    (B : Below A₀ base outer h₀) (F : Fr h₀ L sH m) (X : (hd.heap_39 w.params).In h₀) (T : Top p loose mean mg mb h₀)
    (hf : env.frame = some L) (hk : env.scope.kind = .function) (hd : dp + 20 < recursionLimit) (hu : un + 201 < cLine)
    (ret : ∀ h' tk' tn', Fr h₀ L h' m → News h₀ L h' (lexL w q pk pv (if c = 10 then n + 1 else n) tn' (sk + 1) sv ((I, ciO bm (Str.ofString "") ty) :: (bm, moO q) :: rest)) → Q (some (.str (S [c]) t)) (Shared.mk h' sG sD tk' sO)) :
    wpAny (model PySem.Challenge.rw_ti0018_01.row.prog w) { handled := none, depth := dp, frames := some (env :: outer), guards := gd, units := un } (pyNext (.ref I)) Q E (Shared.mk sH sG sD sT sO) := by
  obtain ⟨oc, od, fd, sl, h42⟩ := fn42 w
  have hI : (I, ciO bm (Str.ofString "") ty) ∈ lexL w q pk pv n tn sk (sv ++ [.str (S [c]) t]) ((I, ciO bm (Str.ofString "") ty) :: (bm, moO q) :: rest) := lex_in List.mem_cons_self
  have hm : (bm, moO q) ∈ lexL w q pk pv n tn sk (sv ++ [.str (S [c]) t]) ((I, ciO bm (Str.ofString "") ty) :: (bm, moO q) :: rest) := lex_in (List.mem_cons_of_mem _ List.mem_cons_self)
  refine ci_next N hI hm (X.keeps F.keep _ _ h42) (x := S [c]) (tx := t)
    (R := fun s' => ∃ h' tk' tn', s' = (Shared.mk h' sG sD tk' sO) ∧ Fr h₀ L h' m ∧ News h₀ L h' (lexL w q pk pv (if c = 10 then n + 1 else n) tn' (sk + 1) sv ((I, ciO bm (Str.ofString "") ty) :: (bm, moO q) :: rest))) ?_ ?_ ?_
  · intro e
    have e2 : S [] = S [c] := (show S [] = Str.ofString "" from rfl).trans e
    simpa using congrArg (fun q : Str => q.cps.toList) e2
  · refine read_cons w q hq hr hz _ _ _ _ _ _ _ _ _ _ _ _ _ _ _ _ _ _ _ _ _ hf hk B F X N T hd (by lia) ?_
    intro tn' h' tk' F' N'
    exact ⟨rfl, (N' (I, ciO bm (Str.ofString "") ty) (lex_in List.mem_cons_self)).1, h', tk', tn', rfl, F', N'⟩
  · rintro s' ⟨h', tk', tn', rfl, F', N'⟩
    exact ret h' tk' tn' F' N'
theorem next_nil {Q : Option Value → Shared → Prop} (hq : q.Ok) (hr : q.Off ((I, ciO bm (Str.ofString "") ty) :: (bm, moO q) :: rest)) (hn : ∀ p ∈ lexL w q pk pv n tn sk [] ((bm, moO q) :: rest), p.1 ≠ I)
    (N : News h₀ L sH (lexL w q pk pv n tn sk [] ((I, ciO bm (Str.ofString "") ty) :: (bm, moO q) :: rest)))
    (B : Below A₀ base outer h₀) (F : Fr h₀ L sH m) (X : (hd.heap_39 w.params).In h₀) (T : Top p loose mean mg mb h₀)
    (hf : env.frame = some L) (hk : env.scope.kind = .function) (hd : dp + 20 < recursionLimit) (hu : un + 201 < cLine)
    (ret : ∀ h' tk', Fr h₀ L h' m → News h₀ L h' (lexL w q pk pv n tn sk [] ((bm, moO q) :: rest)) → Q none (Shared.mk h' sG sD tk' sO)) :
    wpAny (model PySem.Challenge.rw_ti0018_01.row.prog w) { handled := none, depth := dp, frames := some (env :: outer), guards := gd, units := un } (pyNext (.ref I)) Q E (Shared.mk sH sG sD sT sO) := by
  obtain ⟨oc, od, fd, sl, h42⟩ := fn42 w
  have hI : (I, ciO bm (Str.ofString "") ty) ∈ lexL w q pk pv n tn sk [] ((I, ciO bm (Str.ofString "") ty) :: (bm, moO q) :: rest) := lex_in List.mem_cons_self
  have hm : (bm, moO q) ∈ lexL w q pk pv n tn sk [] ((I, ciO bm (Str.ofString "") ty) :: (bm, moO q) :: rest) := lex_in (List.mem_cons_of_mem _ List.mem_cons_self)
  have hf42 := X.keeps F.keep _ _ h42
  -- the token of the last text is not known: the post says it
  refine ci_endX rfl N hI hm hf42 (R := fun s' => ∃ h' tk', s' = (Shared.mk h' sG sD tk' sO) ∧ Fr h₀ L h' m ∧ News h₀ L h' (lexL w q pk pv n tn sk [] ((I, ciO bm (Str.ofString "") ty) :: (bm, moO q) :: rest))) ?_ (fun s' h' hR hk' => ?_)
  rotate_left
  · obtain ⟨h₁, tk₁, rfl, F₁, N₁⟩ := hR
    have hI₀ : h₀.get? I = none := (N₁ (I, ciO bm (Str.ofString "") ty) hI).2.2
    have hIL : L ≠ I := fun e => (N₁ (I, ciO bm (Str.ofString "") ty) hI).2.1 e.symm
    refine ret h' tk₁ ⟨F₁.ns.at' fun o e => hk' L o hIL e, fun b o e => hk' b o (fun q => by rw [q, hI₀] at e; cases e) (F₁.keep b o e), F₁.above⟩ fun p hp => ?_
    have hp1 : p ∈ lexL w q pk pv n tn sk [] ((I, ciO bm (Str.ofString "") ty) :: (bm, moO q) :: rest) := lex_mono (fun _ => List.mem_cons_of_mem _) p hp
    exact ⟨hk' _ _ (hn p hp) (N₁ p hp1).1, (N₁ p hp1).2⟩
  · refine read_nil w q hq _ _ _ _ _ _ _ _ _ _ _ _ _ _ _ _ _ _ _ _ _ hf hk B F X N T hd (by lia) ?_
    intro tx h' tk' F' N'
    exact ⟨⟨tx, rfl⟩, (N' (I, ciO bm (Str.ofString "") ty) (lex_in List.mem_cons_self)).1, (N' (bm, moO q) hm).1, X.keeps F'.keep _ _ h42, h', tk', rfl, F', N'⟩
theorem it_up {nx : Led} (N : News h₀ L sH ((I, ciO bm (Str.ofString "") ty) :: (bm, moO q) :: lexL w q pk pv n tn sk sv rest)) : News h₀ L sH (lexL w q pk pv n tn sk sv ((I, ciO bm (Str.ofString "") ty) :: (bm, moO q) :: rest)) :=
  fun p hp => N p (mem_app_swap (l := lexL w q pk pv n tn sk sv []) (r := [(I, ciO bm (Str.ofString "") ty), (bm, moO q)]) p hp)
theorem it_down {h : Heap} (N : News h₀ L h (lexL w q pk pv n tn sk sv ((I, ciO bm (Str.ofString "") ty) :: (bm, moO q) :: rest))) : News h₀ L h ((I, ciO bm (Str.ofString "") ty) :: (bm, moO q) :: lexL w q pk pv n tn sk sv rest) :=
  fun p hp => N p (mem_app_swap (r := lexL w q pk pv n tn sk sv []) (l := [(I, ciO bm (Str.ofString "") ty), (bm, moO q)]) p hp)
theorem it_off (hr : q.Off rest) (N : News h₀ L sH ((I, ciO bm (Str.ofString "") ty) :: (bm, moO q) :: lexL w q pk pv n tn sk sv rest)) : q.Off ((I, ciO bm (Str.ofString "") ty) :: (bm, moO q) :: rest) := by
  have h1 := (N (I, ciO bm (Str.ofString "") ty) (by (repeat (first | with_reducible assumption | with_reducible exact List.mem_cons_self | apply List.mem_cons_of_mem)))).1
  have h2 := (N (bm, moO q) (by (repeat (first | with_reducible assumption | with_reducible exact List.mem_cons_self | apply List.mem_cons_of_mem)))).1
  have h3 := (N (q.sg, ls sk sv) (by (repeat (first | with_reducible assumption | with_reducible exact List.mem_cons_self | apply List.mem_cons_of_mem)))).1
  have h4 := (N (q.dlx, netO w q.qa n tn (.ref q.st) q.pb) (by (repeat (first | with_reducible assumption | with_reducible exact List.mem_cons_self | apply List.mem_cons_of_mem)))).1
  have h5 := (N (q.pb, ls pk pv) (by (repeat (first | with_reducible assumption | with_reducible exact List.mem_cons_self | apply List.mem_cons_of_mem)))).1
  (try dsimp only at h1 h2 h3 h4 h5)
  have ne : ∀ {a b : Addr} {o o' : Obj} (c c' : String), sH.get? a = some o → sH.get? b = some o' → o.cls = .type c → o'.cls = .type c' → c ≠ c' → a ≠ b := fun c c' ha hb h1 h2 hc e => hc (by rw [e, hb] at ha; rw [← Option.some.inj ha, h2] at h1; injection h1 with h1; exact h1.symm)
  refine ⟨?_, ?_, ?_⟩
  · exact List.forall_mem_cons.mpr ⟨ne "callable_iterator" "list" h1 h3 rfl rfl (by decide), List.forall_mem_cons.mpr ⟨ne "method" "list" h2 h3 rfl rfl (by decide), hr.a⟩⟩
  · exact List.forall_mem_cons.mpr ⟨ne "callable_iterator" "dict" h1 h4 rfl rfl (by decide), List.forall_mem_cons.mpr ⟨ne "method" "dict" h2 h4 rfl rfl (by decide), hr.b⟩⟩
  · exact List.forall_mem_cons.mpr ⟨ne "callable_iterator" "list" h1 h5 rfl rfl (by decide), List.forall_mem_cons.mpr ⟨ne "method" "list" h2 h5 rfl rfl (by decide), hr.c⟩⟩
theorem next_consN {Q : Option Value → Shared → Prop} (hq : q.Ok) (hr : q.Off rest) (hz : sv.length ≤ 1000)
    (N : News h₀ L sH ((I, ciO bm (Str.ofString "") ty) :: (bm, moO q) :: lexL w q pk pv n tn sk (sv ++ [.str (S [c]) t]) rest))
    (B : Below A₀ base outer h₀) (F : Fr h₀ L sH m) (X : (hd.heap_39 w.params).In h₀) (T : Top p loose mean mg mb h₀)
    (hf : env.frame = some L) (hk : env.scope.kind = .function) (hd : dp + 20 < recursionLimit) (hu : un + 201 < cLine)
    (ret : ∀ h' tk' tn', Fr h₀ L h' m → News h₀ L h' ((I, ciO bm (Str.ofString "") ty) :: (bm, moO q) :: lexL w q pk pv (if c = 10 then n + 1 else n) tn' (sk + 1) sv rest) → Q (some (.str (S [c]) t)) (Shared.mk h' sG sD tk' sO)) :
    wpAny (model PySem.Challenge.rw_ti0018_01.row.prog w) { handled := none, depth := dp, frames := some (env :: outer), guards := gd, units := un } (pyNext (.ref I)) Q E (Shared.mk sH sG sD sT sO) :=
  next_cons hq (it_off hr N) hz (it_up (nx := []) N) B F X T hf hk hd hu fun h' tk' tn' F' N' => ret h' tk' tn' F' (it_down N')
theorem read_consN {Q : Value → Shared → Prop} (hq : q.Ok) (hr : q.Off rest) (hz : sv.length ≤ 1000)
    (N : News h₀ L sH ((I, ciO bm (Str.ofString "") ty) :: (bm, moO q) :: lexL w q pk pv n tn sk (sv ++ [.str (S [c]) t]) rest))
    (B : Below A₀ base outer h₀) (F : Fr h₀ L sH m) (X : (hd.heap_39 w.params).In h₀) (T : Top p loose mean mg mb h₀)
    (hf : env.frame = some L) (hk : env.scope.kind = .function) (hd : dp + 20 < recursionLimit) (hu : un + 200 < cLine)
    (ret : ∀ h' tk' tn', Fr h₀ L h' m → News h₀ L h' ((I, ciO bm (Str.ofString "") ty) :: (bm, moO q) :: lexL w q pk pv (if c = 10 then n + 1 else n) tn' (sk + 1) sv rest) → Q (.str (S [c]) t) (Shared.mk h' sG sD tk' sO)) :
    wpAny (model PySem.Challenge.rw_ti0018_01.row.prog w) { handled := none, depth := dp, frames := some (env :: outer), guards := gd, units := un } (call (.ref 42) [.ref q.lx]) Q E (Shared.mk sH sG sD sT sO) := by
  refine Does.useG (read_cons w q hq (it_off hr N) hz) B F X (it_up (nx := []) N) T hf hk hd hu ?_
  intro tn' h' tk' F' N' _
  exact ret h' tk' tn' F' (it_down N')
theorem iadd_CS (x : List Nat) {A : Around} {z : Str} {y : List Nat} {t u : Tok} {prog : Program} {Q : Value → Shared → Prop} (e : z = S x) (hz : x.length + y.length ≤ sizeLine) (h : ∀ t' tk, Q (.str (S (x ++ y)) t') (Shared.mk sH sG sD tk sO)) : wpAny (model prog w) A (inplaceOp .Add (.str z t) (.str (S y) u)) Q E (Shared.mk sH sG sD sT sO) := by subst e; exact iadd_S hz h
theorem ws_no {z : List Nat} {c : Nat} (hin : (Builtin.Str.occurrences (Str.ofString "\n\t\r ") (S [c]) 0 (Str.ofString "\n\t\r ").length 1).isEmpty = false) : c ∈ [10, 9, 13, 32] := in_one (z := [10, 9, 13, 32]) hin
theorem ws_yes {c : Nat} (hin : (Builtin.Str.occurrences (Str.ofString "\n\t\r ") (S [c]) 0 (Str.ofString "\n\t\r ").length 1).isEmpty = true) : c ∉ [10, 9, 13, 32] := by
  have h : (Builtin.Str.occurrences (S [10, 9, 13, 32]) (S [c]) 0 (S [10, 9, 13, 32]).length 1).isEmpty = true := hin
  rw [PyProof.Rows.empty_one] at h
  simpa using h
theorem next_nilN {Q : Option Value → Shared → Prop} (hq : q.Ok) (hr : q.Off rest) (hn : ∀ p ∈ (bm, moO q) :: lexL w q pk pv n tn sk [] rest, @LT.lt Nat _ p.1 I)
    (N : News h₀ L sH ((I, ciO bm (Str.ofString "") ty) :: (bm, moO q) :: lexL w q pk pv n tn sk [] rest))
    (B : Below A₀ base outer h₀) (F : Fr h₀ L sH m) (X : (hd.heap_39 w.params).In h₀) (T : Top p loose mean mg mb h₀)
    (hf : env.frame = some L) (hk : env.scope.kind = .function) (hd : dp + 20 < recursionLimit) (hu : un + 201 < cLine)
    (ret : ∀ h' tk', Fr h₀ L h' m → News h₀ L h' (lexL w q pk pv n tn sk [] rest) → Q none (Shared.mk h' sG sD tk' sO)) :
    wpAny (model PySem.Challenge.rw_ti0018_01.row.prog w) { handled := none, depth := dp, frames := some (env :: outer), guards := gd, units := un } (pyNext (.ref I)) Q E (Shared.mk sH sG sD sT sO) :=
  next_nil hq (it_off hr N) (fun p hp => Nat.ne_of_lt (hn p (mem_app_swap (l := lexL w q pk pv n tn sk [] []) (r := [(bm, moO q)]) p hp))) (it_up (nx := []) N) B F X T hf hk hd hu fun h' tk' F' N' => ret h' tk' F' fun p hp => N' p (lex_mono (fun _ => List.mem_cons_of_mem _) p hp)
end

end
section
-- NOFOLD
set_option maxRecDepth 100000 in
set_option maxHeartbeats 8000000 in
theorem get_esc (w : World) (q : LX) (hq : q.Ok) {rest : Led} (hr : q.Off rest) {pk : Nat} {n : Int} {tn : Tok} {sk : Nat} {sv : List Value} {s0 : Nat} {t1 t2 t3 : Tok} (hs : s0 ≠ 10) (hz : sv.length ≤ 900) :
    Does w 60 600 (.ref 49) [.ref q.lx] (lexL w q pk [] n tn sk (((sv ++ [.str (S [10]) t3]) ++ [.str (S [s0]) t2]) ++ [.str (S [92]) t1]) rest) (fun K => ∀ t' tn', K (.str (S [s0]) t') (lexL w q pk [] (n + 1) tn' (sk + 3) sv rest)) := by
  k_with_none
  k_with "my k_in" => first | with_reducible assumption | exact Frag.In.keeps (by with_reducible assumption) (Fr.keep (by with_reducible assumption))
  k_with "my k_ne" => (refine neN ?_; (try dsimp only); first | with_reducible assumption | (refine Ne.symm ?_; with_reducible assumption) | lia)
  k_with "my ROOM" => ((try dsimp only [Around.deeper, Around.mark, Around.in1]); first | exact room3 (by assumption) rfl | exact room2 (by assumption) rfl | lia)
  k_with "my ite" => first | (refine ite_pos (by with_reducible assumption) ?_) | (refine ite_neg (by with_reducible assumption) ?_) | (refine ite_pos (decide_eq_true (by with_reducible assumption)) ?_) | (refine ite_neg (Bool.eq_false_iff.mp (decide_eq_false (by with_reducible assumption))) ?_)
  k_with "my exec While" => (try k_fold); refine Stop.mk ?_
  k_with "my subscriptTail Name Name str int" => (refine sub_str (by assumption) (by assumption) ?_)
  k_with "my call builtin:ord" => (refine ord_S ?_)
  k_with "my k_all" => with_reducible assumption
  k_with "my truthy ref" => (k_dflt (refine' truthy_L (by k_asm) (by k_mem) (by with_reducible assumption) ?_))
  k_with "my call builtin:iter" => ((k_dflt (refine' call_iter2 (by k_asm) (by k_asm) (by k_mem) ?_); intro Ipzz hpzz Fpzz Npzz l1zz; (try k_lt l1zz))); (try revert l1zz); (try revert Npzz); (try revert Fpzz); (try revert hpzz); (try revert Ipzz); intros
  k_with "my exec For" => (k_dflt (refine owit_for ?_))
  k_with "my pyIter ref" => (k_dflt (refine' pyIter_ci (by k_asm) (by k_mem) (OwitAt.intro (OwitRest.succ ?_))))
  k_with "my pyNext ref" => refine Stop.mk ?_
  k_with "my call ref" => (try k_fold); refine Stop.mk ?_
  k_with "my inplaceOp Add" => ((dsimp only; with_reducible first | ((refine' iadd_CS [] (by with_unfolding_all exact rfl) ?_ ?_); (next => ((try rw [sizeLine_eq]); (try simp only [List.length_append, List.length_cons, List.length_nil]); with_reducible_and_instances lia)); intro tpzz tkpzz) | ((refine' iadd_S ?_ ?_); (next => ((try rw [sizeLine_eq]); (try simp only [List.length_append, List.length_cons, List.length_nil]); with_reducible_and_instances lia)); intro tpzz tkpzz))); (try revert tkpzz); (try revert tpzz); (try revert tkpzz); (try revert tpzz); intros
  have hl := hq.l
  have hra := hr.a
  have hrb := hr.b
  have hrc := hr.c
  have hz1 : ([] : List Value).length ≤ 1000000 := by simp
  have hb : ¬ ((!([] : List Value).isEmpty) = true) := by simp
  unfold Does
  intro dp un gd env outer A₀ base h₀ L m sH sG sD sT sO R p loose mean mg mb hf hk B F X N T hd hu hret
  k_dflt (refine' code_defF ?k1 ?k2 ?k3 ?k4 ?k5 ?kA ?kF ?kK ?k6 ?k7 ?k8 ?k9 ?kB ?_ ?c2 ?c3 ?c4 ?c5; (case kA => exact rfl); (case kF => exact hf); (case kK => exact hk); (case k1 => exact B); (case k2 => exact F); (case k3 => exact X); (case k4 => exact N); (case k5 => exact T); (case k6 => k_is); (case k7 => k_is); (case k8 => (refine room_of hd ?_; dsimp only; lia)); (case k9 => first | exact BindsTo.of_eq rfl | exact binds_K (by k_in) rfl (by k_is) rfl rfl rfl); (case c5 => decide); (case kB => exact locs rfl); (case c2 => exact rfl); (case c3 => exact rfl); (case c4 => exact rfl); k_whole)
  intro g' L' h1 FG' F' N' B' X' T'
  (try dsimp only)
  (try k_fold)
  k_steps
  refine Stop.go ?_
  rename News _ _ _ _ => N9
  refine next_consN hq hr (by (try simp only [List.length_append, List.length_cons, List.length_nil]); lia) N9 (by k_asm) (by k_asm) (by k_asm) (by k_asm) rfl rfl (by walk_at "ROOM") (by walk_at "ROOM") ?_
  clear N9
  intro h6 tk6 tn6 F6 N6
  rw [if_neg (by decide)] at N6
  k_steps
  rotate_left
  · exfalso
    rename (_ = false) => hin
    exact absurd (in_one (z := [10, 9, 13, 32]) hin) (by decide)
  (try refine Stop.go ?_)
  (try dsimp only [List.append_nil])
  rename News _ _ _ _ => N9
  refine read_consN hq hr (by (try simp only [List.length_append, List.length_cons, List.length_nil]); lia) N9 (by k_asm) (by k_asm) (by k_asm) (by k_asm) rfl rfl (by walk_at "ROOM") (by walk_at "ROOM") ?_
  clear N9
  intro h6 tk6 tn6 F6 N6
  rw [if_neg hs] at N6
  k_steps
  refine Stop.go ?_
  rename News _ _ _ _ => N9
  refine next_consN hq hr (by (try simp only [List.length_append, List.length_cons, List.length_nil]); lia) N9 (by k_asm) (by k_asm) (by k_asm) (by k_asm) rfl rfl (by walk_at "ROOM") (by walk_at "ROOM") ?_
  clear N9
  intro h6 tk6 tn6 F6 N6
  rw [if_pos rfl] at N6
  k_steps
  · exfalso
    rename ((Builtin.Str.occurrences _ _ _ _ _).isEmpty = true) => hin
    exact ws_yes hin (by decide)
  ·
    rename Fr _ _ _ _ => F9
    rename News _ _ _ _ => N9
    (try simp only [List.push_toArray] at N9)
    exact hret _ _ _ _ F9 (fun p hp => N9 p (List.mem_cons_of_mem _ (List.mem_cons_of_mem _ hp)))
set_option maxRecDepth 100000 in
set_option maxHeartbeats 8000000 in
theorem get_qq (w : World) (q : LX) (hq : q.Ok) {rest : Led} (hr : q.Off rest) {pk : Nat} {n : Int} {tn : Tok} {sk : Nat} {sv : List Value} {s0 : Nat} {t1 t2 t3 t4 : Tok} (hs : s0 ≠ 10) (hz : sv.length ≤ 900) :
    Does w 60 600 (.ref 49) [.ref q.lx] (lexL w q pk [] n tn sk ((((sv ++ [.str (S [34]) t4]) ++ [.str (S [s0]) t3]) ++ [.str (S [92]) t2]) ++ [.str (S [34]) t1]) rest) (fun K => ∀ t' tn', K (.str (S [s0]) t') (lexL w q pk [] n tn' (sk + 4) sv rest)) := by
  have hl := hq.l
  have hra := hr.a
  have hrb := hr.b
  have hrc := hr.c
  have hz1 : ([] : List Value).length ≤ 1000000 := by simp
  have hb : ¬ ((!([] : List Value).isEmpty) = true) := by simp
  unfold Does
  intro dp un gd env outer A₀ base h₀ L m sH sG sD sT sO R p loose mean mg mb hf hk B F X N T hd hu hret
  k_dflt (refine' code_defF ?k1 ?k2 ?k3 ?k4 ?k5 ?kA ?kF ?kK ?k6 ?k7 ?k8 ?k9 ?kB ?_ ?c2 ?c3 ?c4 ?c5; (case kA => exact rfl); (case kF => exact hf); (case kK => exact hk); (case k1 => exact B); (case k2 => exact F); (case k3 => exact X); (case k4 => exact N); (case k5 => exact T); (case k6 => k_is); (case k7 => k_is); (case k8 => (refine room_of hd ?_; dsimp only; lia)); (case k9 => first | exact BindsTo.of_eq rfl | exact binds_K (by k_in) rfl (by k_is) rfl rfl rfl); (case c5 => decide); (case kB => exact locs rfl); (case c2 => exact rfl); (case c3 => exact rfl); (case c4 => exact rfl); k_whole)
  intro g' L' h1 FG' F' N' B' X' T'
  (try dsimp only)
  (try k_fold)
  k_steps
  refine Stop.go ?_
  rename News _ _ _ _ => N9
  refine next_consN hq hr (by (try simp only [List.length_append, List.length_cons, List.length_nil]); lia) N9 (by k_asm) (by k_asm) (by k_asm) (by k_asm) rfl rfl (by walk_at "ROOM") (by walk_at "ROOM") ?_
  clear N9
  intro h6 tk6 tn6 F6 N6
  rw [if_neg (by decide)] at N6
  k_steps
  rotate_left
  · exfalso
    rename (_ = false) => hin
    exact absurd (in_one (z := [10, 9, 13, 32]) hin) (by decide)
  refine Stop.go ?_
  rename News _ _ _ _ => N9
  refine next_consN hq hr (by (try simp only [List.length_append, List.length_cons, List.length_nil]); lia) N9 (by k_asm) (by k_asm) (by k_asm) (by k_asm) rfl rfl (by walk_at "ROOM") (by walk_at "ROOM") ?_
  clear N9
  intro h6 tk6 tn6 F6 N6
  rw [if_neg (by decide)] at N6
  k_steps
  (try refine Stop.go ?_)
  (try dsimp only [List.append_nil])
  rename News _ _ _ _ => N9
  refine read_consN hq hr (by (try simp only [List.length_append, List.length_cons, List.length_nil]); lia) N9 (by k_asm) (by k_asm) (by k_asm) (by k_asm) rfl rfl (by walk_at "ROOM") (by walk_at "ROOM") ?_
  clear N9
  intro h6 tk6 tn6 F6 N6
  rw [if_neg hs] at N6
  k_steps
  refine Stop.go ?_
  rename News _ _ _ _ => N9
  refine next_consN hq hr (by (try simp only [List.length_append, List.length_cons, List.length_nil]); lia) N9 (by k_asm) (by k_asm) (by k_asm) (by k_asm) rfl rfl (by walk_at "ROOM") (by walk_at "ROOM") ?_
  clear N9
  intro h6 tk6 tn6 F6 N6
  rw [if_neg (by decide)] at N6
  k_steps
  rename Fr _ _ _ _ => F9
  rename News _ _ _ _ => N9
  (try simp only [List.push_toArray] at N9)
  exact hret _ _ _ _ F9 (fun p hp => N9 p (List.mem_cons_of_mem _ (List.mem_cons_of_mem _ hp)))
set_option maxRecDepth 100000 in
set_option maxHeartbeats 8000000 in
theorem get_q (w : World) (q : LX) (hq : q.Ok) {rest : Led} (hr : q.Off rest) {pk : Nat} {n : Int} {tn : Tok} {sk : Nat} {sv : List Value} {s0 : Nat} {t1 t2 t3 : Tok} (hs : s0 ≠ 10) (hs1 : s0 ≠ 34) (hs2 : s0 ≠ 92) (hz : sv.length ≤ 900) :
    Does w 60 600 (.ref 49) [.ref q.lx] (lexL w q pk [] n tn sk (((sv ++ [.str (S [34]) t3]) ++ [.str (S [s0]) t2]) ++ [.str (S [34]) t1]) rest) (fun K => ∀ t' tn', K (.str (S [s0]) t') (lexL w q pk [] n tn' (sk + 3) sv rest)) := by
  have hl := hq.l
  have hra := hr.a
  have hrb := hr.b
  have hrc := hr.c
  have hz1 : ([] : List Value).length ≤ 1000000 := by simp
  have hb : ¬ ((!([] : List Value).isEmpty) = true) := by simp
  have hs1' : ¬ ((S [s0] == Str.ofString "\"") = true) := fun e => hs1 (by simpa using congrArg (fun q : Str => q.cps.toList) ((eq_of_beq e).trans (show Str.ofString "\"" = S [34] from rfl)))
  have hs2' : ¬ ((S [s0] == Str.ofString "\\") = true) := fun e => hs2 (by simpa using congrArg (fun q : Str => q.cps.toList) ((eq_of_beq e).trans (show Str.ofString "\\" = S [92] from rfl)))
  unfold Does
  intro dp un gd env outer A₀ base h₀ L m sH sG sD sT sO R p loose mean mg mb hf hk B F X N T hd hu hret
  k_dflt (refine' code_defF ?k1 ?k2 ?k3 ?k4 ?k5 ?kA ?kF ?kK ?k6 ?k7 ?k8 ?k9 ?kB ?_ ?c2 ?c3 ?c4 ?c5; (case kA => exact rfl); (case kF => exact hf); (case kK => exact hk); (case k1 => exact B); (case k2 => exact F); (case k3 => exact X); (case k4 => exact N); (case k5 => exact T); (case k6 => k_is); (case k7 => k_is); (case k8 => (refine room_of hd ?_; dsimp only; lia)); (case k9 => first | exact BindsTo.of_eq rfl | exact binds_K (by k_in) rfl (by k_is) rfl rfl rfl); (case c5 => decide); (case kB => exact locs rfl); (case c2 => exact rfl); (case c3 => exact rfl); (case c4 => exact rfl); k_whole)
  intro g' L' h1 FG' F' N' B' X' T'
  (try dsimp only)
  (try k_fold)
  k_steps
  refine Stop.go ?_
  rename News _ _ _ _ => N9
  refine next_consN hq hr (by (try simp only [List.length_append, List.length_cons, List.length_nil]); lia) N9 (by k_asm) (by k_asm) (by k_asm) (by k_asm) rfl rfl (by walk_at "ROOM") (by walk_at "ROOM") ?_
  clear N9
  intro h6 tk6 tn6 F6 N6
  rw [if_neg (by decide)] at N6
  k_steps
  rotate_left
  · exfalso
    rename (_ = false) => hin
    exact absurd (in_one (z := [10, 9, 13, 32]) hin) (by decide)
  refine Stop.go ?_
  rename News _ _ _ _ => N9
  refine next_consN hq hr (by (try simp only [List.length_append, List.length_cons, List.length_nil]); lia) N9 (by k_asm) (by k_asm) (by k_asm) (by k_asm) rfl rfl (by walk_at "ROOM") (by walk_at "ROOM") ?_
  clear N9
  intro h6 tk6 tn6 F6 N6
  rw [if_neg hs] at N6
  k_steps
  refine Stop.go ?_
  rename News _ _ _ _ => N9
  refine next_consN hq hr (by (try simp only [List.length_append, List.length_cons, List.length_nil]); lia) N9 (by k_asm) (by k_asm) (by k_asm) (by k_asm) rfl rfl (by walk_at "ROOM") (by walk_at "ROOM") ?_
  clear N9
  intro h6 tk6 tn6 F6 N6
  rw [if_neg (by decide)] at N6
  k_steps
  rename Fr _ _ _ _ => F9
  rename News _ _ _ _ => N9
  (try simp only [List.push_toArray] at N9)
  exact hret _ _ _ _ F9 (fun p hp => N9 p (List.mem_cons_of_mem _ (List.mem_cons_of_mem _ hp)))
set_option maxRecDepth 100000 in
set_option maxHeartbeats 8000000 in
theorem get_nil (w : World) (q : LX) (hq : q.Ok) {rest : Led} (hr : q.Off rest) {pk : Nat} {n : Int} {tn : Tok} {sk : Nat} :
    Does w 60 600 (.ref 49) [.ref q.lx] (lexL w q pk [] n tn sk [] rest) (fun K => ∀ t', K (.str (Str.ofString "") t') (lexL w q pk [] n tn sk [] rest)) := by
  have hl := hq.l
  have hra := hr.a
  have hrb := hr.b
  have hrc := hr.c
  have hz1 : ([] : List Value).length ≤ 1000000 := by simp
  have hb : ¬ ((!([] : List Value).isEmpty) = true) := by simp
  unfold Does
  intro dp un gd env outer A₀ base h₀ L m sH sG sD sT sO R p loose mean mg mb hf hk B F X N T hd hu hret
  k_dflt (refine' code_defF ?k1 ?k2 ?k3 ?k4 ?k5 ?kA ?kF ?kK ?k6 ?k7 ?k8 ?k9 ?kB ?_ ?c2 ?c3 ?c4 ?c5; (case kA => exact rfl); (case kF => exact hf); (case kK => exact hk); (case k1 => exact B); (case k2 => exact F); (case k3 => exact X); (case k4 => exact N); (case k5 => exact T); (case k6 => k_is); (case k7 => k_is); (case k8 => (refine room_of hd ?_; dsimp only; lia)); (case k9 => first | exact BindsTo.of_eq rfl | exact binds_K (by k_in) rfl (by k_is) rfl rfl rfl); (case c5 => decide); (case kB => exact locs rfl); (case c2 => exact rfl); (case c3 => exact rfl); (case c4 => exact rfl); k_whole)
  intro g' L' h1 FG' F' N' B' X' T'
  (try dsimp only)
  (try k_fold)
  k_steps
  refine Stop.go ?_
  rename News _ _ _ _ => N9
  rename (_ ∧ _) => l9
  refine next_nilN hq hr (allLt_mem _ l9) N9 (by k_asm) (by k_asm) (by k_asm) (by k_asm) rfl rfl (by walk_at "ROOM") (by walk_at "ROOM") ?_
  clear N9
  intro h6 tk6 F6 N6
  k_steps
  rename Fr _ _ _ _ => F9
  rename News _ _ _ _ => N9
  (try simp only [List.push_toArray] at N9)
  exact hret _ _ _ F9 N9

end
section
noncomputable abbrev QN : Str := Str.ofString "_law_lexer.<locals>._law_piece"
/-- the table of the codes within _law_lexer, behind its first call -/
noncomputable abbrev tabT (c : Addr) : Obj := tabObj (#[] ++ #[rawInt ((144 : Nat) : Int), rawInt ((4 : Nat) : Int), .ref c])
set_option maxRecDepth 100000 in
set_option maxHeartbeats 8000000 in
theorem lexer_ (w : World) (l : List Nat) (hl : l.length ≤ 1000) (t : Tok) (rest : Led) (hr59 : ∀ p ∈ rest, p.1 ≠ 159) :
    Does w 30 300 (.ref 164) [.str (S l) t] ((159, tabObj #[]) :: rest) (fun K => ∀ (q : LX) (tn : Tok) (sv : List Value), q.Ok → q.qual = QN → Paired (fun (c : Nat) v => IsT [c] v) l.reverse sv → (∀ p ∈ rest, @LT.lt Nat _ p.1 q.cell) → @LT.lt Nat _ 159 q.cell → K (.ref q.lx) (lexL w q 0 [] 1 tn 0 sv ((159, tabT q.c) :: rest))) := by
  k_with_none
  k_with "my k_in" => first | with_reducible assumption | exact Frag.In.keeps (by with_reducible assumption) (Fr.keep (by with_reducible assumption))
  k_with "my k_ne" => (refine neN ?_; (try dsimp only); first | with_reducible assumption | (refine Ne.symm ?_; with_reducible assumption) | lia)
  k_with "my ROOM" => ((try dsimp only [Around.deeper, Around.mark, Around.in1]); first | exact room3 (by assumption) rfl | exact room2 (by assumption) rfl | lia)
  k_with "my ite" => first | (refine ite_pos (by with_reducible assumption) ?_) | (refine ite_neg (by with_reducible assumption) ?_) | (refine ite_pos (decide_eq_true (by with_reducible assumption)) ?_) | (refine ite_neg (Bool.eq_false_iff.mp (decide_eq_false (by with_reducible assumption))) ?_)
  k_with "my exec While" => (try k_fold); refine Stop.mk ?_
  k_with "my subscriptTail Name Name str int" => (refine sub_str (by assumption) (by assumption) ?_)
  k_with "my call builtin:ord" => (refine ord_S ?_)
  k_with "my call type:list" => (((k_dflt (refine' list_S rfl (by k_asm) (by k_asm) ?_ ?_)); (next => lia); intro Dpzz kpzz yspzz hpzz tkpzz Fpzz Npzz l1zz hppzz hlpzz; (try k_lt l1zz))); (try revert l1zz); (try revert hlpzz); (try revert hppzz); (try revert Npzz); (try revert Fpzz); (try revert tkpzz); (try revert hpzz); (try revert yspzz); (try revert kpzz); (try revert Dpzz); intros
  k_with "my subscriptTail Name Slice ref ref" => (((k_dflt (refine' rev_L (by k_asm) (by k_asm) (by k_mem) (by kmk_part) ?_ ?_ (by with_unfolding_all rfl) (by kmk_pure))); (next => ((try simp only [List.length_append, List.length_cons, List.length_nil]); with_reducible_and_instances lia)); intro Dpzz hpzz Fpzz Npzz l1zz; (try k_lt l1zz))); (try revert l1zz); (try revert Npzz); (try revert Fpzz); (try revert hpzz); (try revert Dpzz); intros
  k_with "my subscriptTail" => (((k_dflt (refine' rev_L (by k_asm) (by k_asm) (by k_mem) (by kmk_part) ?_ ?_ (by with_unfolding_all rfl) (by kmk_pure))); (next => ((try simp only [List.length_append, List.length_cons, List.length_nil]); with_reducible_and_instances lia)); intro Dpzz hpzz Fpzz Npzz l1zz; (try k_lt l1zz))); (try revert l1zz); (try revert Npzz); (try revert Fpzz); (try revert hpzz); (try revert Dpzz); intros
  k_with "my call ref" => ((refine Does.useG (net_new _ _ _) (by k_asm) (by k_asm) (by k_asm) (by k_asm) (by k_asm) rfl rfl (by walk_at "ROOM") (by walk_at "ROOM") ?_; intro x9zz d9zz pb9zz q9zz tn9zz l9zz l8zz l7zz h9zz k9zz F9zz N9zz g9zz; (try k_lt l7zz); (try dsimp only [netO, ent] at N9zz))); (try revert l7zz); (try revert g9zz); (try revert N9zz); (try revert F9zz); (try revert k9zz); (try revert h9zz); (try revert l8zz); (try revert l9zz); (try revert tn9zz); (try revert q9zz); (try revert pb9zz); (try revert d9zz); (try revert x9zz); intros
  k_with "my k_all" => with_reducible assumption
  unfold Does
  intro dp un gd env outer A₀ base h₀ L m sH sG sD sT sO R p loose mean mg mb hf hk B F X N T hd hu hret
  k_dflt (refine' code_defCF ?k1 ?k2 ?k3 ?k4 ?k5 ?kA ?kF ?kK ?k6 ?k7 ?k8 ?k9 ?kB ?kD ?_ ?c2 ?c3 ?c4; (case kA => exact rfl); (case kF => exact hf); (case kK => exact hk); (case k1 => exact B); (case k2 => exact F); (case k3 => exact X); (case k4 => exact N); (case k5 => exact T); (case k6 => k_is); (case k7 => k_is); (case k8 => (refine room_of hd ?_; dsimp only; lia)); (case k9 => first | exact BindsTo.of_eq rfl | exact binds_K (by k_in) rfl (by k_is) rfl rfl rfl); (case kB => exact rfl); (case kD => decide +kernel); (case c2 => exact rfl); (case c3 => exact rfl); (case c4 => exact rfl); k_whole)
  intro g' L' h1 tk' cells' FG' F' N' Y' B' X' T' l1
  (try k_lt l1)
  k_cells Y'
  (try simp only [List.cons_append, List.nil_append] at N')
  (try dsimp only)
  (try k_fold)
  have hC : CodeHd g' 163 159 := codeHd_of_K X' (by kernel_rfl)
  have h159 : @Ne Nat 159 (L' + 1) := Nat.ne_of_lt (Nat.lt_of_lt_of_le l1.1 (Nat.le_add_right L' 1))
  have l1 := allLt_mem _ l1.2
  have hr1 : ∀ p ∈ rest, p.1 ≠ L' + 1 := fun p hp => Nat.ne_of_lt (Nat.lt_of_lt_of_le (l1 p hp) (Nat.le_add_right L' 1))
  k_steps
  rename Fr _ _ _ _ => F9
  rename News _ _ _ _ => N9
  (try simp only [List.push_toArray] at N9)
  rename_i e1 D1 k1 ys zh1 ztk1 hp hl2 la D2 zh2 lb zh3 o2 ed ztk0 xs ds pbs qs tns m9 m8 zh4 zk4 zg4 m7 zh5 f c oc vs tt ct dc zh6 ztk6 ec ev ld le zh7 zh8 zF zN x2 d2 pb2 q2 tn2 n9 n8 zh9 zk9 zF9 zN9 zg9 n7 zTc zkX
  have hN : ∃ q : LX, q.Ok ∧ q.qual = QN ∧ q.cell = L' + 1 ∧ q.lx = x2 ∧ News h₀ L zh9 (lexL w q 0 [] 1 tn2 0 ys.reverse ((159, tabT q.c) :: rest)) := by
    refine ⟨⟨x2, d2, pb2, xs, ds, f, c, L' + 1, D2, q2, qs, tns, ztk6 + 1 + 1, oc, o2, vs, _, tt, dc, (mg (Str.ofString "__name__")).getD .none, ct, pbs⟩, ⟨ed, ec, ev, ?_⟩, by kernel_rfl, rfl, rfl, fun p hp => N9 p ?_⟩
    · dsimp only
      refine ⟨?_, ?_, ?_, ?_, ?_, ?_, ?_, ?_, ?_, ?_⟩ <;> lia
    · revert p hp
      (repeat' (first | exact List.forall_mem_nil _ | refine List.forall_mem_cons.mpr ⟨by (repeat (first | with_reducible assumption | exact List.mem_cons_self | apply List.mem_cons_of_mem)), ?_⟩))
      (try (intro p9 hp9; repeat (first | exact hp9 | exact List.mem_append_left _ hp9 | exact List.mem_append_right _ hp9 | apply List.mem_cons_of_mem)))
  obtain ⟨q, hq, hqn, hqc, hql, hqN⟩ := hN
  subst hql
  exact hret q _ _ hq hqn (pd_rev hp) (fun p hp => by rw [hqc]; exact Nat.lt_of_lt_of_le (l1 p hp) (Nat.le_add_right L' 1)) (by rw [hqc]; lia) _ _ F9 hqN
set_option maxRecDepth 100000 in
set_option maxHeartbeats 8000000 in
theorem lexer2_ (w : World) (l : List Nat) (hl : l.length ≤ 1000) (x0 : Str) (hx0 : x0 = S l) (t : Tok) {c0 : Addr} {oc0 : Obj} {fs0 : Array Value} {qt0 : Tok} (hc1 : oc0.data = .fields fs0) (hc2 : fs0[1]? = some (.str QN qt0)) (rest : Led) :
    Does w 30 300 (.ref 164) [.str x0 t] ((159, tabT c0) :: (c0, oc0) :: rest) (fun K => ∀ (q : LX) (tn : Tok) (sv : List Value), q.Ok → q.qual = QN → Paired (fun (c : Nat) v => IsT [c] v) l.reverse sv → (∀ p ∈ rest, @LT.lt Nat _ p.1 q.cell) → @LT.lt Nat _ 159 q.cell → K (.ref q.lx) (lexL w q 0 [] 1 tn 0 sv ((159, tabT c0) :: rest))) := by
  subst hx0
  unfold Does
  intro dp un gd env outer A₀ base h₀ L m sH sG sD sT sO R p loose mean mg mb hf hk B F X N T hd hu hret
  k_dflt (refine' code_defCF ?k1 ?k2 ?k3 ?k4 ?k5 ?kA ?kF ?kK ?k6 ?k7 ?k8 ?k9 ?kB ?kD ?_ ?c2 ?c3 ?c4; (case kA => exact rfl); (case kF => exact hf); (case kK => exact hk); (case k1 => exact B); (case k2 => exact F); (case k3 => exact X); (case k4 => exact N); (case k5 => exact T); (case k6 => k_is); (case k7 => k_is); (case k8 => (refine room_of hd ?_; dsimp only; lia)); (case k9 => first | exact BindsTo.of_eq rfl | exact binds_K (by k_in) rfl (by k_is) rfl rfl rfl); (case kB => exact rfl); (case kD => decide +kernel); (case c2 => exact rfl); (case c3 => exact rfl); (case c4 => exact rfl); k_whole)
  intro g' L' h1 tk' cells' FG' F' N' Y' B' X' T' l1
  (try k_lt l1)
  k_cells Y'
  (try simp only [List.cons_append, List.nil_append] at N')
  (try dsimp only)
  (try k_fold)
  have hC : CodeHd g' 163 159 := codeHd_of_K X' (by kernel_rfl)
  have h159 : @Ne Nat 159 (L' + 1) := Nat.ne_of_lt (Nat.lt_of_lt_of_le l1.1 (Nat.le_add_right L' 1))
  have hc0 := l1.2.1
  have l1 := allLt_mem _ l1.2.2
  have hr1 : ∀ p ∈ rest, p.1 ≠ L' + 1 := fun p hp => Nat.ne_of_lt (Nat.lt_of_lt_of_le (l1 p hp) (Nat.le_add_right L' 1))
  k_steps
  rename Fr _ _ _ _ => F9
  rename News _ _ _ _ => N9
  (try simp only [List.push_toArray] at N9)
  rename_i e1 D1 k1 ys zh1 ztk1 hp hl2 la D2 zh2 lb zh3 o2 ed ztk0 xs ds pbs qs tns m9 m8 zh4 zk4 zg4 m7 zh5 f ct dc zh6 ztk6 ld zh7 zh8 zF zN x2 d2 pb2 q2 tn2 n9 n8 zh9 zk9 zF9 zN9 zg9 n7 zTc zkX
  have hN : ∃ q : LX, q.Ok ∧ q.qual = QN ∧ q.cell = L' + 1 ∧ q.lx = x2 ∧ News h₀ L zh9 (lexL w q 0 [] 1 tn2 0 ys.reverse ((159, tabT c0) :: rest)) := by
    refine ⟨⟨x2, d2, pb2, xs, ds, f, c0, L' + 1, D2, q2, qs, tns, ztk6 + 1 + 1, oc0, o2, fs0, QN, qt0, dc, (mg (Str.ofString "__name__")).getD .none, ct, pbs⟩, ⟨ed, hc1, hc2, ?_⟩, rfl, rfl, rfl, fun p hp => N9 p ?_⟩
    · dsimp only
      refine ⟨?_, ?_, ?_, ?_, ?_, ?_, ?_, ?_, ?_, ?_⟩ <;> lia
    · revert p hp
      (repeat' (first | exact List.forall_mem_nil _ | refine List.forall_mem_cons.mpr ⟨by (repeat (first | with_reducible assumption | exact List.mem_cons_self | apply List.mem_cons_of_mem)), ?_⟩))
      (try (intro p9 hp9; repeat (first | exact hp9 | exact List.mem_append_left _ hp9 | exact List.mem_append_right _ hp9 | apply List.mem_cons_of_mem)))
  obtain ⟨q, hq, hqn, hqc, hql, hqN⟩ := hN
  subst hql
  exact hret q _ _ hq hqn (pd_rev hp) (fun p hp => by rw [hqc]; exact Nat.lt_of_lt_of_le (l1 p hp) (Nat.le_add_right L' 1)) (by rw [hqc]; lia) _ _ F9 hqN

end
section
/-- a tuple of three numbers -/
noncomputable abbrev tup3 (r : Nat × Nat × Nat) (a b c : Tok) : Obj := { cls := .type "tuple", data := .seq [.int (r.1 : Int) a, .int (r.2.1 : Int) b, .int (r.2.2 : Int) c].toArray }
/-- what the list of the rows holds -/
noncomputable def RowsV (R : Led) (rows : List (Nat × Nat × Nat)) (vs : List Value) : Prop := Paired (fun (r : Nat × Nat × Nat) v => ∃ T a b c, v = .ref T ∧ (T, tup3 r a b c) ∈ R) rows vs
theorem RowsV.mono {R R' : Led} (h : ∀ p ∈ R, p ∈ R') {ts : List (Nat × Nat × Nat)} {vs : List Value} (p : RowsV R ts vs) : RowsV R' ts vs := pd_mono (fun _ _ x => by
  obtain ⟨q, a, b, c, e, hm⟩ := x
  exact ⟨q, a, b, c, e, h _ hm⟩) p
/-- the words that wait in the line -/
noncomputable def LineV (ts : List Tr) (pv : List Value) : Prop := Paired (fun (t : Tr) v => IsT (t.enc 49) v) ts pv
/-- a pile's own tuples -/
theorem PileV.own {k : Nat} {R : Led} {ts : List Tr} {vs : List Value} (p : PileV k R ts vs) : ∃ RP : Led, PileV k RP ts vs ∧ ∀ p ∈ RP, p ∈ R ∧ p.2.cls = .type "tuple" := by
  induction p with
  | nil => exact ⟨[], .nil, fun _ h => by cases h⟩
  | cons x _ ih =>
    obtain ⟨q, a, b, e, hm⟩ := x
    obtain ⟨RP, h1, h2⟩ := ih
    exact ⟨(q, tupO a _ b) :: RP, .cons ⟨q, a, b, e, List.mem_cons_self⟩ (PileV.mono (fun p hp => List.mem_cons_of_mem _ hp) h1), List.forall_mem_cons.mpr ⟨⟨hm, rfl⟩, h2⟩⟩
/-- surely none of the objects of a lexer that change -/
noncomputable def LOff (q : LX) (p : Addr × Obj) : Prop := (p.1 ≠ q.sg ∧ p.1 ≠ q.dlx ∧ p.1 ≠ q.pb) ∨ ∃ c, p.2.cls = .type c ∧ c ≠ "list" ∧ c ≠ "dict"
theorem lex_off {w : World} {q : LX} {pk sk : Nat} {pv sv : List Value} {n : Int} {tn : Tok} {rest : Led} {h₀ h : Heap} {L : Addr} (N : News h₀ L h (lexL w q pk pv n tn sk sv rest)) (hr : ∀ p ∈ rest, LOff q p) : q.Off rest := by
  have h3 := (N (q.sg, ls sk sv) (by (repeat (first | with_reducible assumption | with_reducible exact List.mem_cons_self | apply List.mem_cons_of_mem)))).1
  have h4 := (N (q.dlx, netO w q.qa n tn (.ref q.st) q.pb) (by (repeat (first | with_reducible assumption | with_reducible exact List.mem_cons_self | apply List.mem_cons_of_mem)))).1
  have h5 := (N (q.pb, ls pk pv) (by (repeat (first | with_reducible assumption | with_reducible exact List.mem_cons_self | apply List.mem_cons_of_mem)))).1
  (try dsimp only at h3 h4 h5)
  have ne : ∀ {b : Addr} {o' : Obj} (c' : String), h.get? b = some o' → o'.cls = .type c' → ∀ p ∈ rest, (∃ c, p.2.cls = .type c ∧ c ≠ c') → p.1 ≠ b := by
    rintro b o' c' hb h2 p hp hZ0 e
    obtain ⟨c, h1, hc⟩ := hZ0
    have ha := (N p (lex_in hp)).1
    rw [e, hb] at ha
    rw [← Option.some.inj ha, h2] at h1
    injection h1 with h1
    exact hc h1.symm
  refine ⟨fun p hp => ?_, fun p hp => ?_, fun p hp => ?_⟩
  · rcases hr p hp with h | ⟨c, e, a, b⟩
    · exact h.1
    · exact ne "list" h3 rfl p hp ⟨c, e, a⟩
  · rcases hr p hp with h | ⟨c, e, a, b⟩
    · exact h.2.1
    · exact ne "dict" h4 rfl p hp ⟨c, e, b⟩
  · rcases hr p hp with h | ⟨c, e, a, b⟩
    · exact h.2.2
    · exact ne "list" h5 rfl p hp ⟨c, e, a⟩
theorem lex_apart {w : World} {q : LX} {pk sk : Nat} {pv sv : List Value} {n : Int} {tn : Tok} {rest : Led} {x d : Addr} (h : ∀ a ∈ [q.sg, q.fn, q.c, q.cell, q.pb, q.lx, q.dlx, q.st, q.dst], @Ne Nat a x ∧ @Ne Nat a d) (hr : ∀ p ∈ rest, Apart x d p) : ∀ p ∈ lexL w q pk pv n tn sk sv rest, Apart x d p := by
  simp only [List.forall_mem_cons] at h
  obtain ⟨h1, h2, h3, h4, h5, h6, h7, h8, h9, _⟩ := h
  exact List.forall_mem_cons.mpr ⟨.inl h1, List.forall_mem_cons.mpr ⟨.inl h2, List.forall_mem_cons.mpr ⟨.inl h3, List.forall_mem_cons.mpr ⟨.inl h4, List.forall_mem_cons.mpr ⟨.inl h5, List.forall_mem_cons.mpr ⟨.inl h6, List.forall_mem_cons.mpr ⟨.inl h7, List.forall_mem_cons.mpr ⟨.inl h8, List.forall_mem_cons.mpr ⟨.inl h9, hr⟩⟩⟩⟩⟩⟩⟩⟩⟩
section
open PySem.Calls
variable {prog : Program} {w : World} {A : Around} {E : Value → Shared → Prop} {s : Shared}
theorem truthy_S {l : List Nat} {t : Tok} {Q : Bool → Shared → Prop} (hz : l.length ≤ 1000000) (h : Q (!l.isEmpty) { s with toks := s.toks + 1 + 1 }) : wpAny (model prog w) A (truthy (.str (S l) t)) Q E s := by
  refine P.truthy_str (by rw [S_len]; lia) ?_
  have e : (((S l).length : Int) != 0) = !l.isEmpty := by
    rw [S_len]
    cases l with
    | nil => rfl
    | cons a l => simp; lia
  rw [e]; exact h
end
section
variable {w : World} {q : LX} {pk sk : Nat} {pv sv : List Value} {n : Int} {tn : Tok} {x d : Addr} {vs : List Value} {nn : Nat} {hh : Int} {kt : Tok} {iv : Value} {r0 : Addr × Obj} {RR : Led} {h₀ h : Heap} {L : Addr}
theorem toA (N : News h₀ L h (lexL w q pk pv n tn sk sv (r0 :: acc x d vs nn hh kt iv RR))) : News h₀ L h (acc x d vs nn hh kt iv (lexL w q pk pv n tn sk sv (r0 :: RR))) := fun p hp => N p (mem_app_swap (l := acc x d vs nn hh kt iv []) (r := lexL w q pk pv n tn sk sv [r0]) p hp)
theorem toB (N : News h₀ L h (acc x d vs nn hh kt iv (lexL w q pk pv n tn sk sv (r0 :: RR)))) : News h₀ L h (lexL w q pk pv n tn sk sv (r0 :: acc x d vs nn hh kt iv RR)) := fun p hp => N p (mem_app_swap (r := acc x d vs nn hh kt iv []) (l := lexL w q pk pv n tn sk sv [r0]) p hp)
theorem led_off {pk' : Nat} {pv' : List Value} {vs' : List Value} {nn' : Nat} {I : Addr} (hI : ∀ p ∈ lexL w q pk pv n tn sk sv (r0 :: acc x d vs nn hh kt iv RR), p.1 ≠ I) : ∀ p ∈ lexL w q pk' pv' n tn sk sv (r0 :: acc x d vs' nn' hh kt iv RR), p.1 ∉ [I] := by
  simp only [List.forall_mem_cons, List.mem_singleton] at hI ⊢
  exact hI
end

end
section
structure FT where
  vs : List Value
  nn : Nat
  pk : Nat
  pv : List Value
/-- the state of the loop of _law_end -/
structure ES where
  jobs : List Tr
  todo : List (Nat × Nat × Nat)
  done : List (Nat × Nat × Nat)
  c : Nat
  tc : Tok
  jx : Value
  pk : Nat
  pv : List Value
  rk : Nat
  rv : List Value
  R : Led
set_option maxRecDepth 100000 in
set_option maxHeartbeats 8000000 in
theorem end_ (w : World) (t : Tr) (rows : List (Nat × Nat × Nat)) (hE : EndB [t] 300 rows) (hrl : rows.length ≤ 400) {c0 : Addr} {oc0 : Obj} {fs0 : Array Value} {qt0 : Tok} (hc1 : oc0.data = .fields fs0) (hc2 : fs0[1]? = some (.str QN qt0)) (tt : Tok) (rest : Led) :
    Does w 100 1200 (.ref 205) [.str (S (t.enc 49)) tt] ((159, tabT c0) :: (c0, oc0) :: rest) (fun K => ∀ (rw : Addr) (rk : Nat) (rv : List Value) (R : Led), RowsV R rows rv → (∀ p ∈ ((159, tabT c0) :: rest : Led), p ∈ R) → K (.ref rw) ((rw, ls rk rv) :: R)) := by
  k_with_none
  k_with "my k_in" => first | with_reducible assumption | exact Frag.In.keeps (by with_reducible assumption) (Fr.keep (by with_reducible assumption))
  k_with "my k_ne" => (refine neN ?_; (try dsimp only); first | with_reducible assumption | (refine Ne.symm ?_; with_reducible assumption) | lia)
  k_with "my ROOM" => ((try dsimp only [Around.deeper, Around.mark, Around.in1]); first | exact room3 (by assumption) rfl | exact room2 (by assumption) rfl | lia)
  k_with "my ite" => first | (refine ite_pos (by with_reducible assumption) ?_) | (refine ite_neg (by with_reducible assumption) ?_) | (refine ite_pos (decide_eq_true (by with_reducible assumption)) ?_) | (refine ite_neg (Bool.eq_false_iff.mp (decide_eq_false (by with_reducible assumption))) ?_)
  k_with "my exec While" => (try k_fold); refine Stop.mk ?_
  k_with "my subscriptTail Name Name str int" => (refine sub_str (by assumption) (by assumption) ?_)
  k_with "my call builtin:ord" => (refine ord_S ?_)
  k_with "my binaryOp Add int int" => with_reducible first | (refine' add_lit 1 (by decide) ?_) | (refine' add_lit 2 (by decide) ?_) | refine add_nat ?_
  k_with "my binaryOp Sub int int" => with_reducible first | (refine' sub_lit 1 (by decide) (by first | with_reducible_and_instances lia | decide) ?_) | (refine' sub_lit 256 (by decide) (by first | with_reducible_and_instances lia | decide) ?_) | (refine' sub_lit 300 (by decide) (by first | with_reducible_and_instances lia | decide) ?_) | (refine' sub_nat (by first | with_reducible_and_instances lia | decide) ?_)
  k_with "my binaryOp Mod int int" => with_reducible first | (refine' mod_lit 3 (by decide) (by first | with_reducible_and_instances lia | decide) ?_) | (refine' mod_lit 2 (by decide) (by first | with_reducible_and_instances lia | decide) ?_) | (refine' mod_nat (by first | with_reducible_and_instances lia | decide) ?_)
  k_with "my binaryOp FloorDiv int int" => with_reducible first | (refine' div_lit 3 (by decide) (by first | with_reducible_and_instances lia | decide) (by decide) ?_) | (refine' div_lit 2 (by decide) (by first | with_reducible_and_instances lia | decide) (by decide) ?_) | fail
  k_with "my call builtin:len" => ((k_dflt (refine' len_L (by k_asm) (by k_mem) ?_ ?_)); (next => with_reducible_and_instances lia))
  k_with "my subscriptTail" => ((k_dflt (refine' item_L (by k_asm) (by k_mem) (by with_reducible assumption) ?_ ?_; k_whole)); (next => with_reducible_and_instances lia))
  k_with "my subscriptTail" => ((k_dflt (refine' item_C 0 (by exact rfl) (by k_asm) (by k_mem) (by with_reducible assumption) ?_ ?_; k_whole)); (next => decide))
  k_with "my subscriptTail Name Name ref int" => ((k_dflt (refine' item_L (by k_asm) (by k_mem) (by with_reducible assumption) ?_ ?_; k_whole)); (next => with_reducible_and_instances lia))
  k_with "my binaryOp Add ref ref" => (((k_dflt (refine' sum_L (by k_asm) (by k_asm) (by k_mem) (by k_mem) ?_ ?_)); (next => ((try rw [sizeLine_eq]); (try simp only [List.length_append, List.length_take, List.length_drop, List.length_cons, List.length_nil]); with_reducible_and_instances lia)); intro Dpzz hpzz Fpzz Npzz l1zz; (try k_lt l1zz))); (try revert l1zz); (try revert Npzz); (try revert Fpzz); (try revert hpzz); (try revert Dpzz); intros
  k_with "my subscriptTail Name Slice ref ref" => (((k_dflt (refine' cut_L _ (by k_asm) (by k_asm) (by k_mem) (by kmk_part) (by kmk_part) (by first | exact pick_from _ _ | exact pick_upto _ _) ?_ ?_ (by with_unfolding_all rfl) (by kmk_pure))); (next => ((try rw [sizeLine_eq]); with_reducible_and_instances lia)); intro Dpzz hpzz Fpzz Npzz l1zz; (try k_lt l1zz))); (try revert l1zz); (try revert Npzz); (try revert Fpzz); (try revert hpzz); (try revert Dpzz); intros
  k_with "my binaryOp Add str str" => (with_reducible first | ((refine' add_S ?_ ?_); (next => ((try rw [sizeLine_eq]); (try simp only [List.length_append, List.length_cons, List.length_nil]); with_reducible_and_instances lia)); intro tpzz tkpzz) | ((refine' add_CS [64] (by with_unfolding_all exact rfl) ?_ ?_); (next => ((try rw [sizeLine_eq]); (try simp only [List.length_append, List.length_cons, List.length_nil]); with_reducible_and_instances lia)); intro tpzz tkpzz) | ((refine' add_CS [34] (by with_unfolding_all exact rfl) ?_ ?_); (next => ((try rw [sizeLine_eq]); (try simp only [List.length_append, List.length_cons, List.length_nil]); with_reducible_and_instances lia)); intro tpzz tkpzz) | ((refine' add_CS [92] (by with_unfolding_all exact rfl) ?_ ?_); (next => ((try rw [sizeLine_eq]); (try simp only [List.length_append, List.length_cons, List.length_nil]); with_reducible_and_instances lia)); intro tpzz tkpzz) | ((refine' add_SC [34] (by with_unfolding_all exact rfl) ?_ ?_); (next => ((try rw [sizeLine_eq]); (try simp only [List.length_append, List.length_cons, List.length_nil]); with_reducible_and_instances lia)); intro tpzz tkpzz) | ((refine' add_SC [10] (by with_unfolding_all exact rfl) ?_ ?_); (next => ((try rw [sizeLine_eq]); (try simp only [List.length_append, List.length_cons, List.length_nil]); with_reducible_and_instances lia)); intro tpzz tkpzz)); (try revert tkpzz); (try revert tpzz); (try revert tkpzz); (try revert tpzz); (try revert tkpzz); (try revert tpzz); (try revert tkpzz); (try revert tpzz); (try revert tkpzz); (try revert tpzz); (try revert tkpzz); (try revert tpzz); intros
  k_with "my exec For" => (try k_fold); (k_dflt (refine For_k (F := by k_asm) ?_))
  k_with "my inplaceOp Add" => ((dsimp only; (with_reducible refine' iadd_S ?_ ?_); (next => ((try rw [sizeLine_eq]); (try simp only [List.length_append, List.length_cons, List.length_nil]); with_reducible_and_instances lia)); intro tpzz tkpzz)); (try revert tkpzz); (try revert tpzz); intros
  k_with "my k_mem" => first | with_reducible assumption | (refine memOf ?_; with_reducible assumption)
  k_with "my getMethod ref" => (k_dflt (refine' method_acc (by k_in) (by (refine' acc_at (by k_asm) (by k_mem) (by k_mem))) (by k_is) (by k_is) (by k_is) (by first | exact looks_typeIn (by k_in) (by k_is) | exact Looks.of_pure PySem.F.type_list_append) (by decide) (by rfl) ?_; k_whole))
  k_with "my subscriptTail" => (k_dflt (refine' tup1 (by k_asm) (by k_mem) ?_))
  k_with "my truthy str" => (k_dflt (refine' truthy_S (by with_reducible assumption) ?_))
  k_with "my k_all" => with_reducible assumption
  k_with "my exec For Name Call cons nil" => (try k_fold); (k_dflt (refine For_k (F := by k_asm) ?_))
  k_with "my call type:range" => refine Stop.mk ?_
  k_with "my call builtin:list.append" => ((k_dflt (refine' append_K (by k_asm) (by k_asm) (by k_upd) ?_ (by (simp [sizeLine_eq]; lia)); k_whole); intro hpzz Fpzz Npzz; (try k_sweep))); (try revert Npzz); (try revert Fpzz); (try revert hpzz); intros
  k_with "my call ref" => (try k_fold); refine Stop.mk ?_
  unfold Does
  intro dp un gd env outer A₀ base h₀ L m sH sG sD sT sO R p loose mean mg mb hf hk B F X N T hd hu hret
  k_dflt (refine' code_defF ?k1 ?k2 ?k3 ?k4 ?k5 ?kA ?kF ?kK ?k6 ?k7 ?k8 ?k9 ?kB ?_ ?c2 ?c3 ?c4 ?c5; (case kA => exact rfl); (case kF => exact hf); (case kK => exact hk); (case k1 => exact B); (case k2 => exact F); (case k3 => exact X); (case k4 => exact N); (case k5 => exact T); (case k6 => k_is); (case k7 => k_is); (case k8 => (refine room_of hd ?_; dsimp only; lia)); (case k9 => first | exact BindsTo.of_eq rfl | exact binds_K (by k_in) rfl (by k_is) rfl rfl rfl); (case c5 => decide); (case kB => exact locs rfl); (case c2 => exact rfl); (case c3 => exact rfl); (case c4 => exact rfl); k_whole)
  intro g' L' h1 FG' F' N' B' X' T'
  (try dsimp only)
  (try k_fold)
  k_steps
  refine Stop.go ?_
  rename News _ _ _ _ => N9
  refine Does.useG (lexer2_ w [] (by decide) _ rfl _ hc1 hc2 rest) (by k_asm) (by k_asm) (by k_asm) N9 (by k_asm) rfl rfl (by walk_at "ROOM") (by walk_at "ROOM") ?_
  intro q tn sv hq hqn hsv hlt h159 h9 k9 F9 N9 g9
  cases hsv
  k_steps
  refine Stop.go ?_
  rename_i rw zh1 lrw D zh2 lD zh3 zh4 zh5 zh6 F9 N9
  have hl := hq.l
  have hR9 : ∀ p ∈ ((159, tabT c0) :: rest : Led), LOff q p := by
    have e0 : ∀ a : Addr, @LT.lt Nat _ a q.cell → a ≠ q.sg ∧ a ≠ q.dlx ∧ a ≠ q.pb := fun a ha => ⟨fun e => by have e : @Eq Nat _ _ := e; lia, fun e => by have e : @Eq Nat _ _ := e; lia, fun e => by have e : @Eq Nat _ _ := e; lia⟩
    exact List.forall_mem_cons.mpr ⟨.inl (e0 _ h159), fun p hp => .inl (e0 _ (hlt p hp))⟩
  have hR0 : ∀ p ∈ ((rw, ls 0 []) :: (159, tabT c0) :: rest : Led), LOff q p := by
    refine List.forall_mem_cons.mpr ⟨.inl ⟨?_, ?_, ?_⟩, hR9⟩ <;> exact fun e => by have e : @Eq Nat _ _ := e; lia
  have N8 : News g' L' zh6 (lexL w q 0 [] 1 tn 0 [] ((rw, ls 0 []) :: (159, tabT c0) :: rest)) := by
    intro p hp
    refine N9 p ?_
    revert p hp
    (repeat' (first | exact List.forall_mem_nil _ | refine List.forall_mem_cons.mpr ⟨by (repeat (first | with_reducible assumption | exact List.mem_cons_self | apply List.mem_cons_of_mem)), ?_⟩))
    (try (intro p9 hp9; repeat (first | exact hp9 | exact List.mem_append_left _ hp9 | exact List.mem_append_right _ hp9 | apply List.mem_cons_of_mem)))
  refine Does.useG (push_tok w q hq (lex_off N8 hR0) _ (by simp)) (by k_asm) (by k_asm) (by k_asm) N8 (by k_asm) rfl rfl (by walk_at "ROOM") (by walk_at "ROOM") ?_
  intro h9' k9' F8 N7 g9'
  clear N9 N8
  k_steps
  refine Stop.go ?_
  rename News _ _ _ _ => N8
  refine Does.useG (get_push w q hq (lex_off N8 hR0) _ (by simp)) (by k_asm) (by k_asm) (by k_asm) N8 (by k_asm) rfl rfl (by walk_at "ROOM") (by walk_at "ROOM") ?_
  intro h9' k9' F8 N7 g9'
  clear N8
  k_steps
  refine Stop.go ?_
  rename Fr _ _ _ _ => F1
  rename News _ _ _ _ => N1
  have hrw : q.sg < rw ∧ q.fn < rw ∧ q.c < rw ∧ q.cell < rw ∧ q.pb < rw ∧ q.lx < rw ∧ q.dlx < rw ∧ q.st < rw ∧ q.dst < rw := ⟨lrw.1, lrw.2.1, lrw.2.2.1, lrw.2.2.2.1, lrw.2.2.2.2.1, lrw.2.2.2.2.2.1, lrw.2.2.2.2.2.2.1, lrw.2.2.2.2.2.2.2.1, lrw.2.2.2.2.2.2.2.2.1⟩
  have hRw0 : ∀ p ∈ ((159, tabT c0) :: rest : Led), p.1 ≠ rw := fun p hp => Nat.ne_of_lt (allLt_mem ((159, tabT c0) :: rest) lrw.2.2.2.2.2.2.2.2.2 p hp)
  (try k_fold)
  refine whl (σ := ES) (fun s => [("line", .ref q.lx), ("rows", .ref rw), ("count", .int (s.c : Int) s.tc), ("job", s.jx)]) (fun s => lexL w q s.pk s.pv 1 tn 0 [] ((rw, ls s.rk s.rv) :: s.R))
    (fun s => EndB s.jobs s.c s.todo ∧ s.done ++ s.todo = rows ∧ RowsV s.R s.done s.rv ∧ (∀ p ∈ s.R, LOff q p) ∧ (∀ p ∈ s.R, p.1 ≠ rw) ∧ (∀ p ∈ ((159, tabT c0) :: rest : Led), p ∈ s.R) ∧ 300 ≤ s.c ∧
      ((s.jobs = [] ∧ ∃ t, s.jx = .str (Str.ofString "") t) ∨ ∃ j js t, s.jobs = j :: js ∧ s.jx = .str (S (j.enc 49)) t ∧ LineV js s.pv)) (fun s => s.todo.length)
    ⟨[t], rows, [], 300, ?tok, .str (S (t.enc 49)) tt, 0 + 1 + 1, [], 0, [], (159, tabT c0) :: rest⟩ F1 N1 (fun _ h => h) ?h2 ?h3 ?turn
  case h2 => repeat' (first | exact List.forall_mem_nil _ | refine List.forall_mem_cons.mpr ⟨by first | rfl | (dsimp only; refine Eq.trans (b := some (Value.int _ _)) rfl ?_; refine int_cong ?_; simp only [List.length_append, List.length_cons, List.length_nil]; lia), ?_⟩)
  case h3 => exact ⟨hE, rfl, .nil, fun p hp => hR0 p (List.mem_cons_of_mem _ hp), hRw0, fun _ h => h, Nat.le_refl _, .inr ⟨t, [], tt, rfl, rfl, .nil⟩⟩
  case turn =>
    intro End1 hE1
    rintro ⟨jobs, todo, done, c, tc, jx, pk, pv, rk, rv, R1⟩ u h tk2 hJ0 F2 N2
    (try k_fold)
    refine andE8 hJ0 ?_
    clear hJ0
    intro hE1 hrows hRV hLO hRw hsub h300 hj
    clear F1 N1
    (try dsimp only at hE1 hrows hRV hLO hRw hsub h300 hj F2 N2 ⊢)
    rcases hj with ⟨rfl, tj, rfl⟩ | ⟨j, js, tj, rfl, rfl, hLV⟩
    · cases hE1
      have hb0 : (((Str.ofString "").length : Int) != 0) = false := by decide
      k_steps
      rename Fr _ _ _ _ => F9
      rename News _ _ _ _ => N9
      (try simp only [List.push_toArray] at N9)
      refine hret rw rk rv R1 ?_ hsub _ _ F9 (fun p hp => N9 p ?_)
      · rw [← hrows, List.append_nil]; exact hRV
      · revert p hp
        (repeat' (first | exact List.forall_mem_nil _ | refine List.forall_mem_cons.mpr ⟨by (repeat (first | with_reducible assumption | exact List.mem_cons_self | apply List.mem_cons_of_mem)), ?_⟩))
        (try (intro p9 hp9; repeat (first | exact hp9 | exact List.mem_append_left _ hp9 | exact List.mem_append_right _ hp9 | apply List.mem_cons_of_mem)))
    · cases hE1 with
      | step hF hjl hE2 =>
        rename_i k y c' rs rows2
        have hb0 : (!(j.enc 49).isEmpty) = true := by
          obtain ⟨cc, rr, e, _⟩ := enc_head (k := 49) j
          rw [e]; rfl
        have hjz : (j.enc 49).length ≤ 1000000 := by
          have := (hF.ok.1 j List.mem_cons_self).2
          lia
        k_steps
        refine Stop.go ?_
        rename News _ _ _ _ => N9
        refine Does.useG (acc_new w _ _ _) (by k_asm) (by k_asm) (by k_asm) N9 (by k_asm) rfl rfl (by walk_at "ROOM") (by walk_at "ROOM") ?_
        intro x d n1 hh kt hdx hld hlx h9' k9' F8 N7 g9'
        clear N9
        have hxd : ∀ a ∈ [q.sg, q.fn, q.c, q.cell, q.pb, q.lx, q.dlx, q.st, q.dst], @Ne Nat a x ∧ @Ne Nat a d := by
          have e1 := fun p hp => And.intro (Nat.ne_of_lt (hlx p hp)) (Nat.ne_of_lt (hld p hp))
          simp only [List.forall_mem_cons] at e1 ⊢
          exact ⟨e1.1, e1.2.1, e1.2.2.1, e1.2.2.2.1, e1.2.2.2.2.1, e1.2.2.2.2.2.1, e1.2.2.2.2.2.2.1, e1.2.2.2.2.2.2.2.1, e1.2.2.2.2.2.2.2.2.1, List.forall_mem_nil _⟩
        have hap : ∀ p ∈ lexL w q pk pv 1 tn 0 [] ((rw, ls rk rv) :: R1), Apart x d p := fun p hp => .inl ⟨Nat.ne_of_lt (hlx p hp), Nat.ne_of_lt (hld p hp)⟩
        have hxw : @LT.lt Nat _ rw d ∧ @LT.lt Nat _ rw x := ⟨hld (rw, ls rk rv) (by (first | ((repeat (first | with_reducible assumption | with_reducible exact List.mem_cons_self | apply List.mem_cons_of_mem)); done) | simp)), hlx (rw, ls rk rv) (by (first | ((repeat (first | with_reducible assumption | with_reducible exact List.mem_cons_self | apply List.mem_cons_of_mem)); done) | simp))⟩
        k_steps
        refine Stop.go ?_
        rename News _ _ _ _ => N9
        have N8 : News g' L' _ (acc x d [] n1 hh kt (.int 0 _) (lexL w q pk pv 1 tn 0 [] ((rw, ls rk rv) :: R1))) := fun p hp => N9 p (List.mem_cons_of_mem _ hp)
        refine Does.useG (push_ w hdx hap (by simp)) (by k_asm) (by k_asm) (by k_asm) N8 (by k_asm) rfl rfl (by walk_at "ROOM") (by walk_at "ROOM") ?_
        intro q1 n2 hq1 h9' k9' F8 N7 g9'
        clear N9 N8
        k_steps
        refine Stop.go ?_
        rename News _ _ _ _ => N9
        have N8 : News g' L' _ (acc x d [.ref q1] n2 hh kt (.int 0 _) ((q1, tupO _ (j.enc 49) tj) :: lexL w q pk pv 1 tn 0 [] ((rw, ls rk rv) :: R1))) := fun p hp => N9 p (by
          revert p hp
          (repeat' (first | exact List.forall_mem_nil _ | refine List.forall_mem_cons.mpr ⟨by (repeat (first | with_reducible assumption | exact List.mem_cons_self | apply List.mem_cons_of_mem)), ?_⟩))
          (try (intro p9 hp9; repeat (first | exact hp9 | exact List.mem_append_left _ hp9 | exact List.mem_append_right _ hp9 | apply List.mem_cons_of_mem))))
        refine Does.useG (front_ w (ts := [j]) (vs := [.ref q1]) (RR := (q1, tupO _ (j.enc 49) tj) :: lexL w q pk pv 1 tn 0 [] ((rw, ls rk rv) :: R1)) hdx (List.forall_mem_cons.mpr ⟨.inr ⟨_, rfl, by decide⟩, hap⟩) (by exact Paired.cons ⟨q1, _, _, rfl, List.mem_cons_self⟩ Paired.nil) hF) (by k_asm) (by k_asm) (by k_asm) N8 (by k_asm) rfl rfl (by walk_at "ROOM") (by walk_at "ROOM") ?_
        intro T ta tb vs1 n3 iv1 R2 hsubR hPV hapR h9' k9' F8 N7 g9'
        clear N9 N8
        obtain ⟨RP, hP1, hP2⟩ := hPV.own
        have hle := hF.le
        have N8 : News g' L' h9' ((T, { cls := .type "tuple", data := .seq [.int (y : Int) ta, .int (c' : Int) tb].toArray }) :: lexL w q pk pv 1 tn 0 [] ((rw, ls rk rv) :: acc x d vs1 n3 hh kt iv1 (RP ++ R1))) := by
          intro p hp
          refine N7 p ?_
          have hin : ∀ p ∈ lexL w q pk pv 1 tn 0 [] ((rw, ls rk rv) :: R1), p ∈ R2 := fun p hp => hsubR p (List.mem_cons_of_mem _ hp)
          simp only [List.mem_cons, List.mem_append] at hp
          rcases hp with hp | hp | hp | hp | hp | hp | hp | hp | hp | hp | hp | hp | hp | hp | hp
          · rw [hp]; exact List.mem_cons_self
          · exact List.mem_cons_of_mem _ (List.mem_cons_of_mem _ (List.mem_cons_of_mem _ (hin p (by simp [hp]))))
          · exact List.mem_cons_of_mem _ (List.mem_cons_of_mem _ (List.mem_cons_of_mem _ (hin p (by simp [hp]))))
          · exact List.mem_cons_of_mem _ (List.mem_cons_of_mem _ (List.mem_cons_of_mem _ (hin p (by simp [hp]))))
          · exact List.mem_cons_of_mem _ (List.mem_cons_of_mem _ (List.mem_cons_of_mem _ (hin p (by simp [hp]))))
          · exact List.mem_cons_of_mem _ (List.mem_cons_of_mem _ (List.mem_cons_of_mem _ (hin p (by simp [hp]))))
          · exact List.mem_cons_of_mem _ (List.mem_cons_of_mem _ (List.mem_cons_of_mem _ (hin p (by simp [hp]))))
          · exact List.mem_cons_of_mem _ (List.mem_cons_of_mem _ (List.mem_cons_of_mem _ (hin p (by simp [hp]))))
          · exact List.mem_cons_of_mem _ (List.mem_cons_of_mem _ (List.mem_cons_of_mem _ (hin p (by simp [hp]))))
          · exact List.mem_cons_of_mem _ (List.mem_cons_of_mem _ (List.mem_cons_of_mem _ (hin p (by simp [hp]))))
          · exact List.mem_cons_of_mem _ (List.mem_cons_of_mem _ (List.mem_cons_of_mem _ (hin p (by simp [hp]))))
          · rw [hp]; exact List.mem_cons_of_mem _ List.mem_cons_self
          · rw [hp]; exact List.mem_cons_of_mem _ (List.mem_cons_of_mem _ List.mem_cons_self)
          · exact List.mem_cons_of_mem _ (List.mem_cons_of_mem _ (List.mem_cons_of_mem _ (hP2 p hp).1))
          · exact List.mem_cons_of_mem _ (List.mem_cons_of_mem _ (List.mem_cons_of_mem _ (hin p (by simp [hp]))))
        clear N7
        have hRPw : ∀ p ∈ RP ++ R1, p.1 ≠ rw := by
          intro p hp
          rcases List.mem_append.mp hp with hp | hp
          · intro e
            have e1 := (N8 p (by simp [hp])).1
            have e2 := (N8 (rw, ls rk rv) (by (first | ((repeat (first | with_reducible assumption | with_reducible exact List.mem_cons_self | apply List.mem_cons_of_mem)); done) | simp))).1
            rw [e, e2] at e1
            have e3 := (hP2 p hp).2
            rw [← Option.some.inj e1] at e3
            exact absurd e3 (by simp)
          · exact hRw p hp
        have hRPx : ∀ p ∈ RP ++ R1, Apart x d p := by
          intro p hp
          rcases List.mem_append.mp hp with hp | hp
          · exact .inr ⟨_, (hP2 p hp).2, by decide⟩
          · exact hap p (by simp [hp])
        have hRPo : ∀ p ∈ RP ++ R1, LOff q p := by
          intro p hp
          rcases List.mem_append.mp hp with hp | hp
          · exact .inr ⟨_, (hP2 p hp).2, by decide, by decide⟩
          · exact hLO p hp
        k_steps
        refine Stop.go ?_
        rename News _ _ _ _ => N9
        (try dsimp only [List.append_nil])
        refine Does.useG (acc_count w x d n3 hh kt iv1 vs1 _) (by k_asm) (by k_asm) (by k_asm) (toA fun p hp => N9 p (List.mem_cons_of_mem _ hp)) (by k_asm) rfl rfl (by walk_at "ROOM") (by walk_at "ROOM") ?_
        intro t9 h9' k9' F8 N7 g9'
        have N8 := toB N7
        clear N9 N7
        have hrv : rv.length ≤ 400 := by
          have := hRV.length
          have := congrArg List.length hrows
          simp only [List.length_append, List.length_cons] at this
          lia
        k_steps
        refine Stop.go ?_
        rename News _ _ _ _ => N9
        rename_i T2 zA lT2 zB F9x zq9 ze9
        simp only [List.push_toArray] at N9
        have hx2 : ∃ a b e, News g' L' zB ((T2, tup3 (c' - c, y, vs1.length) a b e) :: lexL w q pk pv 1 tn 0 [] ((rw, ls (rk + 1) (rv ++ [.ref T2])) :: acc x d vs1 n3 hh kt iv1 (RP ++ R1))) := ⟨_, _, _, N9⟩
        obtain ⟨ta2, tb2, tc2, N7⟩ := hx2
        clear N9
        have N8 : News g' L' zB (lexL w q pk pv 1 tn 0 [] ((rw, ls (rk + 1) (rv ++ [.ref T2])) :: acc x d vs1 n3 hh kt iv1 ((T2, tup3 (c' - c, y, vs1.length) ta2 tb2 tc2) :: (RP ++ R1)))) := by
          intro p hp
          refine N7 p ?_
          revert p hp
          (repeat' (first | exact List.forall_mem_nil _ | refine List.forall_mem_cons.mpr ⟨by (repeat (first | with_reducible assumption | exact List.mem_cons_self | apply List.mem_cons_of_mem)), ?_⟩))
          (try (intro p9 hp9; repeat (first | exact hp9 | exact List.mem_append_left _ hp9 | exact List.mem_append_right _ hp9 | apply List.mem_cons_of_mem)))
        clear N7
        have hT2w : @LT.lt Nat _ rw T2 := lT2.2.2.2.2.2.2.2.2.2.1
        have hge : ∀ a : Addr, @LE.le Nat _ rw a → a ≠ q.sg ∧ a ≠ q.dlx ∧ a ≠ q.pb := fun a ha => ⟨fun e => by have e : @Eq Nat _ _ := e; lia, fun e => by have e : @Eq Nat _ _ := e; lia, fun e => by have e : @Eq Nat _ _ := e; lia⟩
        generalize hRR : (T2, tup3 (c' - c, y, vs1.length) ta2 tb2 tc2) :: (RP ++ R1) = RR at N8
        have hRRw : ∀ p ∈ RR, p.1 ≠ rw := by
          rw [← hRR]
          exact List.forall_mem_cons.mpr ⟨Nat.ne_of_gt hT2w, hRPw⟩
        have hRRx : ∀ p ∈ RR, Apart x d p := by
          rw [← hRR]
          exact List.forall_mem_cons.mpr ⟨.inr ⟨_, rfl, by decide⟩, hRPx⟩
        have hRRo : ∀ p ∈ RR, LOff q p := by
          rw [← hRR]
          exact List.forall_mem_cons.mpr ⟨.inr ⟨_, rfl, by decide, by decide⟩, hRPo⟩
        have hRRP : ∀ p ∈ RP, p ∈ RR := fun p hp => by rw [← hRR]; exact List.mem_cons_of_mem _ (List.mem_append_left _ hp)
        have hRR1 : ∀ p ∈ R1, p ∈ RR := fun p hp => by rw [← hRR]; exact List.mem_cons_of_mem _ (List.mem_append_right _ hp)
        (try dsimp only [List.append_nil])
        refine Does.useG (acc_count w x d n3 hh kt iv1 vs1 _) (by k_asm) (by k_asm) (by k_asm) (toA N8) (by k_asm) rfl rfl (by walk_at "ROOM") (by walk_at "ROOM") ?_
        intro t9 h9' k9' F8 N7 g9'
        have N9 := toB N7
        clear N8 N7
        have hvs : vs1.length = rs.length := by have := hP1.length; simpa using this.symm
        k_steps
        refine Stop.go ?_
        rename Fr _ _ _ _ => F1
        refine turns_range (σ := FT) (n := vs1.length) (fun s => [("line", .ref q.lx), ("rows", .ref rw), ("count", .int (c' : Int) tb), ("pile", .ref x)]) (fun s => lexL w q s.pk s.pv 1 tn 0 [] ((rw, ls (rk + 1) (rv ++ [.ref T2])) :: acc x d s.vs s.nn hh kt iv1 RR))
          (fun i s => PileV 49 RP (rs.drop i).reverse s.vs ∧ LineV (js ++ rs.take i) s.pv) ⟨vs1, n3, pk, pv⟩ rfl (by lia) F1 N9 (fun _ h => h) ?h2 ⟨by simpa using hP1, by simpa using hLV⟩ ?turn ?done
        case h2 => repeat' (first | exact List.forall_mem_nil _ | refine List.forall_mem_cons.mpr ⟨by first | rfl | (dsimp only; refine Eq.trans (b := some (Value.int _ _)) rfl ?_; refine int_cong ?_; simp only [List.length_append, List.length_cons, List.length_nil]; lia), ?_⟩)
        case turn =>
          rintro i v ⟨vs, nn, pk2, pv2⟩ u h tk3 own I g tk0 hi hJ0 hJ1 hoff hown hownI F3 N3
          intro Qw
          (try k_fold)
          obtain ⟨tv, rfl⟩ := hJ0
          obtain ⟨hP, hL⟩ := hJ1
          clear F1 N9
          (try dsimp only at hP hL hoff F3 N3 ⊢)
          have hi' : i < rs.length := by lia
          rw [List.drop_eq_getElem_cons hi', List.reverse_cons] at hP
          obtain ⟨vs0, qi, ai, bi, rfl, hqi, hP0⟩ := hP.snoc
          have hl0 : vs0.length < 900 := by
            have := hP0.length
            simp at this
            lia
          have hI1 : ∀ p ∈ own, LOff q p := fun p hp => by
            rw [show p = (I, p.2) from by rw [← hownI p hp]]
            exact .inl ⟨fun e => hoff (q.sg, ls 0 []) (by (first | ((repeat (first | with_reducible assumption | with_reducible exact List.mem_cons_self | apply List.mem_cons_of_mem)); done) | simp)) e.symm, fun e => hoff (q.dlx, netO w q.qa 1 tn (.ref q.st) q.pb) (by (first | ((repeat (first | with_reducible assumption | with_reducible exact List.mem_cons_self | apply List.mem_cons_of_mem)); done) | simp)) e.symm, fun e => hoff (q.pb, ls pk2 pv2) (by (first | ((repeat (first | with_reducible assumption | with_reducible exact List.mem_cons_self | apply List.mem_cons_of_mem)); done) | simp)) e.symm⟩
          have hI2 : ∀ p ∈ own, Apart x d p := fun p hp => by
            rw [show p = (I, p.2) from by rw [← hownI p hp]]
            exact .inl ⟨fun e => hoff (x, accObj d (vs0 ++ [Value.ref qi]).toArray nn) (by (first | ((repeat (first | with_reducible assumption | with_reducible exact List.mem_cons_self | apply List.mem_cons_of_mem)); done) | simp)) (Eq.symm e), fun e => hoff (d, isz hh kt iv1) (by (first | ((repeat (first | with_reducible assumption | with_reducible exact List.mem_cons_self | apply List.mem_cons_of_mem)); done) | simp)) (Eq.symm e)⟩
          have N4 : News g' L' h (lexL w q pk2 pv2 1 tn 0 [] ((rw, ls (rk + 1) (rv ++ [.ref T2])) :: acc x d (vs0 ++ [.ref qi]) nn hh kt iv1 (RR ++ own))) := N3
          clear N3
          have hRx : ∀ p ∈ ((rw, ls (rk + 1) (rv ++ [.ref T2])) :: (RR ++ own) : Led), Apart x d p := by
            refine List.forall_mem_cons.mpr ⟨.inl ⟨Nat.ne_of_lt hxw.2, Nat.ne_of_lt hxw.1⟩, fun p hp => ?_⟩
            rcases List.mem_append.mp hp with hp | hp
            · exact hRRx p hp
            · exact hI2 p hp
          k_steps
          refine Stop.go ?_
          rename News _ _ _ _ => N4
          refine Does.useG (pop_ w hdx (lex_apart hxd hRx) (by lia)) (by k_asm) (by k_asm) (by k_asm) (toA N4) (by k_asm) rfl rfl (by walk_at "ROOM") (by walk_at "ROOM") ?_
          intro h9' k9' F8 N7 g9'
          have N9 := toB N7
          clear N4 N7
          have hm9 : (qi, tupO ai (rs[i].enc 49) bi) ∈ lexL w q pk2 pv2 1 tn 0 [] ((rw, ls (rk + 1) (rv ++ [.ref T2])) :: acc x d vs0 (nn + 1) hh kt iv1 (RR ++ own)) := by
            simp [hRRP _ hqi]
          k_steps
          refine Stop.go ?_
          rename News _ _ _ _ => N8
          have hlo : ∀ p ∈ ((rw, ls (rk + 1) (rv ++ [.ref T2])) :: acc x d vs0 (nn + 1) hh kt iv1 (RR ++ own) : Led), LOff q p :=
            List.forall_mem_cons.mpr ⟨.inl (hge _ (Nat.le_refl _)), List.forall_mem_cons.mpr ⟨.inl (hge _ (Nat.le_of_lt hxw.2)), List.forall_mem_cons.mpr ⟨.inl (hge _ (Nat.le_of_lt hxw.1)), fun p hp => (List.mem_append.mp hp).elim (hRRo p) (hI1 p)⟩⟩⟩
          have hpl : pv2.length ≤ 1000 := by
            have := hL.length
            simp only [List.length_append, List.length_take] at this
            lia
          refine Does.useG (push_tok w q hq (lex_off N8 hlo) _ hpl) (by k_asm) (by k_asm) (by k_asm) N8 (by k_asm) rfl rfl (by walk_at "ROOM") (by walk_at "ROOM") ?_
          intro h9' k9' F8 N7 g9'
          clear N8
          k_steps
          rename Fr _ _ _ _ => F9
          rename News _ _ _ _ => N9
          (try simp only [List.push_toArray] at N9)
          refine fend_next ⟨vs0, nn + 1, pk2 + 1, pv2 ++ [.str (S (rs[i].enc 49)) bi]⟩ F9 N9 (fun p hp => ?_) (fun p hp => ?_) (led_off hoff) ?_ ⟨?_, ?_⟩
          · simp [hp]
          · dsimp only at hp
            revert p hp
            (repeat' (first | exact List.forall_mem_nil _ | refine List.forall_mem_cons.mpr ⟨by (repeat (first | with_reducible assumption | exact List.mem_cons_self | apply List.mem_cons_of_mem)), ?_⟩))
            (try (intro p9 hp9; repeat (first | exact hp9 | exact List.mem_append_left _ hp9 | exact List.mem_append_right _ hp9 | apply List.mem_cons_of_mem)))
          · repeat' (first | exact List.forall_mem_nil _ | refine List.forall_mem_cons.mpr ⟨by first | rfl | (dsimp only; refine Eq.trans (b := some (Value.int _ _)) rfl ?_; refine int_cong ?_; simp only [List.length_append, List.length_cons, List.length_nil]; lia), ?_⟩)
          · simpa using hP0
          · dsimp only
            rw [List.take_add_one, ← List.append_assoc, List.getElem?_eq_getElem hi']
            exact pd_append hL (.cons ⟨_, rfl⟩ .nil)
        case done =>
          rintro ⟨vs, nn, pk2, pv2⟩ u h tk3 g tk0 hZ0 F3 N3
          obtain ⟨hP, hL⟩ := hZ0
          clear F1 N9
          (try dsimp only at hP hL F3 N3 ⊢)
          rw [hvs, List.take_length] at hL
          k_steps
          refine Stop.go ?_
          have hlo : ∀ p ∈ ((rw, ls (rk + 1) (rv ++ [.ref T2])) :: acc x d vs nn hh kt iv1 RR : Led), LOff q p :=
            List.forall_mem_cons.mpr ⟨.inl (hge _ (Nat.le_refl _)), List.forall_mem_cons.mpr ⟨.inl (hge _ (Nat.le_of_lt hxw.2)), List.forall_mem_cons.mpr ⟨.inl (hge _ (Nat.le_of_lt hxw.1)), hRRo⟩⟩⟩
          have hlast : done ++ [(c' - c, y, rs.length)] ++ rows2 = rows := by rw [← hrows]; simp
          have hrvn : RowsV RR (done ++ [(c' - c, y, rs.length)]) (rv ++ [.ref T2]) := by
            refine pd_append (hRV.mono hRR1) (.cons ⟨T2, ta2, tb2, tc2, rfl, ?_⟩ .nil)
            rw [← hRR, hvs]
            exact List.mem_cons_self
          have hpl : pv2.length ≤ 1000 := by
            have := hL.length
            simp only [List.length_append] at this
            lia
          generalize hjj : js ++ rs = jj at hL hE2
          rcases jj with _ | ⟨j2, js2⟩
          · cases hL
            refine Does.useG (get_nil w q hq (lex_off N3 hlo)) (by k_asm) (by k_asm) (by k_asm) N3 (by k_asm) rfl rfl (by walk_at "ROOM") (by walk_at "ROOM") ?_
            intro t0 h9' k9' F8 N7 g9'
            clear N3
            k_steps
            rename Fr _ _ _ _ => F9
            rename News _ _ _ _ => N9
            (try simp only [List.push_toArray] at N9)
            (first | refine hE3 _ _ _ ?_ | refine hE2 _ _ _ ?_ | refine hE1 _ _ _ ?_)
            refine wend_next ⟨[], rows2, done ++ [(c' - c, y, rs.length)], c', tb, .str (Str.ofString "") t0, pk2, [], rk + 1, rv ++ [.ref T2], RR⟩ F9 N9 (fun p hp => ?_) ?_ ⟨hE2, hlast, hrvn, hRRo, hRRw, fun p hp => hRR1 p (hsub p hp), by dsimp only; lia, .inl ⟨rfl, t0, rfl⟩⟩ (by simp)
            · dsimp only at hp
              revert p hp
              (repeat' (first | exact List.forall_mem_nil _ | refine List.forall_mem_cons.mpr ⟨by (repeat (first | with_reducible assumption | exact List.mem_cons_self | apply List.mem_cons_of_mem)), ?_⟩))
              (try (intro p9 hp9; repeat (first | exact hp9 | exact List.mem_append_left _ hp9 | exact List.mem_append_right _ hp9 | apply List.mem_cons_of_mem)))
            · repeat' (first | exact List.forall_mem_nil _ | refine List.forall_mem_cons.mpr ⟨by first | rfl | (dsimp only; refine Eq.trans (b := some (Value.int _ _)) rfl ?_; refine int_cong ?_; simp only [List.length_append, List.length_cons, List.length_nil]; lia), ?_⟩)
          · cases hL with
            | cons hv hL2 =>
              obtain ⟨t0, rfl⟩ := hv
              simp only [List.length_cons] at hpl
              refine Does.useG (get_push w q hq (lex_off N3 hlo) _ (by lia)) (by k_asm) (by k_asm) (by k_asm) N3 (by k_asm) rfl rfl (by walk_at "ROOM") (by walk_at "ROOM") ?_
              intro h9' k9' F8 N7 g9'
              clear N3
              k_steps
              rename Fr _ _ _ _ => F9
              rename News _ _ _ _ => N9
              (try simp only [List.push_toArray] at N9)
              (first | refine hE3 _ _ _ ?_ | refine hE2 _ _ _ ?_ | refine hE1 _ _ _ ?_)
              refine wend_next ⟨j2 :: js2, rows2, done ++ [(c' - c, y, rs.length)], c', tb, .str (S (j2.enc 49)) t0, pk2 + 1, _, rk + 1, rv ++ [.ref T2], RR⟩ F9 N9 (fun p hp => ?_) ?_ ⟨hE2, hlast, hrvn, hRRo, hRRw, fun p hp => hRR1 p (hsub p hp), by dsimp only; lia, .inr ⟨j2, js2, t0, rfl, rfl, hL2⟩⟩ (by simp)
              · dsimp only at hp
                revert p hp
                (repeat' (first | exact List.forall_mem_nil _ | refine List.forall_mem_cons.mpr ⟨by (repeat (first | with_reducible assumption | exact List.mem_cons_self | apply List.mem_cons_of_mem)), ?_⟩))
                (try (intro p9 hp9; repeat (first | exact hp9 | exact List.mem_append_left _ hp9 | exact List.mem_append_right _ hp9 | apply List.mem_cons_of_mem)))
              · repeat' (first | exact List.forall_mem_nil _ | refine List.forall_mem_cons.mpr ⟨by first | rfl | (dsimp only; refine Eq.trans (b := some (Value.int _ _)) rfl ?_; refine int_cong ?_; simp only [List.length_append, List.length_cons, List.length_nil]; lia), ?_⟩)

end
section
section
open PySem.Calls LCg PyProof.Rows
variable {prog : Program} {w : World} {A : Around} {sH : Heap} {sG : Array GenState} {sD : Drawn} {sT : Nat} {sO : OsState} {env : Env} {h₀ : Heap}
/-- what a turn of a for must leave, with the count of tokens -/
inductive FNextT {σ : Type} (h₀ : Heap) (L : Addr) (S : Heap → Nat → Shared) (wr : List Addr) (own : Led) (ps : σ → List (Str × Value)) (led : σ → Led) (J : Nat → σ → Prop) (s₂ : Shared) : Prop
  | mk (c' : σ) (h' : Heap) (tk : Nat) (m' : Str → Option Value) (news' : Led) (e : s₂ = S h' tk) (F : Fr h₀ L h' m') (N : News h₀ L h' news') (ho : ∀ p ∈ own, p ∈ news') (h1 : ∀ p ∈ led c', p ∈ news') (hw : ∀ p ∈ led c', p.1 ∉ wr) (h2 : ∀ p ∈ ps c', m' p.1 = some p.2) (h3 : J tk c') : FNextT h₀ L S wr own ps led J s₂
inductive FInvT {σ : Type} (h₀ : Heap) (L : Addr) (sG : Array GenState) (sD : Drawn) (sO : OsState) (wr : List Addr) (n : Nat) (St : Nat → Heap → Prop) (ps : σ → List (Str × Value)) (led : σ → Led) (J : Nat → Nat → σ → Prop) (k : Nat) (s₂ : Shared) : Prop
  | mk (c : σ) (h' : Heap) (tk : Nat) (m' : Str → Option Value) (i : Nat) (e : s₂ = (Shared.mk h' sG sD tk sO)) (st : St i h') (F : Fr h₀ L h' m') (N : News h₀ L h' (led c)) (hw : ∀ p ∈ led c, p.1 ∉ wr) (h2 : ∀ p ∈ ps c, m' p.1 = some p.2) (h3 : J i tk c) (hi : i ≤ n) (hk : k = n + 1 - i) : FInvT h₀ L sG sD sO wr n St ps led J k s₂
noncomputable def FEndT {σ : Type} (h₀ : Heap) (L : Addr) (sG : Array GenState) (sD : Drawn) (sO : OsState) (wr : List Addr) (own : Led) (ps : σ → List (Str × Value)) (led : σ → Led) (J : Nat → σ → Prop) (Q : Flow → Shared → Prop) (f : Flow) (s₂ : Shared) : Prop :=
  match f with
  | .ret v => Q (.ret v) s₂
  | .brk => Q .next s₂
  | _ => FNextT h₀ L (fun h t => (Shared.mk h sG sD t sO)) wr own ps led J s₂
theorem fendT_next {σ : Type} {L : Addr} {wr : List Addr} {own : Led} {ps : σ → List (Str × Value)} {led : σ → Led} {J : Nat → σ → Prop} {Q : Flow → Shared → Prop} {h' : Heap} {tk : Nat} {m' : Str → Option Value} {news' : Led} (c' : σ)
    (F : Fr h₀ L h' m') (N : News h₀ L h' news') (ho : ∀ p ∈ own, p ∈ news') (h1 : ∀ p ∈ led c', p ∈ news') (hw : ∀ p ∈ led c', p.1 ∉ wr) (h2 : ∀ p ∈ ps c', m' p.1 = some p.2) (h3 : J tk c') :
    FEndT h₀ L sG sD sO wr own ps led J Q .next (Shared.mk h' sG sD tk sO) := ⟨c', h', tk, m', news', rfl, F, N, ho, h1, hw, h2, h3⟩
/-- the turns of a for, as they stand -/
noncomputable def TurnsT (prog : Program) (w : World) (A : Around) (env : Env) (target : Expr) (body : List Stmt) (Q : Flow → Shared → Prop) (it : Value) (s₂ : Shared) : Prop :=
  codeAny (model prog w) A (.forLoop target it body [] env) (fun r s' => match r with | .ok f => Q f s' | .error e => cameBackBy (model prog w) A env (fun _ _ => False) e s') s₂
theorem For_kT {target iter : Expr} {body : List Stmt} {pos : Pos} {Q : Flow → Shared → Prop}
    (h : wpAny (model prog w) A (eval iter env) (fun xv s₁ => wpAny (model prog w) A (pyIter xv) (fun it s₂ => TurnsT prog w A env target body Q it s₂) (fun _ _ => False) s₁) (fun _ _ => False) (Shared.mk sH sG sD sT sO))
    (hs : ∀ x, foldedSetIterable iter env x = pure x := by intro _; rfl) :
    wpAny (model prog w) A (exec (.For target iter body [] pos) env) Q (fun _ _ => False) (Shared.mk sH sG sD sT sO) := wpAny_For h hs
theorem turns_kT {σ : Type} {target : Expr} {body : List Stmt} {I : Addr} {fp wr : List Addr} {n : Nat} {P Md : Nat → Value → Heap → Prop} {St : Nat → Heap → Prop} {m₀ : Str → Option Value} {news : Led} {Q : Flow → Shared → Prop}
    (W : KTurns prog w A target I fp wr n P Md St) (ps : σ → List (Str × Value)) (led : σ → Led) (J : Nat → Nat → σ → Prop) (c₀ : σ) (hmono : ∀ i tk tk' c, tk ≤ tk' → J i tk c → J i tk' c)
    (hlive : ∀ i h, St i h → ∀ b ∈ wr, ∃ o, h.get? b = some o) (hfp : env.locals ∉ fp) (hwr : ∀ b ∈ wr, h₀.get? b = none) (hst : St 0 sH)
    (F : Fr h₀ env.locals sH m₀) (N : News h₀ env.locals sH news) (h1 : ∀ p ∈ led c₀, p ∈ news) (hoff : ∀ p ∈ led c₀, p.1 ∉ wr) (h2 : ∀ p ∈ ps c₀, m₀ p.1 = some p.2) (h3 : J 0 sT c₀)
    (turn : ∀ i v c u h tk own, i < n → P i v h → J i tk c → (∀ p ∈ led c, p.1 ∉ wr) → (∀ b ∈ wr, ∃ o, (b, o) ∈ own) → (∀ p ∈ own, p.1 ∈ fp) → Fr h₀ env.locals h (kstB u (ps c)) → News h₀ env.locals h (led c ++ own) →
      wpAny (model prog w) A (assign target env v) (fun _ s₃ => wpAny (model prog w) A (execs body env) (FEndT h₀ env.locals sG sD sO wr own ps led (J (i + 1)) Q) (fun _ _ => False) s₃) (fun _ _ => False) (Shared.mk h sG sD tk sO))
    (done : ∀ c u h tk, J n tk c → Fr h₀ env.locals h (kstB u (ps c)) → News h₀ env.locals h (led c) → Q .next (Shared.mk h sG sD tk sO)) :
    TurnsT prog w A env target body Q (.ref I) (Shared.mk sH sG sD sT sO) := by
  have hE : PassesOwn (model prog w) A env (fun _ _ => False) := PassesOwn.never
  have hLw : env.locals ∉ wr := fun h => hfp (W.sub _ h)
  have old : ∀ b o, h₀.get? b = some o → b ∉ wr := fun b o e hb => by rw [hwr b hb] at e; cases e
  refine codeAny_forLoop_any
    (FInvT h₀ env.locals sG sD sO wr n St ps led J) ?_ (n + 1)
    ⟨c₀, sH, sT, m₀, 0, rfl, hst, F, fun p hp => N p (h1 p hp), hoff, h2, h3, Nat.zero_le _, rfl⟩
  rintro k s' ⟨c, h', tk, m', i, rfl, hst', F', N', hnw', hps, hJ, hi, rfl⟩
  have next : ∀ h₁ : Heap, (∀ b o, b ∉ wr → h'.get? b = some o → h₁.get? b = some o) → Fr h₀ env.locals h₁ m' ∧ News h₀ env.locals h₁ (led c) := fun h₁ hk₁ =>
    ⟨⟨F'.ns.at' fun o e => hk₁ _ o hLw e, fun b o e => hk₁ b o (old b o e) (F'.keep b o e), F'.above⟩, fun p hp => ⟨hk₁ _ _ (hnw' p hp) (N' p hp).1, (N' p hp).2⟩⟩
  by_cases hlt : i < n
  · refine grow_in (W.item i _ _ _ hlt hst' fun v h₁ tk₁ hMd hk₁ => fun hg => ?_)
    refine W.go i v _ _ _ hMd fun h₂ hP hst₂ hk₂ => ?_
    obtain ⟨F₂, N₂⟩ := next h₂ fun b o hb x => hk₂ b o hb (hk₁ b o hb x)
    have Nown : News h₀ env.locals h₂ (PyProof.Rows.ownOf h₀ fp h₂) := news_ownOf hfp
    have hJ₁ : J i tk₁ c := hmono _ _ _ _ hg hJ
    have t := turn i v c m' h₂ tk₁ (PyProof.Rows.ownOf h₀ fp h₂) hlt hP hJ₁ hnw' (fun b hb => by
      obtain ⟨o, ho⟩ := hlive _ _ hst₂ b hb
      exact ⟨o, mem_ownOf (W.sub b hb) (hwr b hb) ho⟩) ownOf_sub (by rw [kstB_id hps]; exact F₂) (fun p hp => (List.mem_append.mp hp).elim (N₂ p) (Nown p))
    refine wpAny_mono t (fun _ s₃ q => wpAny_mono q (fun f s₄ r => ?_) hE) hE
    have fin : FNextT h₀ env.locals (fun h t => (Shared.mk h sG sD t sO)) wr (PyProof.Rows.ownOf h₀ fp h₂) ps led (J (i + 1)) s₄ →
        ∃ k', k' < n + 1 - i ∧ FInvT h₀ env.locals sG sD sO wr n St ps led J k' s₄ := by
      rintro ⟨c', h₃, tk₃, m₃, news₃, rfl, F₃, N₃, ho₃, hl₃, hw₃, hp₃, hJ₃⟩
      refine ⟨n + 1 - (i + 1), Nat.sub_lt_sub_left (Nat.lt_succ_of_lt hlt) (Nat.lt_succ_self i), c', h₃, tk₃, m₃, i + 1, rfl, W.frame _ _ _ hst₂ fun b hb o e => ?_, F₃, fun p hp => N₃ p (hl₃ p hp), hw₃, hp₃, hJ₃, hlt, rfl⟩
      cases hn : h₀.get? b with
      | some o₀ =>
        have : o₀ = o := by have q := F₂.keep b o₀ hn; rw [e] at q; exact (Option.some.inj q).symm
        exact this ▸ F₃.keep b o₀ hn
      | none => exact (N₃ _ (ho₃ _ (mem_ownOf hb hn e))).1
    cases f with
    | ret v => exact r
    | brk => exact r
    | next => exact fin r
    | cont => exact fin r
  · have hin : i = n := by lia
    subst hin
    refine grow_in (W.done _ _ _ hst' fun h₁ tk₁ hk₁ => fun hg => wpAny_execs_nil ?_)
    obtain ⟨F₁, N₁⟩ := next h₁ hk₁
    exact done c m' h₁ tk₁ (hmono _ _ _ _ hg hJ) (by rw [kstB_id hps]; exact F₁) N₁
theorem turns_listT {σ : Type} {x : Str} {px : Pos} {body : List Stmt} {ax : Addr} {vs : List Value} {k : Nat} {m₀ : Str → Option Value} {news : Led} {Q : Flow → Shared → Prop}
    (ps : σ → List (Str × Value)) (led : σ → Led) (J : Nat → Nat → σ → Prop) (c₀ : σ) (hmono : ∀ i tk tk' c, tk ≤ tk' → J i tk c → J i tk' c) (hh : A.handled = none)
    (F : Fr h₀ env.locals sH m₀) (N : News h₀ env.locals sH news) (hm : (ax, ({ cls := .type "list", data := .seq vs.toArray k } : Obj)) ∈ news)
    (h1 : ∀ p ∈ led c₀, p ∈ news) (h2 : ∀ p ∈ ps c₀, m₀ p.1 = some p.2) (h3 : J 0 sT c₀)
    (turn : ∀ i v c u h tk own I, i < vs.length → vs[i]? = some v → J i tk c → (∀ p ∈ led c, p.1 ≠ I) → (∃ o, (I, o) ∈ own) → (∀ p ∈ own, p.1 = I ∨ p.1 = ax) → Fr h₀ env.locals h (kstB u (ps c)) → News h₀ env.locals h (led c ++ own) →
      let Qw := FEndT h₀ env.locals sG sD sO [I] own ps led (J (i + 1)) Q
      wpAny (model prog w) A (assign (.Name x px) env v) (fun _ s₃ => wpAny (model prog w) A (execs body env) Qw (fun _ _ => False) s₃) (fun _ _ => False) (Shared.mk h sG sD tk sO))
    (done : ∀ c u h tk, J vs.length tk c → Fr h₀ env.locals h (kstB u (ps c)) → News h₀ env.locals h (led c) → Q .next (Shared.mk h sG sD tk sO)) :
    wpAny (model prog w) A (pyIter (.ref ax)) (fun it s₂ => TurnsT prog w A env (.Name x px) body Q it s₂) (fun _ _ => False) (Shared.mk sH sG sD sT sO) := by
  have hl : sH.IsList ax vs.toArray := ⟨_, (N _ hm).1, rfl, _, rfl⟩
  have hlt : ax < sH.objs.size := Heap.lt_size (N _ hm).1
  refine wpAny_pyIter_list hl ?_
  have up : ∀ b o, sH.get? b = some o → (sH.push { cls := .type "list_iterator", data := .fields #[.ref ax, .int 0 0] }).get? b = some o := fun b o e => Heap.get?_push_of_some _ e
  refine turns_kT (sH := (sH.push { cls := .type "list_iterator", data := .fields #[.ref ax, .int 0 0] })) (sG := sG) (sD := sD) (sT := sT) (sO := sO) (KTurns.ofWalks (Walks.list (prog := prog) (w := w) hh sH.objs.size ax (Nat.ne_of_lt hlt) vs.toArray) (fun i v s₀ Q E st q => wpAny_of_eq (a := ()) rfl q)) ps led J c₀ hmono (fun i h st b hb => ?_) ?_ (fun b hb => ?_) ⟨⟨_, Heap.get?_push_size _ rfl, rfl, rfl⟩, hl.push _⟩
    (F.keeps up) (N.grown up) h1 (fun p hp hI => ?_) h2 h3 ?_ ?_
  · obtain ⟨o, e, _⟩ := st.1
    rw [List.mem_singleton.mp hb]; exact ⟨o, e⟩
  · intro hI
    rcases List.mem_cons.mp hI with e | hI
    · exact absurd F.ns.lt (e ▸ Nat.lt_irrefl _)
    · exact (N _ hm).2.1 (List.mem_singleton.mp hI).symm
  · rw [List.mem_singleton.mp hb]; exact next_is_new F
  · exact absurd (Heap.lt_size (N p (h1 p hp)).1) ((List.mem_singleton.mp hI) ▸ Nat.lt_irrefl _)
  · intro i v c u h tk own hi hv hJ hof hw hfp9 F₁ N₁
    exact turn i v c u h tk own sH.objs.size (by simpa using hi) (by simpa using hv) hJ (fun p hp e => hof p hp (by rw [e]; exact List.mem_singleton.mpr rfl)) (hw _ (List.mem_singleton.mpr rfl)) (fun p hp => by simpa using hfp9 p hp) F₁ N₁
  · intro c u h tk hJ F₁ N₁
    exact done c u h tk (by simpa using hJ) F₁ N₁
end

end
section
section
open PySem.Calls LCg Builtin.Str
variable {prog : Program} {w : World} {A : Around} {E : Value → Shared → Prop} {s : Shared} {sH : Heap} {sG : Array GenState} {sD : Drawn} {sT : Nat} {sO : OsState} {h₀ : Heap} {L : Addr} {m : Str → Option Value} {news : Led} {Q : Value → Shared → Prop}
theorem add_tok {x y : List Nat} {t u : Tok} (hx : x ≠ []) (hy : y ≠ []) (hz : x.length + y.length ≤ sizeLine) (h : Q (.str (S (x ++ y)) sT) (Shared.mk sH sG sD (sT + 1) sO)) : wpAny (model prog w) A (binaryOp .Add (.str (S x) t) (.str (S y) u)) Q E (Shared.mk sH sG sD sT sO) := by
  refine PySem.P.add_str ?_
  have h1 : ((S x).length == 0) = false := by
    rw [S_len]
    cases x with
    | nil => exact absurd rfl hx
    | cons a b => rfl
  have h2 : ((S y).length == 0) = false := by
    rw [S_len]
    cases y with
    | nil => exact absurd rfl hy
    | cons a b => rfl
  rw [h1, h2]
  refine ⟨?_, ?_⟩
  · rw [S_app, S_len, List.length_append]; exact hz
  · rw [S_app]; exact h
theorem int_sign {c : Nat} {t : Tok} (hc : c = 48 ∨ c = 49 ∨ c = 50) (h : Q (.int ((c - 48 : Nat) : Int) sT) (Shared.mk sH sG sD (sT + 1) sO)) : wpAny (model prog w) A (call (.type "int") [.str (S [c]) t]) Q E (Shared.mk sH sG sD sT sO) := by
  have e : PySem.intText? (S [c]) = some ((c - 48 : Nat) : Int) := by rcases hc with h | h | h <;> subst h <;> decide +kernel
  exact PySem.W.KIN.call_text e (by rw [S_len]; simp) h
theorem glued_S : ∀ zs : List (List Nat), PySem.Str.join (Str.ofString "") (zs.map S) = S zs.flatten
  | [] => rfl
  | [z] => by show S z = S _; simp
  | z :: y :: zs => by
    show S z ++ Str.ofString "" ++ PySem.Str.join (Str.ofString "") ((y :: zs).map S) = _
    rw [glued_S (y :: zs)]
    rw [show Str.ofString "" = S [] from rfl, S_app, S_app, List.append_nil]
    rfl
theorem strs_S {zs : List (List Nat)} {vs : List Value} (p : Paired (fun z v => ∃ t, v = .str (S z) t) zs vs) : ∃ l : List (Str × Tok), vs = strValues l ∧ l.map (·.1) = zs.map S := by
  induction p with
  | nil => exact ⟨[], rfl, rfl⟩
  | cons x _ ih =>
    obtain ⟨t, e⟩ := x
    obtain ⟨l, hv, ht⟩ := ih
    exact ⟨(_, t) :: l, by rw [e, hv]; rfl, by rw [List.map_cons, ht]; rfl⟩
theorem sum_S : ∀ zs : List (List Nat), ((zs.map S).map (·.length)).sum = zs.flatten.length
  | [] => rfl
  | z :: zs => by
    have := sum_S zs
    simp only [List.map_cons, List.sum_cons, List.flatten_cons, List.length_append, S_len] at this ⊢
    lia
theorem joinOk_S {zs : List (List Nat)} (hz : zs.flatten.length + zs.length ≤ 1000000) : JoinOk (Str.ofString "") (zs.map S) = true :=
  PyProof.Rows.joinOk_of_weight (by rw [sum_S, List.length_map]; lia) (by decide)
theorem join_S {zs : List (List Nat)} {D : Addr} {vs : List Value} {k : Nat} {t : Tok} (N : News h₀ L sH news) (hm : (D, ls k vs) ∈ news) (hp : Paired (fun z v => ∃ t, v = .str (S z) t) zs vs) (hz : zs.flatten.length + zs.length ≤ 1000000)
    (h : ∀ t' k, Q (.str (S zs.flatten) t') (Shared.mk sH sG sD k sO)) : wpAny (model prog w) A (call (.builtin "str.join") [.str (Str.ofString "") t, .ref D]) Q E (Shared.mk sH sG sD sT sO) := by
  obtain ⟨l, rfl, ht⟩ := strs_S hp
  have hl : sH.IsList D (strValues l).toArray := News.isList N hm
  refine PySem.SC.join hl ht (joinOk_S hz) fun t' k => ?_
  have e : Txt.join (Str.ofString "") (zs.map S) = S zs.flatten := by rw [← glued_S, ← StrLaws.glued_eq_join]; rfl
  rw [e]; exact h t' k
theorem join_tok {zs : List (List Nat)} {D : Addr} {vs : List Value} {k : Nat} {t : Tok} (N : News h₀ L sH news) (hm : (D, ls k vs) ∈ news) (hp : Paired (fun z v => ∃ t, v = .str (S z) t) zs vs) (hz : zs.flatten.length + zs.length ≤ 1000000) (h2 : 2 ≤ zs.length)
    (h : Q (.str (S zs.flatten) sT) (Shared.mk sH sG sD (sT + 1) sO)) : wpAny (model prog w) A (call (.builtin "str.join") [.str (Str.ofString "") t, .ref D]) Q E (Shared.mk sH sG sD sT sO) := by
  obtain ⟨l, rfl, ht⟩ := strs_S hp
  have hl : sH.IsList D (strValues l).toArray := News.isList N hm
  have hok := joinOk_S hz
  rw [← ht] at hok
  have hok' := hok
  unfold JoinOk at hok'
  rw [Bool.not_eq_true'] at hok'
  have e : Txt.join (Str.ofString "") (l.map (·.1)) = S zs.flatten := by rw [ht, ← glued_S, ← StrLaws.glued_eq_join]; rfl
  refine call_meets F.slot_str_join (typeIs_str _ _ _) F.entry_str_join (F.args_str_join_2 _ _) (meets_str_join_list _ t D l hok') ⟨hl, ?_⟩
  have hlen : l.length = zs.length := by have := congrArg List.length ht; simpa using this
  match l, hlen, e with
  | [], hlen, _ => exact absurd hlen (by simp; lia)
  | [_], hlen, _ => exact absurd hlen (by simp; lia)
  | a :: b :: r, _, e =>
    refine ⟨?_, ?_⟩
    · show (Txt.join (Str.ofString "") ((a :: b :: r).map (·.1))).length ≤ _
      rw [e, S_len, sizeLine_eq]; lia
    · show Q (.str (Txt.join (Str.ofString "") ((a :: b :: r).map (·.1))) _) _
      rw [e]; exact h
theorem item_sh {value slice : PySem.Expr} {a : Addr} {k j : Nat} {u t1 t2 t3 : Tok} (N : News h₀ L s.heap news) (hm : (a, ls k [.str (Str.ofString ">>12>>01>02") t1, .str (Str.ofString ">>0>12>1>02") t2, .str (Str.ofString ">00") t3]) ∈ news) (hj : j < 3) (h : ∀ t, Q (.str (S (shapes.getD j [])) t) s)
    (hs : subscripted slice false (.ref a) (.int (j : Int) u) = operate [.ref a, .int (j : Int) u] (getItem (.ref a) (.int (j : Int) u)) := by with_unfolding_all rfl) :
    wpAny (model prog w) A (subscriptTail value slice (.ref a) (.int (j : Int) u)) Q E s := by
  have hl : s.heap.IsList a ([.str (Str.ofString ">>12>>01>02") t1, .str (Str.ofString ">>0>12>1>02") t2, .str (Str.ofString ">00") t3] : List Value).toArray := News.isList N hm
  refine PyProof.Rows.tail_any hl.typeIs PySem.F.slot_list_getitem.lookup (PyProof.Rows.getItem_listL (x := .str (S (shapes.getD j [])) (([t1, t2, t3] : List Tok).getD j 0)) hl (by lia) (by lia) ?_ (h _)) hs
  match j, hj with
  | 0, _ => with_unfolding_all rfl
  | 1, _ => with_unfolding_all rfl
  | 2, _ => with_unfolding_all rfl
  | j + 3, h => lia
end

end
section
/-- what lies on a pile, with a bound for the tokens of the texts -/
noncomputable def PileT (k lo : Nat) (R : Led) (ts : List Tr) (vs : List Value) : Prop := Paired (fun (t : Tr) v => ∃ q a b, v = .ref q ∧ (q, tupO a (t.enc k) b) ∈ R ∧ 0 < b ∧ @LT.lt Nat _ b lo) ts vs
theorem PileT.mono {k lo lo' : Nat} {R R' : Led} (h : ∀ p ∈ R, p ∈ R') (hl : lo ≤ lo') {ts : List Tr} {vs : List Value} (p : PileT k lo R ts vs) : PileT k lo' R' ts vs := pd_mono (fun _ _ x => by
  obtain ⟨q, a, b, e, hm, h0, h1⟩ := x
  exact ⟨q, a, b, e, h _ hm, h0, Nat.lt_of_lt_of_le h1 hl⟩) p
theorem PileT.snoc {k lo : Nat} {R : Led} {t : Tr} {ts : List Tr} {vs : List Value} (h : PileT k lo R (ts ++ [t]) vs) : ∃ vs' q a b, vs = vs' ++ [.ref q] ∧ (q, tupO a (t.enc k) b) ∈ R ∧ 0 < b ∧ @LT.lt Nat _ b lo ∧ PileT k lo R ts vs' := by
  obtain ⟨vs', _, rfl, ⟨q, a, b, rfl, hm, h0, h1⟩, hr⟩ := pd_snoc h
  exact ⟨vs', q, a, b, rfl, hm, h0, h1, hr⟩
theorem PileT.add {k lo : Nat} {R : Led} {t : Tr} {q : Addr} {a b : Tok} {ts : List Tr} {vs : List Value} (h : PileT k lo R ts vs) (hm : (q, tupO a (t.enc k) b) ∈ R) (h0 : 0 < b) (h1 : @LT.lt Nat _ b lo) : PileT k lo R (ts ++ [t]) (vs ++ [.ref q]) :=
  pd_append h (.cons ⟨q, a, b, rfl, hm, h0, h1⟩ .nil)
section
open PySem.Calls LCg
variable {prog : Program} {w : World} {A : Around} {sH : Heap} {sG : Array GenState} {sD : Drawn} {sT : Nat} {sO : OsState} {env : Env} {h₀ : Heap} {L : Addr} {m : Str → Option Value}
theorem cturn_text {elt : PySem.Expr} {x : Str} {scope : Scope} {cl : List (Str × Addr)} {fp wr : List Addr} {n : Nat} {l : List Nat} {J : Nat → Nat → List Value → Led → Prop}
    (t : ∀ i c u ys nx C oC D M h tk own (E' : Value → Shared → Prop), i < n → l[i]? = some c → J i tk ys nx → ys.length ≤ i → NsObj oC M → M x = some (.str (S [c]) u) → (∀ b ∈ wr, ∃ o, (b, o) ∈ own) → (∀ p ∈ own, p.1 ∈ fp) → (∀ p ∈ nx, p.1 ≠ C ∧ p.1 ≠ D ∧ p.1 ∉ wr) → (@Ne Nat C D) →
      Fr h₀ L h m → News h₀ L h ((C, oC) :: (D, lst ys) :: (nx ++ own)) →
      let Qe := fun ys₂ s₂ => CEnd h₀ L m sG sD sO wr own C oC D ys (J (i + 1)) ys₂ s₂
      wpAny (model prog w) A (eval elt (compEnvC scope cl C env)) (fun y s₄ => Qe (ys ++ [y]) s₄) E' (Shared.mk h sG sD tk sO)) :
    CTurn prog w A h₀ L m env elt [] scope cl fp wr n (fun i bs => ∃ c u, l[i]? = some c ∧ bs = [(x, .str (S [c]) u)]) J sG sD sO := by
  rintro i bs ys nx C oC D m₂ h tk own E' hi hZ0 hJ hl hC hw ho hof hCD F N
  obtain ⟨v, u, hP, rfl⟩ := hZ0
  refine wpAny_tests_nil ?_
  simp only [if_true]
  exact t i v u ys nx C oC D _ h tk own E' hi hP hJ hl hC (by simp [over, kstB]) hw ho hof hCD F N
theorem pd_map {α β γ : Type} {f : α → γ} {F : γ → β → Prop} {l₁ : List α} {l₂ : List β} (p : Paired (fun a b => F (f a) b) l₁ l₂) : Paired F (l₁.map f) l₂ := by
  induction p with
  | nil => exact .nil
  | cons h _ ih => exact .cons h ih
end
theorem stop_at {M : Model} {A : Around} {E : Value → Shared → Prop} {s : Shared} {Q : Value → Shared → Prop} {args : List Value} (n : Nat) (h : Stop (wpAny M A (PySem.call (.ref n) args) Q E s)) : wpAny M A (PySem.call (.ref n) args) Q E s := Stop.mk h
/-- the state of the loop of _law_kind -/
structure KS where
  todo : List Nat
  ts : List Tr
  c : Nat
  vs : List Value
  n : Nat
  iv : Value
  R : Led
  oC : Obj
  oA : Obj
set_option maxRecDepth 100000 in
set_option maxHeartbeats 8000000 in
theorem kind_ (w : World) (ns : List Nat) (res : Tr) (hK : KindB ns [] 256 res) (hnl : ns.length ≤ 1000) (vs : List Value) (hvs : Paired (fun (n : Nat) v => IsN n v) ns.reverse vs) (row : Addr) (k : Nat) (rest : Led) (hm : (row, ls k vs) ∈ rest) :
    Does w 60 800 (.ref 193) [.ref row] rest (fun K => ∀ t n', (∀ p ∈ rest, p ∈ n') → K (.str (S (res.enc 51)) t) n') := by
  k_with_none
  k_with "my k_in" => first | with_reducible assumption | exact Frag.In.keeps (by with_reducible assumption) (Fr.keep (by with_reducible assumption))
  k_with "my k_ne" => (refine neN ?_; (try dsimp only); first | with_reducible assumption | (refine Ne.symm ?_; with_reducible assumption) | lia)
  k_with "my ROOM" => ((try dsimp only [Around.deeper, Around.mark, Around.in1]); first | exact room3 (by assumption) rfl | exact room2 (by assumption) rfl | lia)
  k_with "my ite" => first | (refine ite_pos (by with_reducible assumption) ?_) | (refine ite_neg (by with_reducible assumption) ?_) | (refine ite_pos (decide_eq_true (by with_reducible assumption)) ?_) | (refine ite_neg (Bool.eq_false_iff.mp (decide_eq_false (by with_reducible assumption))) ?_)
  k_with "my exec While" => (try k_fold); refine Stop.mk ?_
  k_with "my subscriptTail Name Name str int" => (refine sub_str (by assumption) (by assumption) ?_)
  k_with "my call builtin:ord" => (refine ord_S ?_)
  k_with "my binaryOp Add int int" => with_reducible first | (refine' add_lit 1 (by decide) ?_) | (refine' add_lit 2 (by decide) ?_) | refine add_nat ?_
  k_with "my binaryOp Sub int int" => with_reducible first | (refine' sub_lit 1 (by decide) (by first | with_reducible_and_instances lia | decide) ?_) | (refine' sub_lit 256 (by decide) (by first | with_reducible_and_instances lia | decide) ?_) | (refine' sub_lit 300 (by decide) (by first | with_reducible_and_instances lia | decide) ?_) | (refine' sub_nat (by first | with_reducible_and_instances lia | decide) ?_)
  k_with "my binaryOp Mod int int" => with_reducible first | (refine' mod_lit 3 (by decide) (by first | with_reducible_and_instances lia | decide) ?_) | (refine' mod_lit 2 (by decide) (by first | with_reducible_and_instances lia | decide) ?_) | (refine' mod_nat (by first | with_reducible_and_instances lia | decide) ?_)
  k_with "my binaryOp FloorDiv int int" => with_reducible first | (refine' div_lit 3 (by decide) (by first | with_reducible_and_instances lia | decide) (by decide) ?_) | (refine' div_lit 2 (by decide) (by first | with_reducible_and_instances lia | decide) (by decide) ?_) | fail
  k_with "my call builtin:len" => ((k_dflt (refine' len_L (by k_asm) (by k_mem) ?_ ?_)); (next => with_reducible_and_instances lia))
  k_with "my subscriptTail" => ((k_dflt (refine' item_L (by k_asm) (by k_mem) (by with_reducible assumption) ?_ ?_; k_whole)); (next => with_reducible_and_instances lia))
  k_with "my subscriptTail" => ((k_dflt (refine' item_C 0 (by exact rfl) (by k_asm) (by k_mem) (by with_reducible assumption) ?_ ?_; k_whole)); (next => decide))
  k_with "my subscriptTail Name Name ref int" => ((k_dflt (refine' item_L (by k_asm) (by k_mem) (by with_reducible assumption) ?_ ?_; k_whole)); (next => with_reducible_and_instances lia))
  k_with "my binaryOp Add ref ref" => (((k_dflt (refine' sum_L (by k_asm) (by k_asm) (by k_mem) (by k_mem) ?_ ?_)); (next => ((try rw [sizeLine_eq]); (try simp only [List.length_append, List.length_take, List.length_drop, List.length_cons, List.length_nil]); with_reducible_and_instances lia)); intro Dpzz hpzz Fpzz Npzz l1zz; (try k_lt l1zz))); (try revert l1zz); (try revert Npzz); (try revert Fpzz); (try revert hpzz); (try revert Dpzz); intros
  k_with "my subscriptTail Name Slice ref ref" => (((k_dflt (refine' cut_L _ (by k_asm) (by k_asm) (by k_mem) (by kmk_part) (by kmk_part) (by first | exact pick_from _ _ | exact pick_upto _ _) ?_ ?_ (by with_unfolding_all rfl) (by kmk_pure))); (next => ((try rw [sizeLine_eq]); with_reducible_and_instances lia)); intro Dpzz hpzz Fpzz Npzz l1zz; (try k_lt l1zz))); (try revert l1zz); (try revert Npzz); (try revert Fpzz); (try revert hpzz); (try revert Dpzz); intros
  k_with "my binaryOp Add str str" => (with_reducible first | ((refine' add_S ?_ ?_); (next => ((try rw [sizeLine_eq]); (try simp only [List.length_append, List.length_cons, List.length_nil]); with_reducible_and_instances lia)); intro tpzz tkpzz) | ((refine' add_CS [64] (by with_unfolding_all exact rfl) ?_ ?_); (next => ((try rw [sizeLine_eq]); (try simp only [List.length_append, List.length_cons, List.length_nil]); with_reducible_and_instances lia)); intro tpzz tkpzz) | ((refine' add_CS [34] (by with_unfolding_all exact rfl) ?_ ?_); (next => ((try rw [sizeLine_eq]); (try simp only [List.length_append, List.length_cons, List.length_nil]); with_reducible_and_instances lia)); intro tpzz tkpzz) | ((refine' add_CS [92] (by with_unfolding_all exact rfl) ?_ ?_); (next => ((try rw [sizeLine_eq]); (try simp only [List.length_append, List.length_cons, List.length_nil]); with_reducible_and_instances lia)); intro tpzz tkpzz) | ((refine' add_SC [34] (by with_unfolding_all exact rfl) ?_ ?_); (next => ((try rw [sizeLine_eq]); (try simp only [List.length_append, List.length_cons, List.length_nil]); with_reducible_and_instances lia)); intro tpzz tkpzz) | ((refine' add_SC [10] (by with_unfolding_all exact rfl) ?_ ?_); (next => ((try rw [sizeLine_eq]); (try simp only [List.length_append, List.length_cons, List.length_nil]); with_reducible_and_instances lia)); intro tpzz tkpzz)); (try revert tkpzz); (try revert tpzz); (try revert tkpzz); (try revert tpzz); (try revert tkpzz); (try revert tpzz); (try revert tkpzz); (try revert tpzz); (try revert tkpzz); (try revert tpzz); (try revert tkpzz); (try revert tpzz); intros
  k_with "my exec For" => (try k_fold); (k_dflt (refine For_k (F := by k_asm) ?_))
  k_with "my inplaceOp Add" => ((dsimp only; (with_reducible refine' iadd_S ?_ ?_); (next => ((try rw [sizeLine_eq]); (try simp only [List.length_append, List.length_cons, List.length_nil]); with_reducible_and_instances lia)); intro tpzz tkpzz)); (try revert tkpzz); (try revert tpzz); intros
  k_with "my call type:list" => (((k_dflt (refine' list_S rfl (by k_asm) (by k_asm) ?_ ?_)); (next => lia); intro Dpzz kpzz yspzz hpzz tkpzz Fpzz Npzz l1zz hppzz hlpzz; (try k_lt l1zz))); (try revert l1zz); (try revert hlpzz); (try revert hppzz); (try revert Npzz); (try revert Fpzz); (try revert tkpzz); (try revert hpzz); (try revert yspzz); (try revert kpzz); (try revert Dpzz); intros
  k_with "my subscriptTail Name Slice ref ref" => (((k_dflt (refine' rev_L (by k_asm) (by k_asm) (by k_mem) (by kmk_part) ?_ ?_ (by with_unfolding_all rfl) (by kmk_pure))); (next => ((try simp only [List.length_append, List.length_cons, List.length_nil]); with_reducible_and_instances lia)); intro Dpzz hpzz Fpzz Npzz l1zz; (try k_lt l1zz))); (try revert l1zz); (try revert Npzz); (try revert Fpzz); (try revert hpzz); (try revert Dpzz); intros
  k_with "my subscriptTail" => (((k_dflt (refine' rev_L (by k_asm) (by k_asm) (by k_mem) (by kmk_part) ?_ ?_ (by with_unfolding_all rfl) (by kmk_pure))); (next => ((try simp only [List.length_append, List.length_cons, List.length_nil]); with_reducible_and_instances lia)); intro Dpzz hpzz Fpzz Npzz l1zz; (try k_lt l1zz))); (try revert l1zz); (try revert Npzz); (try revert Fpzz); (try revert hpzz); (try revert Dpzz); intros
  k_with "my eval ListComp" => (try k_fold); (refine grow_in ?_; k_dflt (refine Lc_k (_F₀ := by k_asm) (by with_unfolding_all rfl) (by decide) (by rfl) (by decide) ?_))
  k_with "my execs cons" => ((with_reducible refine wpAny_execs_cons ?_); try dsimp only)
  k_with "my execs nil" => (refine wpAny_execs_nil ?_)
  k_with "my call ref" => (try k_fold); first | refine stop_at 143 ?_ | refine stop_at 188 ?_
  k_with "my k_mem" => first | with_reducible assumption | (refine memOf ?_; with_reducible assumption)
  k_with "my call ref" => (((refine' Does.useG (pop_ _ ?_ ?_ ?_) (by k_asm) (by k_asm) (by k_asm) (by (first | with_reducible assumption | with_reducible exact pull1 (by k_asm) | with_reducible exact pull2 (by k_asm) | with_reducible exact pull3 (by k_asm) | with_reducible exact pull4 (by k_asm))) (by k_asm) rfl rfl (by walk_at "ROOM") (by walk_at "ROOM") ?_); (next => with_reducible assumption); (next => (repeat' (first | with_reducible assumption | exact List.forall_mem_nil _ | refine List.forall_mem_cons.mpr ⟨?_, ?_⟩ | refine List.forall_mem_append.mpr ⟨?_, ?_⟩ | exact .inr ⟨_, rfl, by decide⟩))); (next => ((try simp only [List.length_append, List.length_cons, List.length_nil]); lia)); intro h9zz k9zz F9zz N9zz g9zz; (try k_sweep))); (try revert g9zz); (try revert N9zz); (try revert F9zz); (try revert k9zz); (try revert h9zz); intros
  k_with "my call ref" => (((refine' Does.useG (push_ _ ?_ ?_ ?_) (by k_asm) (by k_asm) (by k_asm) (by (first | with_reducible assumption | with_reducible exact pull1 (by k_asm) | with_reducible exact pull2 (by k_asm) | with_reducible exact pull3 (by k_asm) | with_reducible exact pull4 (by k_asm))) (by k_asm) rfl rfl (by walk_at "ROOM") (by walk_at "ROOM") ?_); (next => with_reducible assumption); (next => (repeat' (first | with_reducible assumption | exact List.forall_mem_nil _ | refine List.forall_mem_cons.mpr ⟨?_, ?_⟩ | refine List.forall_mem_append.mpr ⟨?_, ?_⟩ | exact .inr ⟨_, rfl, by decide⟩))); (next => ((try simp only [List.length_append, List.length_cons, List.length_nil]); lia)); intro q9zz m9zz l9zz h9zz k9zz F9zz N9zz g9zz; (try k_lt l9zz); (try k_sweep))); (try revert l9zz); (try revert g9zz); (try revert N9zz); (try revert F9zz); (try revert k9zz); (try revert h9zz); (try revert m9zz); (try revert q9zz); intros
  k_with "my call ref" => ((refine' Does.useG (acc_count _ _ _ _ _ _ _ _ _) (by k_asm) (by k_asm) (by k_asm) (by (first | with_reducible assumption | with_reducible exact pull1 (by k_asm) | with_reducible exact pull2 (by k_asm) | with_reducible exact pull3 (by k_asm) | with_reducible exact pull4 (by k_asm))) (by k_asm) rfl rfl (by walk_at "ROOM") (by walk_at "ROOM") ?_; intro t9zz h9zz k9zz F9zz N9zz g9zz; (try k_sweep))); (try revert g9zz); (try revert N9zz); (try revert F9zz); (try revert k9zz); (try revert h9zz); (try revert t9zz); intros
  k_with "my call ref" => ((refine' Does.useG (isterminal _ _ _ _) (by k_asm) (by k_asm) (by k_asm) (by with_reducible assumption) (by k_asm) rfl rfl (by walk_at "ROOM") (by walk_at "ROOM") ?_; intro h9zz k9zz F9zz N9zz g9zz; (try k_sweep))); (try revert g9zz); (try revert N9zz); (try revert F9zz); (try revert k9zz); (try revert h9zz); intros
  k_with "my getMethod ref" => (k_dflt (refine' method_acc (by k_in) (by (refine' acc_at (by k_asm) (by k_mem) (by k_mem))) (by k_is) (by k_is) (by k_is) (by first | exact looks_typeIn (by k_in) (by k_is) | exact Looks.of_pure PySem.F.type_list_append) (by decide) (by rfl) ?_; k_whole))
  k_with "my subscriptTail" => (k_dflt (refine' tup1 (by k_asm) (by k_mem) ?_))
  k_with "my loadName" => (k_dflt (refine' loadX_C (by k_asm) (by rfl) (by k_mem) (by k_asm) ?_ (by rfl) (by rfl); k_whole))
  k_with "my call builtin:str.join" => refine Stop.mk ?_
  k_with "my call type:int" => (refine' int_sign (by with_reducible assumption) ?_)
  k_with "my binaryOp Sub int int" => refine Stop.mk ?_
  k_with "my k_all" => with_reducible assumption
  k_with "my exec For Name Name cons nil" => (try k_fold); (k_dflt (refine For_kT ?_))
  k_with "my exec For" => (try k_fold); (k_dflt (refine For_kT ?_))
  k_with "my call builtin:chr" => (refine' chr_S (by first | assumption | decide) ?_)
  k_with "my subscriptTail Name Constant ref str" => (k_dflt (refine' tokItem (by k_asm) (by k_asm) (by k_is) ?_))
  k_with "my pyIter str" => refine Stop.mk ?_
  k_with "my binaryOp Add str str" => with_reducible (refine' add_tok (by with_reducible assumption) (by with_reducible assumption) (by with_reducible assumption) ?_)
  k_with "my subscriptTail List BinOp ref int" => ((k_dflt (refine' item_sh (by k_asm) (by k_mem) (by with_reducible assumption) ?_); intro t9zz)); (try revert t9zz); intros
  have hvl : vs.length ≤ 1000 := by
    have := hvs.length
    simp at this
    lia
  unfold Does
  intro dp un gd env outer A₀ base h₀ L m sH sG sD sT sO R p loose mean mg mb hf hk B F X N T hd hu hret
  k_dflt (refine' code_defCF ?k1 ?k2 ?k3 ?k4 ?k5 ?kA ?kF ?kK ?k6 ?k7 ?k8 ?k9 ?kB ?kD ?_ ?c2 ?c3 ?c4; (case kA => exact rfl); (case kF => exact hf); (case kK => exact hk); (case k1 => exact B); (case k2 => exact F); (case k3 => exact X); (case k4 => exact N); (case k5 => exact T); (case k6 => k_is); (case k7 => k_is); (case k8 => (refine room_of hd ?_; dsimp only; lia)); (case k9 => first | exact BindsTo.of_eq rfl | exact binds_K (by k_in) rfl (by k_is) rfl rfl rfl); (case kB => exact rfl); (case kD => decide +kernel); (case c2 => exact rfl); (case c3 => exact rfl); (case c4 => exact rfl); k_whole)
  intro g' L' h1 tk' cells' FG' F' N' Y' B' X' T' l1
  (try k_lt l1)
  k_cells Y'
  (try simp only [List.cons_append, List.nil_append] at N')
  (try dsimp only)
  (try k_fold)
  k_steps
  refine Stop.go ?_
  rename News _ _ _ _ => N9
  refine Does.useG (acc_new w _ _ _) (by k_asm) (by k_asm) (by k_asm) N9 (by k_asm) rfl rfl (by walk_at "ROOM") (by walk_at "ROOM") ?_
  intro x d n1 hh kt hdx hld hlx h9' k9' F8 N7 g9'
  clear N9
  rename_i oC oA dC dA
  have N8 : News g' L' h9' ((L' + 1 + 1, oC) :: (L' + 1, oA) :: acc x d [] n1 hh kt (.int 0 _) rest) := fun p hp => N7 p (by
    revert p hp
    (repeat' (first | exact List.forall_mem_nil _ | refine List.forall_mem_cons.mpr ⟨by (repeat (first | with_reducible assumption | exact List.mem_cons_self | apply List.mem_cons_of_mem)), ?_⟩))
    (try (intro p9 hp9; repeat (first | exact hp9 | exact List.mem_append_left _ hp9 | exact List.mem_append_right _ hp9 | apply List.mem_cons_of_mem))))
  clear N7
  have hLd : @LT.lt Nat _ (L' + 1 + 1) d := hld (L' + 1 + 1, oC) List.mem_cons_self
  have hLx : @LT.lt Nat _ (L' + 1 + 1) x := hlx (L' + 1 + 1, oC) List.mem_cons_self
  have hra : ∀ p ∈ rest, Apart x d p := fun p hp => .inl ⟨Nat.ne_of_lt (hlx p (List.mem_cons_of_mem _ (List.mem_cons_of_mem _ hp))), Nat.ne_of_lt (hld p (List.mem_cons_of_mem _ (List.mem_cons_of_mem _ hp)))⟩
  have hr1 : ∀ p ∈ rest, p.1 ≠ L' + 1 := fun p hp => Nat.ne_of_lt (Nat.lt_succ_of_lt (l1 p hp))
  have hr2 : ∀ p ∈ rest, p.1 ≠ L' + 1 + 1 := fun p hp => Nat.ne_of_lt (Nat.lt_succ_of_lt (Nat.lt_succ_of_lt (l1 p hp)))
  k_steps
  rename News _ _ _ _ => N1
  rename Fr _ _ _ _ => F1
  rename_i oA1 dA1 zh0 zh1 oC1 zF zN dC1 D2 zh3 l3
  clear zF zN
  have hn9 : Paired (fun (n : Nat) v => IsN n v) ns vs.reverse := by have := pd_rev hvs; rwa [List.reverse_reverse] at this
  refine turns_listT (σ := KS) (fun s => [("pile", .ref x)]) (fun s => (L' + 1 + 1, s.oC) :: (L' + 1, s.oA) :: acc x d s.vs s.n hh kt s.iv s.R)
    (fun i tk s => s.todo = ns.drop i ∧ KindB s.todo s.ts s.c res ∧ PileT 51 tk s.R s.ts.reverse s.vs ∧ (∀ p ∈ rest, p ∈ s.R) ∧ (∀ p ∈ s.R, Apart x d p) ∧ (∀ p ∈ s.R, p.1 ≠ L' + 1) ∧ (∀ p ∈ s.R, p.1 ≠ L' + 1 + 1) ∧ (∀ t ∈ s.ts, t.Ok) ∧ 0 < tk ∧
      (∃ tc, s.oC.data = .cell (some (.int (s.c : Int) tc))) ∧ ∃ tA, s.oA.data = .cell (some (.str (S [51]) tA)))
    ⟨ns, [], 256, [], n1, ?iv0, rest, oC1, oA1⟩ ?mono rfl F1 N1 List.mem_cons_self ?h1 ?h2 ?h3 ?turn ?done
  case mono =>
    rintro i tk tk' s hle ⟨a1, a2, a3, a4, a5, a6, a7, a8, a9, a10, a11⟩
    exact ⟨a1, a2, a3.mono (fun _ h => h) hle, a4, a5, a6, a7, a8, Nat.lt_of_lt_of_le a9 hle, a10, a11⟩
  case h1 => (intro p9 hp9; repeat (first | exact hp9 | exact List.mem_append_left _ hp9 | exact List.mem_append_right _ hp9 | apply List.mem_cons_of_mem))
  case h2 => repeat' (first | exact List.forall_mem_nil _ | refine List.forall_mem_cons.mpr ⟨by first | rfl | (dsimp only; refine Eq.trans (b := some (Value.int _ _)) rfl ?_; refine int_cong ?_; simp only [List.length_append, List.length_cons, List.length_nil]; lia), ?_⟩)
  case h3 => exact ⟨rfl, hK, .nil, fun _ h => h, hra, hr1, hr2, nofun, by first | exact Nat.succ_pos _ | (dsimp only at g9' ⊢; lia), ⟨_, dC1⟩, ⟨_, dA1⟩⟩
  case turn =>
    clear F1 N1 dC1 dA1
    rintro i v ⟨todo, ts, c, vs1, n2, iv, R1, oC, oA⟩ u h tk own I hi hv hJ0 hoff hI hown F2 N2
    intro Qw
    (try k_fold)
    refine andE11 hJ0 ?_
    clear hJ0
    intro e1 hK1 hP hsub hR1 hR2 hR3 hok htk hK9 hK10
    obtain ⟨tc, dC⟩ := hK9
    obtain ⟨tA, dA⟩ := hK10
    (try dsimp only at e1 hK1 hP hsub hR1 hR2 hR3 hok dC dA hoff F2 N2 ⊢)
    simp only [List.cons_append] at N2
    have N3 : News g' L' h _ := N2
    have F3 : Fr g' L' h _ := F2
    clear N2 F2
    have hCa : Apart x d (L' + 1 + 1, oC) := .inl ⟨Nat.ne_of_lt hLx, Nat.ne_of_lt hLd⟩
    have hAa : Apart x d (L' + 1, oA) := .inl ⟨Nat.ne_of_lt (Nat.lt_of_succ_lt hLx), Nat.ne_of_lt (Nat.lt_of_succ_lt hLd)⟩
    obtain ⟨nu, hnu, tv, rfl⟩ := pd_get hn9 hv
    have hil : i < ns.length := (List.getElem?_eq_some_iff.mp hnu).1
    have e2 : todo = nu :: ns.drop (i + 1) := by
      rw [e1, List.drop_eq_getElem_cons hil]
      rw [(List.getElem?_eq_some_iff.mp hnu).2]
    subst e2
    have hownR : ∀ p ∈ own, p.1 ≠ L' + 1 ∧ p.1 ≠ L' + 1 + 1 ∧ Apart x d p := by
      intro p hp
      rcases hown p hp with e | e
      · rw [e]
        refine ⟨fun q => hoff (L' + 1, oA) (by (first | ((repeat (first | with_reducible assumption | with_reducible exact List.mem_cons_self | apply List.mem_cons_of_mem)); done) | simp)) q.symm, fun q => hoff (L' + 1 + 1, oC) (by (first | ((repeat (first | with_reducible assumption | with_reducible exact List.mem_cons_self | apply List.mem_cons_of_mem)); done) | simp)) q.symm, .inl ⟨fun q => ?_, fun q => ?_⟩⟩
        · exact hoff (x, accObj d vs1.toArray n2) (by (first | ((repeat (first | with_reducible assumption | with_reducible exact List.mem_cons_self | apply List.mem_cons_of_mem)); done) | simp)) (by rw [← e]; exact q.symm)
        · exact hoff (d, isz hh kt iv) (by (first | ((repeat (first | with_reducible assumption | with_reducible exact List.mem_cons_self | apply List.mem_cons_of_mem)); done) | simp)) (by rw [← e]; exact q.symm)
      · rw [e]
        exact ⟨Nat.ne_of_gt l3.2.2.1, Nat.ne_of_gt l3.2.1, .inl ⟨by rw [e]; exact Nat.ne_of_gt l3.2.2.2.1, by rw [e]; exact Nat.ne_of_gt l3.2.2.2.2.1⟩⟩
    have ho1 : ∀ p ∈ own, p.1 ≠ L' + 1 := fun p hp => (hownR p hp).1
    have ho2 : ∀ p ∈ own, p.1 ≠ L' + 1 + 1 := fun p hp => (hownR p hp).2.1
    have ho3 : ∀ p ∈ own, Apart x d p := fun p hp => (hownR p hp).2.2
    have hRo1 : ∀ p ∈ R1 ++ own, p.1 ≠ L' + 1 := List.forall_mem_append.mpr ⟨hR2, ho1⟩
    have hRo2 : ∀ p ∈ R1 ++ own, p.1 ≠ L' + 1 + 1 := List.forall_mem_append.mpr ⟨hR3, ho2⟩
    have hRo3 : ∀ p ∈ R1 ++ own, Apart x d p := List.forall_mem_append.mpr ⟨hR1, ho3⟩
    cases hK1 with
    | app hM hro htl hc1 hc2 hK2 =>
      rename_i nM f a r ts
      rw [List.reverse_cons, List.reverse_cons] at hP
      obtain ⟨vs2, qf, af, bf, rfl, hqf, hf0, hf1, hP⟩ := hP.snoc
      obtain ⟨vs3, qa, aa, ba, rfl, hqa, ha0, ha1, hP⟩ := hP.snoc
      have hqf' := List.mem_append_left own hqf
      have hqa' := List.mem_append_left own hqa
      have hMs := hM.sz
      have hMs2 := hMs.2.1
      unfold Sz at hMs2
      have hx1 : ([51] : List Nat) ≠ [] := by simp
      have hx2 : a.enc 51 ≠ [] := by obtain ⟨cc, rr, e, _⟩ := enc_head (k := 51) a; rw [e]; simp
      have hx3 : 51 :: a.enc 51 ≠ [] := by simp
      have hx4 : ([c] : List Nat) ≠ [] := by simp
      have hx5 : ([51] : List Nat).length + (a.enc 51).length ≤ sizeLine := by rw [sizeLine_eq]; simp [Tr.enc] at hMs2 ⊢; lia
      have hx6 : (51 :: a.enc 51).length + ([c] : List Nat).length ≤ sizeLine := by rw [sizeLine_eq]; simp [Tr.enc] at hMs2 ⊢; lia
      have hcc : c ≤ 100000 := by lia
      have hlen : vs3.length < 400 := by
        have := hP.length
        simp at this
        lia
      have hd0 : decide ((49 : Int) < 256) = true := rfl
      k_steps
      refine Stop.go ?_
      rename News _ _ _ _ => N9
      have hxe : (Tr.nd a (.lf c)).enc 51 = 51 :: (a.enc 51 ++ [c]) := rfl
      have hxc : (Tr.lf c).enc 51 = [c] := rfl
      have HM := fun (t2 t3 lo : Nat) (b1 : @LT.lt Nat _ bf lo) (b2 : 0 < t2 ∧ t2 < lo) (b3 : 0 < t3 ∧ t3 < lo) (b6 : @Ne Nat bf t2) (nx : Led) => met_ w nM f (.nd a (.lf c)) (.lf c) r hM (hok f List.mem_cons_self) ⟨hok a (List.mem_cons_of_mem _ List.mem_cons_self), hc1⟩ hc1 bf t2 t3 lo ⟨hf0, b1⟩ b2 b3 b6 nx
      rw [hxe, hxc] at HM
      refine DoesT.use (HM _ _ _ ?b1 ?b2 ?b3 ?b6 _) (by k_asm) (by k_asm) (by k_asm) N9 (by k_asm) rfl rfl (by walk_at "ROOM") (by walk_at "ROOM") (Nat.le_refl _) ?_
      case b1 => (try dsimp only); lia
      case b2 => (try dsimp only); lia
      case b3 => (try dsimp only); lia
      case b6 => (try dsimp only); lia
      intro t' k9' ht0 ht1 h9' F8 N7 g9'
      clear N9 HM
      k_steps
      rename Fr _ _ _ _ => F9
      rename News _ _ _ _ => N9
      (try simp only [List.push_toArray] at N9)
      rename_i q1 m1 zh6 zk6 zg6 l9 zh7 oC1 dC1
      refine' fendT_next ⟨ns.drop (i + 1), r :: ts, c + 1, vs3 ++ [.ref q1], _, iv, (q1, tupO _ (r.enc 51) _) :: R1, oC1, oA⟩ F9 N9 ?ho ?h1 ?hw ?h2 ⟨rfl, hK2, ?h3, ?h4, ?h5, ?h6, ?h7, ?h8, ?h9, ⟨_, dC1⟩, ⟨_, dA⟩⟩
      case ho => (intro p9 hp9; repeat (first | exact hp9 | exact List.mem_append_left _ hp9 | exact List.mem_append_right _ hp9 | apply List.mem_cons_of_mem))
      case h1 =>
        refine List.forall_mem_cons.mpr ⟨?_, ?_⟩
        ·
          (repeat (first | assumption | exact List.mem_cons_self | apply List.mem_cons_of_mem))
        refine List.forall_mem_cons.mpr ⟨?_, ?_⟩
        ·
          (repeat (first | assumption | exact List.mem_cons_self | apply List.mem_cons_of_mem))
        refine List.forall_mem_cons.mpr ⟨?_, ?_⟩
        ·
          (repeat (first | assumption | exact List.mem_cons_self | apply List.mem_cons_of_mem))
        refine List.forall_mem_cons.mpr ⟨?_, ?_⟩
        ·
          (repeat (first | assumption | exact List.mem_cons_self | apply List.mem_cons_of_mem))
        refine List.forall_mem_cons.mpr ⟨?_, ?_⟩
        ·
          (repeat (first | assumption | exact List.mem_cons_self | apply List.mem_cons_of_mem))
        intro p hp
        have hp' := List.mem_append_left own hp
        (repeat (first | assumption | exact List.mem_cons_self | apply List.mem_cons_of_mem))
      case hw =>
        obtain ⟨oI, hoI⟩ := hI
        have hlq : @LT.lt Nat _ I q1 := allLt_mem _ l9.2.2.2.2.2 (I, oI) (List.mem_append_right _ hoI)
        refine List.forall_mem_cons.mpr ⟨?_, ?_⟩
        · exact fun h => hoff (L' + 1 + 1, oC) (by (first | ((repeat (first | with_reducible assumption | with_reducible exact List.mem_cons_self | apply List.mem_cons_of_mem)); done) | simp)) (List.mem_singleton.mp h)
        refine List.forall_mem_cons.mpr ⟨?_, ?_⟩
        · exact fun h => hoff (L' + 1, oA) (by (first | ((repeat (first | with_reducible assumption | with_reducible exact List.mem_cons_self | apply List.mem_cons_of_mem)); done) | simp)) (List.mem_singleton.mp h)
        refine List.forall_mem_cons.mpr ⟨?_, ?_⟩
        · exact fun h => hoff (x, accObj d (vs3 ++ [Value.ref qa] ++ [Value.ref qf]).toArray n2) (by (first | ((repeat (first | with_reducible assumption | with_reducible exact List.mem_cons_self | apply List.mem_cons_of_mem)); done) | simp)) (List.mem_singleton.mp h)
        refine List.forall_mem_cons.mpr ⟨?_, ?_⟩
        · exact fun h => hoff (d, isz hh kt iv) (by (first | ((repeat (first | with_reducible assumption | with_reducible exact List.mem_cons_self | apply List.mem_cons_of_mem)); done) | simp)) (List.mem_singleton.mp h)
        refine List.forall_mem_cons.mpr ⟨?_, ?_⟩
        · exact fun h => Nat.ne_of_gt hlq (List.mem_singleton.mp h)
        · exact fun p hp h => hoff p (by simp [hp]) (List.mem_singleton.mp h)
      case h2 => repeat' (first | exact List.forall_mem_nil _ | refine List.forall_mem_cons.mpr ⟨by first | rfl | (dsimp only; refine Eq.trans (b := some (Value.int _ _)) rfl ?_; refine int_cong ?_; simp only [List.length_append, List.length_cons, List.length_nil]; lia), ?_⟩)
      case h3 =>
        (try dsimp only)
        rw [List.reverse_cons]
        refine PileT.add (hP.mono (fun p hp => List.mem_cons_of_mem _ hp) ?g1) List.mem_cons_self ht0 ?g2
        case g1 =>
          (repeat (rename (@LE.le Nat _ (Shared.toks _) _) => gA; dsimp only at gA))
          (try dsimp only); lia
        case g2 =>
          (repeat (rename (@LE.le Nat _ (Shared.toks _) _) => gA; dsimp only at gA))
          refine Nat.lt_of_lt_of_le ht1 ?_
          (try dsimp only); lia
      case h4 => exact fun p hp => List.mem_cons_of_mem _ (hsub p hp)
      case h5 => exact List.forall_mem_cons.mpr ⟨.inr ⟨_, rfl, by decide⟩, hR1⟩
      case h6 => exact List.forall_mem_cons.mpr ⟨Nat.ne_of_gt (Nat.lt_trans (Nat.lt_of_succ_lt hLx) l9.1), hR2⟩
      case h7 => exact List.forall_mem_cons.mpr ⟨Nat.ne_of_gt (Nat.lt_trans hLx l9.1), hR3⟩
      case h8 => exact List.forall_mem_cons.mpr ⟨hro, fun t ht => hok t (List.mem_cons_of_mem _ (List.mem_cons_of_mem _ ht))⟩
      case h9 =>
        (repeat (rename (@LE.le Nat _ (Shared.toks _) _) => gA; dsimp only at gA))
        (try dsimp only); lia
    | comb hcode htl hc1 hc2 hK2 =>
      rename_i ts
      have hcode1 : 256 ≤ nu := by rcases hcode with h | h | h <;> lia
      have hj : nu - 256 < 3 := by rcases hcode with h | h | h <;> lia
      have hd0 : decide ((nu : Int) < 256) = false := decide_eq_false (by lia)
      have hlen : vs1.length < 400 := by
        have := hP.length
        simp at this
        lia
      k_steps
      refine Stop.go ?_
      refine sub_lit 256 (by decide) hcode1 ?_
      refine' item_sh ?N9 ?m9 hj ?_
      case N9 => k_asm
      case m9 => k_mem
      intro t9
      (try dsimp only)
      k_steps
      refine Stop.go ?_
      rename Fr _ _ _ _ => F9
      rename News _ _ _ _ => N9
      (try simp only [List.push_toArray] at N9)
      have hsl := shapes_len hcode
      (try k_fold)
      refine comp_text (fun i ys nx => nx = (L' + 1 + 1, oC) :: (L' + 1, oA) :: (x, accObj d vs1.toArray n2) :: (d, isz hh kt iv) :: (R1 ++ own) ∧ Paired (fun sg v => IsT (sgn c sg) v) ((shapes.getD (nu - 256) []).take i) ys) rfl rfl rfl F9 ?hN ?hs ⟨rfl, .nil⟩ ?turn2 ?fin2
      case hN =>
        intro p hp
        refine N9 p ?_
        revert p hp
        (repeat' (first | exact List.forall_mem_nil _ | refine List.forall_mem_cons.mpr ⟨by (repeat (first | with_reducible assumption | exact List.mem_cons_self | apply List.mem_cons_of_mem)), ?_⟩))
        (try (intro p9 hp9; repeat (first | exact hp9 | exact List.mem_append_left _ hp9 | exact List.mem_append_right _ hp9 | apply List.mem_cons_of_mem)))
      case hs => rw [sizeLine_eq]; lia
      case turn2 =>
        intro g0 I0
        refine cturn_text ?_
        rintro j sg u2 ys nx C oCC D M h2 tk2 own2 E' hi2 hsg hJ0 hyl hC hM hw hof ho hCD F5 N5
        intro Qe
        (try k_fold)
        obtain ⟨rfl, hys⟩ := hJ0
        clear F9 N9
        have hsg4 := shapes_sign hsg
        by_cases h62 : sg = 62
        · have hb : (S [sg] == Str.ofString ">") = true := by rw [h62]; decide
          k_steps
          (try dsimp only)
          refine cend ((L' + 1 + 1, oC) :: (L' + 1, oA) :: (x, accObj d vs1.toArray n2) :: (d, isz hh kt iv) :: (R1 ++ own)) (by k_asm) (by k_asm) (by (repeat (first | assumption | exact List.mem_cons_self | apply List.mem_cons_of_mem))) (by (repeat (first | assumption | exact List.mem_cons_self | apply List.mem_cons_of_mem))) (by (intro p9 hp9; repeat (first | exact hp9 | exact List.mem_append_left _ hp9 | exact List.mem_append_right _ hp9 | apply List.mem_cons_of_mem))) (by (intro p9 hp9; repeat (first | exact hp9 | exact List.mem_append_left _ hp9 | exact List.mem_append_right _ hp9 | apply List.mem_cons_of_mem))) ?_ ?_
          · exact ho
          · refine ⟨rfl, ?_⟩
            rw [List.take_add_one, hsg]
            exact pd_append hys (.cons ⟨_, by rw [h62]; rfl⟩ .nil)
        · have hsg3 : sg = 48 ∨ sg = 49 ∨ sg = 50 := hsg4.resolve_left h62
          have hb : ¬ ((S [sg] == Str.ofString ">") = true) := by
            intro q
            rcases hsg3 with h | h | h <;> subst h <;> revert q <;> decide
          have hch : c + (sg - 48) ≤ 100000 := by lia
          k_steps
          (try dsimp only)
          refine cend ((L' + 1 + 1, oC) :: (L' + 1, oA) :: (x, accObj d vs1.toArray n2) :: (d, isz hh kt iv) :: (R1 ++ own)) (by k_asm) (by k_asm) (by (repeat (first | assumption | exact List.mem_cons_self | apply List.mem_cons_of_mem))) (by (repeat (first | assumption | exact List.mem_cons_self | apply List.mem_cons_of_mem))) (by (intro p9 hp9; repeat (first | exact hp9 | exact List.mem_append_left _ hp9 | exact List.mem_append_right _ hp9 | apply List.mem_cons_of_mem))) (by (intro p9 hp9; repeat (first | exact hp9 | exact List.mem_append_left _ hp9 | exact List.mem_append_right _ hp9 | apply List.mem_cons_of_mem))) ?_ ?_
          · exact ho
          · refine ⟨rfl, ?_⟩
            rw [List.take_add_one, hsg]
            exact pd_append hys (.cons ⟨_, by unfold sgn; rw [if_neg h62]⟩ .nil)
      case fin2 =>
        rintro g0 tk0 ys nx hZ0 D h2 tk2 hgt2 F5 N5 hD
        obtain ⟨rfl, hys⟩ := hZ0
        clear F9 N9
        k_steps
        refine Stop.go ?_
        rename Fr _ _ _ _ => F9
        rename News _ _ _ _ => N9
        (try simp only [List.push_toArray] at N9)
        rw [List.take_of_length_le (Nat.le_refl _)] at hys
        have hfl : ((shapes.getD (nu - 256) []).map (sgn c)).flatten = (ctype nu c).enc 51 := by rw [← List.flatMap_def]; exact ctype_enc c hcode
        have hel : ((ctype nu c).enc 51).length ≤ 20 := by rcases hcode with h | h | h <;> subst h <;> simp [ctype, Tr.enc]
        refine join_tok (k := ys.length) N9 List.mem_cons_self (pd_map hys) ?hz9 ?h29 ?_
        case hz9 => rw [hfl, List.length_map]; lia
        case h29 => rw [List.length_map]; exact hsl.1
        rw [hfl]
        rename News _ _ _ _ => N9
        have N8 : News g' L' h2 ((L' + 1 + 1, oC) :: (L' + 1, oA) :: (x, accObj d vs1.toArray n2) :: (d, isz hh kt iv) :: (R1 ++ own)) := fun p hp => N9 p (List.mem_cons_of_mem _ hp)
        clear N9 hD
        (try dsimp only)
        k_steps
        rename Fr _ _ _ _ => F9
        rename News _ _ _ _ => N9
        (try simp only [List.push_toArray] at N9)
        rename_i q1 m1 zh6 zk6 zg6 l9 zh7 oC1 dC1
        refine' fendT_next ⟨ns.drop (i + 1), ctype nu c :: ts, c + 3, vs1 ++ [.ref q1], _, iv, (q1, tupO _ ((ctype nu c).enc 51) _) :: R1, oC1, oA⟩ F9 N9 ?ho ?h1 ?hw ?h2 ⟨rfl, hK2, ?h3, ?h4, ?h5, ?h6, ?h7, ?h8, ?h9, ⟨_, dC1⟩, ⟨_, dA⟩⟩
        case ho => (intro p9 hp9; repeat (first | exact hp9 | exact List.mem_append_left _ hp9 | exact List.mem_append_right _ hp9 | apply List.mem_cons_of_mem))
        case h1 =>
          refine List.forall_mem_cons.mpr ⟨?_, ?_⟩
          ·
            (repeat (first | assumption | exact List.mem_cons_self | apply List.mem_cons_of_mem))
          refine List.forall_mem_cons.mpr ⟨?_, ?_⟩
          ·
            (repeat (first | assumption | exact List.mem_cons_self | apply List.mem_cons_of_mem))
          refine List.forall_mem_cons.mpr ⟨?_, ?_⟩
          ·
            (repeat (first | assumption | exact List.mem_cons_self | apply List.mem_cons_of_mem))
          refine List.forall_mem_cons.mpr ⟨?_, ?_⟩
          ·
            (repeat (first | assumption | exact List.mem_cons_self | apply List.mem_cons_of_mem))
          refine List.forall_mem_cons.mpr ⟨?_, ?_⟩
          ·
            (repeat (first | assumption | exact List.mem_cons_self | apply List.mem_cons_of_mem))
          intro p hp
          have hp' := List.mem_append_left own hp
          (repeat (first | assumption | exact List.mem_cons_self | apply List.mem_cons_of_mem))
        case hw =>
          obtain ⟨oI, hoI⟩ := hI
          have hlq : @LT.lt Nat _ I q1 := allLt_mem _ l9.2.2.2.2 (I, oI) (List.mem_append_right _ hoI)
          refine List.forall_mem_cons.mpr ⟨?_, ?_⟩
          · exact fun h => hoff (L' + 1 + 1, oC) (by (first | ((repeat (first | with_reducible assumption | with_reducible exact List.mem_cons_self | apply List.mem_cons_of_mem)); done) | simp)) (List.mem_singleton.mp h)
          refine List.forall_mem_cons.mpr ⟨?_, ?_⟩
          · exact fun h => hoff (L' + 1, oA) (by (first | ((repeat (first | with_reducible assumption | with_reducible exact List.mem_cons_self | apply List.mem_cons_of_mem)); done) | simp)) (List.mem_singleton.mp h)
          refine List.forall_mem_cons.mpr ⟨?_, ?_⟩
          · exact fun h => hoff (x, accObj d vs1.toArray n2) (by (first | ((repeat (first | with_reducible assumption | with_reducible exact List.mem_cons_self | apply List.mem_cons_of_mem)); done) | simp)) (List.mem_singleton.mp h)
          refine List.forall_mem_cons.mpr ⟨?_, ?_⟩
          · exact fun h => hoff (d, isz hh kt iv) (by (first | ((repeat (first | with_reducible assumption | with_reducible exact List.mem_cons_self | apply List.mem_cons_of_mem)); done) | simp)) (List.mem_singleton.mp h)
          refine List.forall_mem_cons.mpr ⟨?_, ?_⟩
          · exact fun h => Nat.ne_of_gt hlq (List.mem_singleton.mp h)
          · exact fun p hp h => hoff p (by simp [hp]) (List.mem_singleton.mp h)
        case h2 => repeat' (first | exact List.forall_mem_nil _ | refine List.forall_mem_cons.mpr ⟨by first | rfl | (dsimp only; refine Eq.trans (b := some (Value.int _ _)) rfl ?_; refine int_cong ?_; simp only [List.length_append, List.length_cons, List.length_nil]; lia), ?_⟩)
        case h3 =>
          (try dsimp only)
          rw [List.reverse_cons]
          refine PileT.add (hP.mono (fun p hp => List.mem_cons_of_mem _ hp) ?g1) List.mem_cons_self ?g0 ?g2
          case g0 =>
            (repeat (rename (@LE.le Nat _ (Shared.toks _) _) => gA; dsimp only at gA))
            (try dsimp only at hgt2)
            have hz : 0 < tk2 := by lia
            exact hz
          case g1 =>
            (repeat (rename (@LE.le Nat _ (Shared.toks _) _) => gA; dsimp only at gA))
            (try dsimp only at hgt2)
            (try dsimp only); lia
          case g2 =>
            (repeat (rename (@LE.le Nat _ (Shared.toks _) _) => gA; dsimp only at gA))
            (try dsimp only at hgt2)
            (try dsimp only); lia
        case h4 => exact fun p hp => List.mem_cons_of_mem _ (hsub p hp)
        case h5 => exact List.forall_mem_cons.mpr ⟨.inr ⟨_, rfl, by decide⟩, hR1⟩
        case h6 => exact List.forall_mem_cons.mpr ⟨Nat.ne_of_gt (Nat.lt_trans (Nat.lt_of_succ_lt hLx) l9.1), hR2⟩
        case h7 => exact List.forall_mem_cons.mpr ⟨Nat.ne_of_gt (Nat.lt_trans hLx l9.1), hR3⟩
        case h8 => exact List.forall_mem_cons.mpr ⟨ctype_ok hc1, hok⟩
        case h9 =>
          (repeat (rename (@LE.le Nat _ (Shared.toks _) _) => gA; dsimp only at gA))
          (try dsimp only at hgt2)
          (try dsimp only); lia
  case done =>
    rintro ⟨todo, ts, c, vs1, n2, iv, R1, oC, oA⟩ u h tk hZ0 F2 N2
    obtain ⟨e1, hK1, hP, hsub, hR1, hR2, hR3, hok, htk, ⟨tc, dC⟩, ⟨tA, dA⟩⟩ := hZ0
    (try dsimp only at e1 hK1 hP hsub hR1 hR2 hR3 hok dC dA F2 N2 ⊢)
    have N3 : News g' L' h _ := N2
    have F3 : Fr g' L' h _ := F2
    clear N2 F2
    have hCa : Apart x d (L' + 1 + 1, oC) := .inl ⟨Nat.ne_of_lt hLx, Nat.ne_of_lt hLd⟩
    have hAa : Apart x d (L' + 1, oA) := .inl ⟨Nat.ne_of_lt (Nat.lt_of_succ_lt hLx), Nat.ne_of_lt (Nat.lt_of_succ_lt hLd)⟩
    have e2 : todo = [] := by
      rw [e1]
      refine List.drop_eq_nil_of_le ?_
      have := hn9.length
      lia
    subst e2
    cases hK1 with
    | fin =>
      obtain ⟨vs2, qf, af, bf, rfl, hqf, hf0, hf1, hP⟩ := PileT.snoc (ts := []) hP
      cases hP
      k_steps
      rename Fr _ _ _ _ => F9
      rename News _ _ _ _ => N9
      (try simp only [List.push_toArray] at N9)
      refine hret _ _ (fun p hp => ?_) _ _ F9 N9
      have := hsub p hp
      (repeat (first | assumption | exact List.mem_cons_self | apply List.mem_cons_of_mem))

end
section
section
open PySem.Calls LCg
variable {prog : Program} {w : World} {A : Around} {sH : Heap} {sG : Array GenState} {sD : Drawn} {sT : Nat} {sO : OsState} {E : Value → Shared → Prop} {Q : Value → Shared → Prop} {h₀ : Heap} {L : Addr} {m : Str → Option Value} {news : Led} {g : Obj → Led}
theorem fill_list_iadd : fillsInplaceSlot (.type "list") "add" (Operator.Add == .Add) = pure false := by
  unfold fillsInplaceSlot
  show (typeLookup (.type "list") (dunderI "add") >>= fun fi => pure (fi.isSome && !isSeqSlot fi)) = pure false
  rw [PySem.F.slot_list_iadd.lookup]; rfl
theorem seq_list_iadd : seqSlot? (.type "list") (dunderI "add") = pure (some (.builtin "list.__iadd__")) := PySem.seqSlot_of PySem.F.slot_list_iadd.lookup (by decide +kernel)
/-- a list grows by another -/
theorem iadd_L {a b : Addr} {k j : Nat} {vs us : List Value} (F : Fr h₀ L sH m) (N : News h₀ L sH news) (U : UpdF a (ls k vs) news g) (hb : (b, ls j us) ∈ news) (hz : vs.length + us.length ≤ 1000000)
    (h : ∀ h' k', Fr h₀ L h' m → News h₀ L h' (g (ls k' (vs ++ us))) → Q (.ref a) (Shared.mk h' sG sD sT sO)) : wpAny (model prog w) A (inplaceOp .Add (.ref a) (.ref b)) Q E (Shared.mk sH sG sD sT sO) := by
  obtain ⟨pre, post, rfl, hg, c1, c2⟩ := U.split
  have hm := N (a, ls k vs) (List.mem_append_right _ (.head _))
  have ha : (Shared.mk sH sG sD sT sO).TypeIs (.ref a) "list" := ⟨_, hm.1, rfl⟩
  have hb' : (Shared.mk sH sG sD sT sO).TypeIs (.ref b) "list" := ⟨_, (N _ hb).1, rfl⟩
  unfold inplaceOp
  refine wpAny_holding ?_
  refine wpAny_bind (wpAny_typeOf ha (wpAny_bind (wpAny_of_eq fill_list_iadd ?_)))
  show wpAny _ A (if false = true then _ else _) Q E (Shared.mk sH sG sD sT sO)
  rw [if_neg Bool.false_ne_true]
  refine wpAny_bind (wpAny_binaryOp1_none (nm := "add") ha hb' noFill_list_add ?_)
  refine wpAny_bind (wpAny_of_eq seq_list_iadd ?_)
  refine wpAny_bind (wpAny_rule ?_)
  refine PySem.call_meets PySem.F.slot_list_iadd ha PySem.F.entry_list_iadd (PySem.F.args_list_iadd_2 _ _) (AutoSeq1.list___iadd___list_list_0 a vs.toArray k b us.toArray j ?_ ?_ ?_) ⟨hm.1, (N _ hb).1, ?_⟩
  · simp [Builtin.List.listTooLong, sizeLine_eq]; lia
  · simp [sizeLine_eq]; lia
  · simp [sizeLine_eq]; lia
  · have hs := Heap.SameBut.update (h := sH) (a := a) (f := Obj.mapSeq fun x => x ++ us.toArray)
    have ho : (sH.update a (Obj.mapSeq fun x => x ++ us.toArray)).get? a = some (ls (if (vs.toArray ++ us.toArray).size == vs.toArray.size then k else k + 1) (vs ++ us)) := by
      have := IsL.update (h := sH) (l := a) (items := vs.toArray) (n := k) hm.1 (fun x => x ++ us.toArray)
      rw [this]
      simp
    exact h _ _ (F.change hs hm.2.1 hm.2.2) (hg _ ▸ N.setIn c1 c2 hs ho)
end

end
section
-- FOLDST
/-- a tuple of the heads: place and side -/
noncomputable abbrev headO (i : Nat) (t : Tr) (a b : Tok) : Obj := { cls := .type "tuple", data := .seq [.int (i : Int) a, .str (S (t.enc 51)) b].toArray }
/-- what the dict of the heads holds -/
noncomputable def HeadsV (R : Led) : Nat → List Tr → List (Str × Value) → Prop
  | _, [], [] => True
  | i, t :: hs, kv :: kvs => (∃ T a b, kv = (S [t.tl], .ref T) ∧ (T, headO i t a b) ∈ R) ∧ HeadsV R (i + 1) hs kvs
  | _, _, _ => False
theorem HeadsV.mono {R R' : Led} (h : ∀ p ∈ R, p ∈ R') {i : Nat} {hs : List Tr} {kvs : List (Str × Value)} (p : HeadsV R i hs kvs) : HeadsV R' i hs kvs := by
  induction hs generalizing i kvs with
  | nil =>
    cases kvs with
    | nil => exact trivial
    | cons _ _ => exact p.elim
  | cons t hs ih =>
    cases kvs with
    | nil => exact p.elim
    | cons kv kvs =>
      obtain ⟨⟨T, a, b, e, hm⟩, r⟩ := p
      exact ⟨⟨T, a, b, e, h _ hm⟩, ih r⟩
theorem HeadsV.len {R : Led} {i : Nat} {hs : List Tr} {kvs : List (Str × Value)} (p : HeadsV R i hs kvs) : kvs.length = hs.length := by
  induction hs generalizing i kvs with
  | nil =>
    cases kvs with
    | nil => rfl
    | cons _ _ => exact p.elim
  | cons t hs ih =>
    cases kvs with
    | nil => exact p.elim
    | cons kv kvs => exact congrArg (· + 1) (ih p.2)
theorem HeadsV.snoc {R : Led} {t : Tr} {T : Addr} {a b : Tok} {i : Nat} {hs : List Tr} {kvs : List (Str × Value)} (p : HeadsV R i hs kvs) (hm : (T, headO (i + hs.length) t a b) ∈ R) : HeadsV R i (hs ++ [t]) (kvs ++ [(S [t.tl], .ref T)]) := by
  induction hs generalizing i kvs with
  | nil =>
    cases kvs with
    | nil => exact ⟨⟨T, a, b, rfl, hm⟩, trivial⟩
    | cons _ _ => exact p.elim
  | cons u hs ih =>
    cases kvs with
    | nil => exact p.elim
    | cons kv kvs =>
      rw [List.length_cons, show i + (hs.length + 1) = i + 1 + hs.length by lia] at hm
      exact ⟨p.1, ih p.2 hm⟩
theorem S_inj {a b : Nat} (h : S [a] = S [b]) : a = b := by simpa using congrArg (fun q : Str => q.cps.toList) h
theorem HeadsV.fresh {R : Led} {l : Nat} {i : Nat} {hs : List Tr} {kvs : List (Str × Value)} (p : HeadsV R i hs kvs) (hl : l ∉ hs.map Tr.tl) : kvs.any (fun kv => kv.1 = S [l]) = false := by
  induction hs generalizing i kvs with
  | nil =>
    cases kvs with
    | nil => rfl
    | cons _ _ => exact p.elim
  | cons t hs ih =>
    cases kvs with
    | nil => exact p.elim
    | cons kv kvs =>
      obtain ⟨⟨T, a, b, e, hm⟩, r⟩ := p
      rw [List.map_cons, List.mem_cons] at hl
      rw [List.any_cons, ih r fun q => hl (.inr q), e, Bool.or_false]
      exact decide_eq_false fun q => hl (.inl (S_inj q).symm)
theorem stored_new {kvs : List (Str × Value)} {k : Str} {v : Value} (h : kvs.any (fun kv => kv.1 = k) = false) : PySem.stored kvs k v = kvs ++ [(k, v)] := by
  unfold PySem.stored
  rw [h]; rfl
theorem HeadsV.get {R : Led} {t : Tr} {i y : Nat} {hs : List Tr} {kvs : List (Str × Value)} (p : HeadsV R i hs kvs) (hn : (hs.map Tr.tl).Nodup) (h : hs[y]? = some t) : ∃ T a b, PySem.valueAt kvs (S [t.tl]) = some (.ref T) ∧ (T, headO (i + y) t a b) ∈ R := by
  induction hs generalizing i y kvs with
  | nil => simp at h
  | cons u hs ih =>
    cases kvs with
    | nil => exact p.elim
    | cons kv kvs =>
      obtain ⟨⟨T, a, b, e, hm⟩, r⟩ := p
      cases y with
      | zero =>
        obtain rfl := Option.some.inj h
        refine ⟨T, a, b, ?_, hm⟩
        rw [e]
        simp [PySem.valueAt]
      | succ y =>
        rw [List.map_cons, List.nodup_cons] at hn
        rw [List.getElem?_cons_succ] at h
        obtain ⟨T', a', b', h1, h2⟩ := ih r hn.2 h
        refine ⟨T', a', b', ?_, by rw [show i + (y + 1) = i + 1 + y by lia]; exact h2⟩
        rw [← h1, e]
        have hne : ¬ (S [u.tl] = S [t.tl]) := fun q => hn.1 (List.mem_map.mpr ⟨t, List.mem_of_getElem? h, (S_inj q).symm⟩)
        unfold PySem.valueAt
        rw [List.find?_cons]
        simp [hne]
/-- the last letter of a type -/
theorem enc_last (k : Nat) : ∀ t : Tr, (t.enc k)[(t.enc k).length - 1]? = some t.tl
  | .lf n => rfl
  | .nd a b => by
    have h := enc_last k b
    have h2 : (b.enc k).length ≠ 0 := by obtain ⟨c, r, e, _⟩ := enc_head (k := k) b; rw [e]; simp
    show (k :: (a.enc k ++ b.enc k))[(k :: (a.enc k ++ b.enc k)).length - 1]? = some b.tl
    rw [List.length_cons, List.length_append, Nat.add_sub_cancel, ← h]
    rw [show (a.enc k).length + (b.enc k).length = ((a.enc k).length + ((b.enc k).length - 1)) + 1 by lia, List.getElem?_cons_succ, List.getElem?_append_right (by lia)]
    congr 1
    lia
theorem enc_key {k : Nat} (u : Tr) (x : List Nat) : (k :: (u.enc k ++ x))[([k] ++ u.enc k).length - 1]? = some u.tl := by
  have h := enc_last k u
  have h2 : (u.enc k).length ≠ 0 := by obtain ⟨c, r, e, _⟩ := enc_head (k := k) u; rw [e]; simp
  rw [List.length_append, List.length_singleton, show 1 + (u.enc k).length - 1 = ((u.enc k).length - 1) + 1 by lia, List.getElem?_cons_succ, List.getElem?_append_left (by lia), h]
theorem arrows_len {x : Tr} (n : Nat) (h : x = .lf n) : ∀ Us : List Tr, 1 ≤ ((arrows Us x).enc 51).length ∧ (Us ≠ [] → 1 < ((arrows Us x).enc 51).length)
  | [] => by subst h; exact ⟨Nat.le_refl _, fun q => absurd rfl q⟩
  | u :: us => by
    have h1 := arrows_len n h us
    have h2 : (u.enc 51).length ≠ 0 := by obtain ⟨c, r, e, _⟩ := enc_head (k := 51) u; rw [e]; simp
    simp only [arrows, Tr.enc, List.length_cons, List.length_append]
    exact ⟨by lia, fun _ => by lia⟩
theorem arrows_sz (x : Tr) : ∀ a : List Tr, x.sz ≤ (arrows a x).sz
  | [] => Nat.le_refl _
  | u :: us => by
    have := arrows_sz x us
    unfold Tr.sz at *
    simp only [arrows, Tr.lv, List.length_append]
    lia
theorem arrows_cnt (n : Nat) : ∀ a : List Tr, a.length ≤ (arrows a (.lf n)).sz
  | [] => Nat.zero_le _
  | u :: us => by
    have := arrows_cnt n us
    have h2 := Tr.lv_pos u
    unfold Tr.sz at *
    simp only [arrows, Tr.lv, List.length_append, List.length_cons]
    lia
theorem sz_enc {t : Tr} (h : t.sz ≤ 200) : (t.enc 51).length ≤ 1000000 := by
  have := Tr.enc_len 51 t
  unfold Tr.sz at h
  lia
section
open PySem.Calls LCg
variable {prog : Program} {w : World} {A : Around} {E : Value → Shared → Prop} {s : Shared} {sH : Heap} {sG : Array GenState} {sD : Drawn} {sT : Nat} {sO : OsState} {h₀ : Heap} {L d : Addr} {m : Str → Option Value} {news : Led} {g : Obj → Led} {o : Obj} {kvs : List (Str × Value)} {k : Str} {v dv : Value} {t : Tok}
theorem dlen {Q : Value → Shared → Prop} (N : News h₀ L sH news) (hp : (d, o) ∈ news) (hd : o.IsDictOf (PySem.strKind prog w) kvs) (lo : (d == sysModules) = false) (hfit : kvs.length ≤ 16777216) (h : Q (.int (kvs.length : Nat) (sT + 1)) (Shared.mk sH sG sD (sT + 1 + 1) sO)) :
    wpAny (model prog w) A (call (.builtin "len") [.ref d]) Q E (Shared.mk sH sG sD sT sO) := kda_len N hp hd lo hfit h
theorem dset {Q : Unit → Shared → Prop} (F : Fr h₀ L sH m) (N : News h₀ L sH news) (U : UpdF d o news g) (hd : o.IsDictOf (PySem.strKind prog w) kvs) (hz : kvs.length ≤ 16777216) (hf : kvs.any (fun kv => kv.1 = k) = false)
    (h : ∀ h' o', Fr h₀ L h' m → News h₀ L h' (g o') → o'.IsDictOf (PySem.strKind prog w) (kvs ++ [(k, v)]) → Q () (Shared.mk h' sG sD (sT + 1) sO)) : wpAny (model prog w) A (setItem (.ref d) (.str k t) v) Q E (Shared.mk sH sG sD sT sO) :=
  kda_set (knd := PySem.strKind prog w) F N U hd (strKind_is _ _ _ _) (by rw [sizeLine_eq]; lia) fun h' o' F' N' hd' => h h' o' F' N' (by rwa [stored_new hf] at hd')
theorem dget {Q : Value → Shared → Prop} {T : Addr} (N : News h₀ L sH news) (hp : (d, o) ∈ news) (hd : o.IsDictOf (PySem.strKind prog w) kvs) (lo : (d == sysModules) = false) (hl : PySem.valueAt kvs k = some (.ref T)) (h : Q (.ref T) (Shared.mk sH sG sD (sT + 1) sO)) :
    wpAny (model prog w) A (call (.builtin "dict.get") [.ref d, .str k t, dv]) Q E (Shared.mk sH sG sD sT sO) := kdg_get2 (knd := PySem.strKind prog w) N hp hd lo (strKind_is _ _ _ _) _ hl h
theorem dmethod {pl : Sem Bool} {Q : Value × List Value → Shared → Prop} (N : News h₀ L s.heap news) (hp : (d, o) ∈ news) (hd : o.IsDictOf (PySem.strKind prog w) kvs) (h : Q (.builtin "dict.get", [.ref d]) s) : wpAny (model prog w) A (getMethod (.ref d) "get" pl) Q E s :=
  kdg_method N hp hd h
end
/-- the state of the loop of _law_told -/
structure TS where
  As : List Tr
  hs : List Tr
  todo : List (Nat × Nat × Nat)
  done : List (Nat × Nat × Nat)
  pre : List Value
  qv : List Value
  jk : Nat
  rk : Nat
  rv : List Value
  oH : Obj
  kvs : List (Str × Value)
  R : Led
structure TW where
  us : List Tr
  gs : List Tr
  wk : Nat
  wv : List Value
  tj : Tok
structure TI where
  us : List Tr
  gs : List Tr
  oH : Obj
  kvs : List (Str × Value)
  R : Led
  tj : Tok
set_option maxRecDepth 100000 in
set_option maxHeartbeats 8000000 in
theorem told_ (w : World) (K : Tr) (rows : List (Nat × Nat × Nat)) (hT : ToldB [K] [] rows) (hrl : rows.length ≤ 200) (tt : Tok) (rest : Led) :
    Does w 60 800 (.ref 212) [.str (S (K.enc 51)) tt] rest (fun K => ∀ (rw : Addr) (rk : Nat) (rv : List Value) (R : Led), RowsV R rows rv → (∀ p ∈ rest, p ∈ R) → K (.ref rw) ((rw, ls rk rv) :: R)) := by
  k_with_none
  k_with "my k_in" => first | with_reducible assumption | exact Frag.In.keeps (by with_reducible assumption) (Fr.keep (by with_reducible assumption))
  k_with "my k_ne" => (refine neN ?_; (try dsimp only); first | with_reducible assumption | (refine Ne.symm ?_; with_reducible assumption) | lia)
  k_with "my ROOM" => ((try dsimp only [Around.deeper, Around.mark, Around.in1]); first | exact room3 (by assumption) rfl | exact room2 (by assumption) rfl | lia)
  k_with "my ite" => first | (refine ite_pos (by with_reducible assumption) ?_) | (refine ite_neg (by with_reducible assumption) ?_) | (refine ite_pos (decide_eq_true (by with_reducible assumption)) ?_) | (refine ite_neg (Bool.eq_false_iff.mp (decide_eq_false (by with_reducible assumption))) ?_)
  k_with "my exec While" => (try k_fold); refine Stop.mk ?_
  k_with "my subscriptTail Name Name str int" => (refine sub_str (by assumption) (by assumption) ?_)
  k_with "my call builtin:ord" => (refine ord_S ?_)
  k_with "my execs cons" => (first | (k_here; k_gentoks) | ((with_reducible refine wpAny_execs_cons ?_); (try dsimp only); (try clear qk ek); (try k_fold)))
  k_with "my binaryOp Add int int" => with_reducible first | (refine' add_lit 1 (by decide) ?_) | (refine' add_lit 2 (by decide) ?_) | refine add_nat ?_
  k_with "my binaryOp Sub int int" => with_reducible first | (refine' sub_lit 1 (by decide) (by first | with_reducible_and_instances lia | decide) ?_) | (refine' sub_lit 256 (by decide) (by first | with_reducible_and_instances lia | decide) ?_) | (refine' sub_lit 300 (by decide) (by first | with_reducible_and_instances lia | decide) ?_) | (refine' sub_nat (by first | with_reducible_and_instances lia | decide) ?_)
  k_with "my binaryOp Mod int int" => with_reducible first | (refine' mod_lit 3 (by decide) (by first | with_reducible_and_instances lia | decide) ?_) | (refine' mod_lit 2 (by decide) (by first | with_reducible_and_instances lia | decide) ?_) | (refine' mod_nat (by first | with_reducible_and_instances lia | decide) ?_)
  k_with "my binaryOp FloorDiv int int" => with_reducible first | (refine' div_lit 3 (by decide) (by first | with_reducible_and_instances lia | decide) (by decide) ?_) | (refine' div_lit 2 (by decide) (by first | with_reducible_and_instances lia | decide) (by decide) ?_) | fail
  k_with "my call builtin:len" => ((k_dflt (refine' len_L (by k_asm) (by k_mem) ?_ ?_)); (next => with_reducible_and_instances lia))
  k_with "my subscriptTail" => ((k_dflt (refine' item_L (by k_asm) (by k_mem) (by with_reducible assumption) ?_ ?_; k_whole)); (next => with_reducible_and_instances lia))
  k_with "my subscriptTail" => ((k_dflt (refine' item_C 0 (by exact rfl) (by k_asm) (by k_mem) (by with_reducible assumption) ?_ ?_; k_whole)); (next => decide))
  k_with "my subscriptTail Name Name ref int" => ((k_dflt (refine' item_L (by k_asm) (by k_mem) (by with_reducible assumption) ?_ ?_; k_whole)); (next => with_reducible_and_instances lia))
  k_with "my binaryOp Add ref ref" => (((k_dflt (refine' sum_L (by k_asm) (by k_asm) (by k_mem) (by k_mem) ?_ ?_)); (next => ((try rw [sizeLine_eq]); (try simp only [List.length_append, List.length_take, List.length_drop, List.length_cons, List.length_nil]); with_reducible_and_instances lia)); intro Dpzz hpzz Fpzz Npzz l1zz; (try k_lt l1zz))); (try revert l1zz); (try revert Npzz); (try revert Fpzz); (try revert hpzz); (try revert Dpzz); intros
  k_with "my subscriptTail Name Slice ref ref" => (((k_dflt (refine' cut_L _ (by k_asm) (by k_asm) (by k_mem) (by kmk_part) (by kmk_part) (by first | exact pick_from _ _ | exact pick_upto _ _) ?_ ?_ (by with_unfolding_all rfl) (by kmk_pure))); (next => ((try rw [sizeLine_eq]); with_reducible_and_instances lia)); intro Dpzz hpzz Fpzz Npzz l1zz; (try k_lt l1zz))); (try revert l1zz); (try revert Npzz); (try revert Fpzz); (try revert hpzz); (try revert Dpzz); intros
  k_with "my binaryOp Add str str" => (with_reducible first | ((refine' add_S ?_ ?_); (next => ((try rw [sizeLine_eq]); (try simp only [List.length_append, List.length_cons, List.length_nil]); with_reducible_and_instances lia)); intro tpzz tkpzz) | ((refine' add_CS [64] (by with_unfolding_all exact rfl) ?_ ?_); (next => ((try rw [sizeLine_eq]); (try simp only [List.length_append, List.length_cons, List.length_nil]); with_reducible_and_instances lia)); intro tpzz tkpzz) | ((refine' add_CS [34] (by with_unfolding_all exact rfl) ?_ ?_); (next => ((try rw [sizeLine_eq]); (try simp only [List.length_append, List.length_cons, List.length_nil]); with_reducible_and_instances lia)); intro tpzz tkpzz) | ((refine' add_CS [92] (by with_unfolding_all exact rfl) ?_ ?_); (next => ((try rw [sizeLine_eq]); (try simp only [List.length_append, List.length_cons, List.length_nil]); with_reducible_and_instances lia)); intro tpzz tkpzz) | ((refine' add_SC [34] (by with_unfolding_all exact rfl) ?_ ?_); (next => ((try rw [sizeLine_eq]); (try simp only [List.length_append, List.length_cons, List.length_nil]); with_reducible_and_instances lia)); intro tpzz tkpzz) | ((refine' add_SC [10] (by with_unfolding_all exact rfl) ?_ ?_); (next => ((try rw [sizeLine_eq]); (try simp only [List.length_append, List.length_cons, List.length_nil]); with_reducible_and_instances lia)); intro tpzz tkpzz)); (try revert tkpzz); (try revert tpzz); (try revert tkpzz); (try revert tpzz); (try revert tkpzz); (try revert tpzz); (try revert tkpzz); (try revert tpzz); (try revert tkpzz); (try revert tpzz); (try revert tkpzz); (try revert tpzz); intros
  k_with "my exec For" => (try k_fold); (k_dflt (refine For_k (F := by k_asm) ?_))
  k_with "my inplaceOp Add" => ((dsimp only; (with_reducible refine' iadd_S ?_ ?_); (next => ((try rw [sizeLine_eq]); (try simp only [List.length_append, List.length_cons, List.length_nil]); with_reducible_and_instances lia)); intro tpzz tkpzz)); (try revert tkpzz); (try revert tpzz); intros
  k_with "my call builtin:len" => (with_reducible refine' len_S (by k_asm) ?_)
  k_with "my k_all" => with_reducible assumption
  k_with "my call builtin:len" => (k_dflt (refine' dlen (by k_asm) (by k_mem) (by k_asm) (by k_asm) (by k_asm) ?_))
  k_with "my k_mem" => first | with_reducible assumption | (refine memOf ?_; with_reducible assumption)
  k_with "my call builtin:dict.get" => (k_dflt (refine' dget (by k_asm) (by k_mem) (by k_asm) (by k_asm) (by k_asm) ?_))
  k_with "my setItem ref str" => refine Stop.mk ?_
  k_with "my call ref" => ((refine' Does.useG (behind1 _ (k := 51) (by decide) (by k_asm) (by k_asm) (by with_reducible assumption) _ _ _) (by k_asm) (by k_asm) (by k_asm) (by with_reducible assumption) (by k_asm) rfl rfl (by walk_at "ROOM") (by walk_at "ROOM") ?_; intro t9zz h9zz k9zz F9zz N9zz g9zz; (try k_sweep))); (try revert g9zz); (try revert N9zz); (try revert F9zz); (try revert k9zz); (try revert h9zz); (try revert t9zz); intros
  k_with "my subscriptTail Name Slice str ref" => ((k_dflt (refine' cut_head (by k_asm) (by with_reducible assumption) (by exact rfl) (by k_asm) (by k_asm) ?_ (by with_unfolding_all rfl) (by (intro _; with_unfolding_all rfl))); intro h9zz t9zz k9zz F9zz N9zz j9zz; (try k_sweep))); (try revert j9zz); (try revert N9zz); (try revert F9zz); (try revert k9zz); (try revert t9zz); (try revert h9zz); intros
  k_with "my subscriptTail Name Slice str ref" => ((k_dflt (refine' cut_from (by k_asm) (by with_reducible assumption) (by exact rfl) (by k_asm) (by k_asm) ?_ (by with_unfolding_all rfl) (by (intro _; with_unfolding_all rfl))); intro h9zz t9zz k9zz F9zz N9zz; (try k_sweep))); (try revert N9zz); (try revert F9zz); (try revert k9zz); (try revert t9zz); (try revert h9zz); intros
  k_with "my subscriptTail Name BinOp str int" => (refine sub_str (by k_asm) (by k_asm) ?_)
  k_with "my call builtin:list.append" => ((k_dflt (refine' append_K (by k_asm) (by k_asm) (by k_upd) ?_ (by (simp [sizeLine_eq]; lia)); k_whole); intro hpzz Fpzz Npzz; (try k_sweep))); (try revert Npzz); (try revert Fpzz); (try revert hpzz); intros
  k_with "my inplaceOp Add" => ((dsimp only; k_dflt (refine' iadd_L (by k_asm) (by k_asm) (by k_updF) (by k_mem) (by k_asm) ?_); intro hpzz kpzz Fpzz Npzz)); (try revert Npzz); (try revert Fpzz); (try revert kpzz); (try revert hpzz); intros
  unfold Does
  intro dp un gd env outer A₀ base h₀ L m sH sG sD sT sO R p loose mean mg mb hf hk B F X N T hd hu hret
  k_dflt (refine' code_defF ?k1 ?k2 ?k3 ?k4 ?k5 ?kA ?kF ?kK ?k6 ?k7 ?k8 ?k9 ?kB ?_ ?c2 ?c3 ?c4 ?c5; (case kA => exact rfl); (case kF => exact hf); (case kK => exact hk); (case k1 => exact B); (case k2 => exact F); (case k3 => exact X); (case k4 => exact N); (case k5 => exact T); (case k6 => k_is); (case k7 => k_is); (case k8 => (refine room_of hd ?_; dsimp only; lia)); (case k9 => first | exact BindsTo.of_eq rfl | exact binds_K (by k_in) rfl (by k_is) rfl rfl rfl); (case c5 => decide); (case kB => exact locs rfl); (case c2 => exact rfl); (case c3 => exact rfl); (case c4 => exact rfl); k_whole)
  intro g' L' h1 FG' F' N' B' X' T'
  (try dsimp only)
  (try k_fold)
  k_steps
  refine Stop.go ?_
  rename_i rw zh1 lrw jb zh2 ljb hx zh3 oH0 loH hdH zf1 zi1 zf2 lhx zD zh4 lzD zh5 zh6 zh7 zh8 F9 N9
  clear zf1 zi1 zf2
  have hrw : ∀ p ∈ rest, p.1 ≠ rw := fun p hp => Nat.ne_of_lt (lrw p hp)
  have hjb : ∀ p ∈ rest, p.1 ≠ jb := fun p hp => Nat.ne_of_lt (allLt_mem rest ljb.2 p hp)
  have hhx : ∀ p ∈ rest, p.1 ≠ hx := fun p hp => Nat.ne_of_lt (allLt_mem rest lhx.2.2 p hp)
  have h12 : @LT.lt Nat _ rw jb := ljb.1
  have h23 : @LT.lt Nat _ jb hx := lhx.1
  (try k_fold)
  refine whl (σ := TS) (fun s => [("rows", .ref rw), ("jobs", .ref jb), ("heads", .ref hx)]) (fun s => (hx, s.oH) :: (jb, ls s.jk (s.pre ++ s.qv)) :: (rw, ls s.rk s.rv) :: s.R)
    (fun s => ToldB s.As s.hs s.todo ∧ s.done ++ s.todo = rows ∧ RowsV s.R s.done s.rv ∧ s.pre.length = s.done.length ∧ Paired (fun (t : Tr) v => IsT (t.enc 51) v) s.As s.qv ∧ s.oH.IsDictOf (PySem.strKind PySem.Challenge.rw_ti0018_01.row.prog w) s.kvs ∧ HeadsV s.R 0 s.hs s.kvs ∧
      (∀ p ∈ rest, p ∈ s.R) ∧ (∀ p ∈ s.R, p.1 ≠ rw) ∧ (∀ p ∈ s.R, p.1 ≠ jb) ∧ (∀ p ∈ s.R, p.1 ≠ hx)) (fun s => s.todo.length)
    ⟨[K], [], rows, [], [], [.str (S (K.enc 51)) tt], 0, 0, [], oH0, [], rest⟩ F9 N9 ?h1 ?h2 ?h3 ?turn
  case h1 =>
    (repeat' (first | exact List.forall_mem_nil _ | refine List.forall_mem_cons.mpr ⟨by (repeat (first | with_reducible assumption | exact List.mem_cons_self | apply List.mem_cons_of_mem)), ?_⟩))
    (try (intro p9 hp9; repeat (first | exact hp9 | exact List.mem_append_left _ hp9 | exact List.mem_append_right _ hp9 | apply List.mem_cons_of_mem)))
  case h2 => repeat' (first | exact List.forall_mem_nil _ | refine List.forall_mem_cons.mpr ⟨by first | rfl | (dsimp only; refine Eq.trans (b := some (Value.int _ _)) rfl ?_; refine int_cong ?_; simp only [List.length_append, List.length_cons, List.length_nil]; lia), ?_⟩)
  case h3 => exact ⟨hT, rfl, .nil, rfl, .cons ⟨_, rfl⟩ .nil, hdH, trivial, fun _ h => h, hrw, hjb, hhx⟩
  case turn =>
    intro End1 hE1
    rintro ⟨As, hs, todo, done, pre, qv, jk, rk, rv, oH, kvs, R1⟩ u h tk2 hJ0 F2 N2
    (try k_fold)
    refine andE11 hJ0 ?_
    clear hJ0
    intro hT1 hrows hRV hpre hqv hdH1 hHV hsub hR1 hR2 hR3
    clear F9 N9 hdH
    (try dsimp only at hT1 hrows hRV hpre hqv hdH1 hHV hsub hR1 hR2 hR3 F2 N2 ⊢)
    have hrvl : rv.length = done.length := hRV.length.symm
    have hdl : done.length + todo.length = rows.length := by rw [← hrows, List.length_append]
    have hkl := hHV.len
    cases hT1 with
    | nil =>
      cases hqv
      have hc : ¬ (((rv.length : Nat) : Int) < (((pre ++ []).length : Nat) : Int)) := by rw [List.append_nil]; lia
      have hz1 : rv.length ≤ 1000000000000000000 := by lia
      have hz2 : (pre ++ []).length ≤ 1000000000000000000 := by rw [List.append_nil]; lia
      k_steps
      rename Fr _ _ _ _ => F9
      rename News _ _ _ _ => N9
      (try simp only [List.push_toArray] at N9)
      rw [List.append_nil] at hrows
      subst hrows
      refine hret rw rk rv R1 hRV hsub _ _ F9 (fun p hp => N9 p ?_)
      revert p hp
      (repeat' (first | exact List.forall_mem_nil _ | refine List.forall_mem_cons.mpr ⟨by (repeat (first | with_reducible assumption | exact List.mem_cons_self | apply List.mem_cons_of_mem)), ?_⟩))
      (try (intro p9 hp9; repeat (first | exact hp9 | exact List.mem_append_left _ hp9 | exact List.mem_append_right _ hp9 | apply List.mem_cons_of_mem)))
    | step o1 o2 o3 o4 o5 o6 o7 o8 hT2 =>
      rename_i Us As Bs y p rows2
      cases hqv with
      | cons hq hqv =>
      rename_i q0 qv
      obtain ⟨t0, rfl⟩ := hq
      rw [List.length_append] at o5
      rw [List.length_cons] at hdl
      have hqvl := hqv.length
      have hc : ((rv.length : Nat) : Int) < (((pre ++ .str (S ((arrows Us (.lf p)).enc 51)) t0 :: qv).length : Nat) : Int) := by rw [List.length_append, List.length_cons]; lia
      have hz1 : rv.length ≤ 1000000000000000000 := by lia
      have hz2 : (pre ++ .str (S ((arrows Us (.lf p)).enc 51)) t0 :: qv).length ≤ 1000000000000000000 := by rw [List.length_append, List.length_cons]; lia
      have hit : (pre ++ .str (S ((arrows Us (.lf p)).enc 51)) t0 :: qv)[rv.length]? = some (.str (S ((arrows Us (.lf p)).enc 51)) t0) := by
        rw [List.getElem?_append_right (by lia), show rv.length - pre.length = 0 by lia]; rfl
      have hkz : kvs.length ≤ 16777216 := by lia
      k_steps
      refine Stop.go ?_
      rename Fr _ _ _ _ => F9
      rename News _ _ _ _ => N9
      (try simp only [List.push_toArray] at N9)
      (try k_fold)
      refine whl (σ := TI) (fun s => [("rows", .ref rw), ("jobs", .ref jb), ("heads", .ref hx), ("before", .int (kvs.length : Int) ?tokb), ("job", .str (S ((arrows s.us (.lf p)).enc 51)) s.tj)])
        (fun s => (hx, s.oH) :: (jb, ls jk (pre ++ .str (S ((arrows Us (.lf p)).enc 51)) t0 :: qv)) :: (rw, ls rk rv) :: s.R)
        (fun s => s.gs ++ s.us = Us ∧ s.oH.IsDictOf (PySem.strKind PySem.Challenge.rw_ti0018_01.row.prog w) s.kvs ∧ HeadsV s.R 0 (hs ++ s.gs) s.kvs ∧ (∀ p ∈ R1, p ∈ s.R) ∧ (∀ p ∈ s.R, p.1 ≠ rw) ∧ (∀ p ∈ s.R, p.1 ≠ jb) ∧ (∀ p ∈ s.R, p.1 ≠ hx)) (fun s => s.us.length)
        ⟨Us, [], oH, kvs, R1, t0⟩ F9 N9 ?h1 ?h2 ⟨rfl, hdH1, by rw [List.append_nil]; exact hHV, fun _ h => h, hR1, hR2, hR3⟩ ?turn2
      case h1 =>
        (repeat' (first | exact List.forall_mem_nil _ | refine List.forall_mem_cons.mpr ⟨by (repeat (first | with_reducible assumption | exact List.mem_cons_self | apply List.mem_cons_of_mem)), ?_⟩))
        (try (intro p9 hp9; repeat (first | exact hp9 | exact List.mem_append_left _ hp9 | exact List.mem_append_right _ hp9 | apply List.mem_cons_of_mem)))
      case h2 => repeat' (first | exact List.forall_mem_nil _ | refine List.forall_mem_cons.mpr ⟨by first | rfl | (dsimp only; refine Eq.trans (b := some (Value.int _ _)) rfl ?_; refine int_cong ?_; simp only [List.length_append, List.length_cons, List.length_nil]; lia), ?_⟩)
      case turn2 =>
        clear hdH1 hHV F9 N9
        intro End2 hE2
        rintro ⟨us, gs, oH, kvs2, R2, tj⟩ u2 h2 tk3 hJ0 F3 N3
        (try k_fold)
        refine andE7 hJ0 ?_
        clear hJ0
        intro hgu hdH1 hHV hsub2 hR1 hR2 hR3
        (try dsimp only at hgu hdH1 hHV hsub2 hR1 hR2 hR3 F3 N3 ⊢)
        have hkl2 := hHV.len
        have hul : gs.length + us.length = Us.length := by rw [← hgu, List.length_append]
        rw [List.length_append] at hkl2
        rcases us with _ | ⟨u, us⟩
        · obtain ⟨x, hxx⟩ : ∃ x, x = (arrows [] (.lf p)).enc 51 := ⟨_, rfl⟩
          rw [← hxx] at F3
          have hx0 : x = [p] := hxx
          clear hxx
          have hc2 : ¬ ((x.length : Nat) : Int) > 1 := by rw [hx0]; simp
          have hz3 : x.length ≤ 1000000 := by rw [hx0]; simp
          rw [List.append_nil] at hgu
          subst hgu
          obtain ⟨Th, ah, bh, hval, hTh⟩ := hHV.get o7 o8
          rw [tl_arrows, show (Tr.lf p).tl = p from rfl, ← hx0] at hval
          rw [Nat.zero_add] at hTh
          obtain ⟨z, hzz⟩ : ∃ z, z = (arrows Bs (.lf p)).enc 51 := ⟨_, rfl⟩
          have hTh : (Th, ({ cls := .type "tuple", data := .seq #[.int (y : Int) ah, .str (S z) bh] } : Obj)) ∈ R2 := by rw [hzz]; exact hTh
          k_steps
          refine Stop.go ?_
          rename Fr _ _ _ _ => F9
          rename News _ _ _ _ => N9
          (try simp only [List.push_toArray] at N9)
          rename_i wx zh19 lwx zh29
          have lwx' : ∀ p ∈ R2, p.1 ≠ wx := fun p hp => Nat.ne_of_lt (allLt_mem R2 lwx.2.2.2.2 p hp)
          (try k_fold)
          refine whl (σ := TW) (fun s => [("rows", .ref rw), ("jobs", .ref jb), ("heads", .ref hx), ("before", .int (kvs.length : Int) ?tokb2), ("number", .int (y : Int) ah), ("wanted", .ref wx), ("side", .str (S ((arrows s.us (.lf p)).enc 51)) s.tj)])
            (fun s => (wx, ls s.wk s.wv) :: (hx, oH) :: (jb, ls jk (pre ++ .str (S ((arrows gs (.lf p)).enc 51)) t0 :: qv)) :: (rw, ls rk rv) :: R2)
            (fun s => s.gs ++ s.us = Bs ∧ Paired (fun (t : Tr) v => IsT (t.enc 51) v) s.gs s.wv) (fun s => s.us.length)
            ⟨Bs, [], 0, [], bh⟩ F9 N9 ?h1 ?h2 ⟨rfl, .nil⟩ ?turn3
          case h1 =>
            (repeat' (first | exact List.forall_mem_nil _ | refine List.forall_mem_cons.mpr ⟨by (repeat (first | with_reducible assumption | exact List.mem_cons_self | apply List.mem_cons_of_mem)), ?_⟩))
            (try (intro p9 hp9; repeat (first | exact hp9 | exact List.mem_append_left _ hp9 | exact List.mem_append_right _ hp9 | apply List.mem_cons_of_mem)))
          case h2 => rw [← hzz]; repeat' (first | exact List.forall_mem_nil _ | refine List.forall_mem_cons.mpr ⟨by first | rfl | (dsimp only; refine Eq.trans (b := some (Value.int _ _)) rfl ?_; refine int_cong ?_; simp only [List.length_append, List.length_cons, List.length_nil]; lia), ?_⟩)
          case turn3 =>
            intro End3 hE3
            rintro ⟨us, vs, wk, wv, tj3⟩ u3 h3 tk4 hJ0 F4 N4
            (try k_fold)
            obtain ⟨hgu3, hwv⟩ := hJ0
            clear F9 N9 hzz hTh hx0 hc2 hz3
            (try dsimp only at hgu3 hwv F4 N4 ⊢)
            have hwl := hwv.length
            have hvl : vs.length + us.length = Bs.length := by rw [← hgu3, List.length_append]
            have hBs := Nat.le_trans (arrows_cnt p Bs) o4
            rcases us with _ | ⟨v, us⟩
            · obtain ⟨x3, hxx⟩ : ∃ x3, x3 = (arrows [] (.lf p)).enc 51 := ⟨_, rfl⟩
              rw [← hxx] at F4
              have hx0 : x3 = [p] := hxx
              clear hxx
              have hc3 : ¬ ((x3.length : Nat) : Int) > 1 := by rw [hx0]; simp
              have hz3 : x3.length ≤ 1000000 := by rw [hx0]; simp
              have hle : kvs.length ≤ kvs2.length := by lia
              have hkz2 : kvs2.length ≤ 16777216 := by lia
              have hzj : (pre ++ .str (S ((arrows gs (.lf p)).enc 51)) t0 :: qv).length + wv.length ≤ 1000000 := by rw [List.length_append, List.length_cons]; lia
              k_steps
              rename Fr _ _ _ _ => F9
              rename News _ _ _ _ => N9
              (try simp only [List.push_toArray] at N9)
              rename_i Dn zh20 ln zh21 zh22 zh23 zh24 zh25
              rw [List.append_nil] at hgu3
              subst hgu3
              have ek : kvs2.length - kvs.length = gs.length := by lia
              rw [ek, ← hwl] at N9
              (first | refine hE3 _ _ _ ?_ | refine hE2 _ _ _ ?_ | refine hE1 _ _ _ ?_)
              refine' wend_next ⟨As ++ vs, hs ++ gs, rows2, done ++ [(gs.length, y, vs.length)], pre ++ [.str (S ((arrows gs (.lf p)).enc 51)) t0], qv ++ wv, _, _, rv ++ [.ref Dn], oH, kvs2, (Dn, tup3 (gs.length, y, vs.length) _ _ _) :: R2⟩ F9 N9 ?h1 ?h2 ⟨hT2, ?h3, ?h4, ?h5, ?h6, hdH1, ?h7, ?h8, ?h9, ?h10, ?h11⟩ ?h12
              case h1 =>
                (try dsimp only)
                rw [show (pre ++ [Value.str (S ((arrows gs (.lf p)).enc 51)) t0]) ++ (qv ++ wv) = pre ++ .str (S ((arrows gs (.lf p)).enc 51)) t0 :: qv ++ wv by simp]
                (repeat' (first | exact List.forall_mem_nil _ | refine List.forall_mem_cons.mpr ⟨by (repeat (first | with_reducible assumption | exact List.mem_cons_self | apply List.mem_cons_of_mem)), ?_⟩))
                (try (intro p9 hp9; repeat (first | exact hp9 | exact List.mem_append_left _ hp9 | exact List.mem_append_right _ hp9 | apply List.mem_cons_of_mem)))
              case h2 => repeat' (first | exact List.forall_mem_nil _ | refine List.forall_mem_cons.mpr ⟨by first | rfl | (dsimp only; refine Eq.trans (b := some (Value.int _ _)) rfl ?_; refine int_cong ?_; simp only [List.length_append, List.length_cons, List.length_nil]; lia), ?_⟩)
              case h3 => dsimp only; rw [List.append_assoc]; exact hrows
              case h4 => exact pd_append (hRV.mono fun p hp => List.mem_cons_of_mem _ (hsub2 p hp)) (.cons ⟨Dn, _, _, _, rfl, List.mem_cons_self⟩ .nil)
              case h5 => dsimp only; rw [List.length_append, List.length_append, hpre]; rfl
              case h6 => exact pd_append hqv hwv
              case h7 => exact hHV.mono fun p hp => List.mem_cons_of_mem _ hp
              case h8 => exact fun p hp => List.mem_cons_of_mem _ (hsub2 p (hsub p hp))
              case h9 => exact List.forall_mem_cons.mpr ⟨Nat.ne_of_gt ln.2.2.2.1, hR1⟩
              case h10 => exact List.forall_mem_cons.mpr ⟨Nat.ne_of_gt ln.2.2.1, hR2⟩
              case h11 => exact List.forall_mem_cons.mpr ⟨Nat.ne_of_gt ln.2.1, hR3⟩
              case h12 => exact Nat.lt_succ_self _
            · have hal := (arrows_len p rfl (v :: us)).2 (by simp)
              have hvo : v.Ok := (Tr.Ok.arrows o3).1 v (by rw [← hgu3]; simp)
              obtain ⟨x3, hxx⟩ : ∃ x3, x3 = (arrows (v :: us) (.lf p)).enc 51 := ⟨_, rfl⟩
              have hz3 : x3.length ≤ 1000000 := by
                rw [hxx]
                refine sz_enc (Nat.le_trans (arrows_sz _ vs) ?_)
                rw [← arrows_append, hgu3]; exact o4
              rw [← hxx] at F4 hal
              have hx1 : x3 = 51 :: (v.enc 51 ++ (arrows us (.lf p)).enc 51) := hxx
              have hx2 : x3 = ([51] ++ v.enc 51) ++ (arrows us (.lf p)).enc 51 := hxx
              have hc3 : (((x3.length : Nat) : Int) > 1) := by lia
              clear hxx
              k_steps
              rename Fr _ _ _ _ => F9
              rename News _ _ _ _ => N9
              (try simp only [List.push_toArray] at N9)
              (first | refine hE3 _ _ _ ?_ | refine hE2 _ _ _ ?_ | refine hE1 _ _ _ ?_)
              refine' wend_next ⟨us, vs ++ [v], wk + 1, wv ++ [_], _⟩ F9 N9 ?h1 ?h2 ⟨?h3, ?h4⟩ ?h5
              case h1 =>
                (repeat' (first | exact List.forall_mem_nil _ | refine List.forall_mem_cons.mpr ⟨by (repeat (first | with_reducible assumption | exact List.mem_cons_self | apply List.mem_cons_of_mem)), ?_⟩))
                (try (intro p9 hp9; repeat (first | exact hp9 | exact List.mem_append_left _ hp9 | exact List.mem_append_right _ hp9 | apply List.mem_cons_of_mem)))
              case h2 => repeat' (first | exact List.forall_mem_nil _ | refine List.forall_mem_cons.mpr ⟨by first | rfl | (dsimp only; refine Eq.trans (b := some (Value.int _ _)) rfl ?_; refine int_cong ?_; simp only [List.length_append, List.length_cons, List.length_nil]; lia), ?_⟩)
              case h3 => dsimp only; rw [List.append_assoc]; exact hgu3
              case h4 => exact pd_append hwv (.cons ⟨_, rfl⟩ .nil)
              case h5 => exact Nat.lt_succ_self _
        · have hal := (arrows_len p rfl (u :: us)).2 (by simp)
          have huo : u.Ok := (Tr.Ok.arrows o1).1 u (by rw [← hgu]; simp)
          have hkz2 : kvs2.length ≤ 16777216 := by lia
          obtain ⟨x, hxx⟩ : ∃ x, x = (arrows (u :: us) (.lf p)).enc 51 := ⟨_, rfl⟩
          have hz3 : x.length ≤ 1000000 := by
            rw [hxx]
            refine sz_enc (Nat.le_trans (arrows_sz _ gs) ?_)
            rw [← arrows_append, hgu]; exact o2
          rw [← hxx] at F3 hal
          have hx1 : x = 51 :: (u.enc 51 ++ (arrows us (.lf p)).enc 51) := hxx
          have hx2 : x = ([51] ++ u.enc 51) ++ (arrows us (.lf p)).enc 51 := hxx
          have hx3 : x[([51] ++ u.enc 51).length - 1]? = some u.tl := by rw [hx1]; exact enc_key u _
          have hcut : 1 ≤ ([51] ++ u.enc 51).length := by simp
          have hc2 : (((x.length : Nat) : Int) > 1) := by lia
          clear hxx
          have hfr : u.tl ∉ (hs ++ gs).map Tr.tl := by
            rw [← hgu, ← List.append_assoc, List.map_append, List.map_cons] at o7
            intro hm
            exact (List.nodup_append.mp o7).2.2 _ hm _ List.mem_cons_self rfl
          k_steps
          refine Stop.go ?_
          rename Fr _ _ _ _ => F9
          rename News _ _ _ _ => N9
          (try simp only [List.push_toArray] at N9)
          refine' dset F9 N9 ?U hdH1 hkz2 (hHV.fresh hfr) ?_
          case U => k_updF
          intro h8 o9 F8 N8 hd9
          clear F9 N9
          k_steps
          rename Fr _ _ _ _ => F9
          rename News _ _ _ _ => N9
          (try simp only [List.push_toArray] at N9)
          rename_i Dn zh20 ln zh21 zh22 zh23 zh24 zh25
          have e9 : 0 + (hs ++ gs).length = kvs2.length := by rw [Nat.zero_add, hHV.len]
          (first | refine hE3 _ _ _ ?_ | refine hE2 _ _ _ ?_ | refine hE1 _ _ _ ?_)
          refine' wend_next ⟨us, gs ++ [u], o9, kvs2 ++ [(S [u.tl], .ref Dn)], (Dn, headO kvs2.length u _ _) :: R2, _⟩ F9 N9 ?h1 ?h2 ⟨?h3, hd9, ?h4, ?h5, ?h6, ?h7, ?h8⟩ ?h9
          case h1 =>
            (repeat' (first | exact List.forall_mem_nil _ | refine List.forall_mem_cons.mpr ⟨by (repeat (first | with_reducible assumption | exact List.mem_cons_self | apply List.mem_cons_of_mem)), ?_⟩))
            (try (intro p9 hp9; repeat (first | exact hp9 | exact List.mem_append_left _ hp9 | exact List.mem_append_right _ hp9 | apply List.mem_cons_of_mem)))
          case h2 => repeat' (first | exact List.forall_mem_nil _ | refine List.forall_mem_cons.mpr ⟨by first | rfl | (dsimp only; refine Eq.trans (b := some (Value.int _ _)) rfl ?_; refine int_cong ?_; simp only [List.length_append, List.length_cons, List.length_nil]; lia), ?_⟩)
          case h3 => dsimp only; rw [List.append_assoc]; exact hgu
          case h4 =>
            (try dsimp only)
            rw [← List.append_assoc]
            exact (hHV.mono fun p hp => List.mem_cons_of_mem _ hp).snoc (by rw [e9]; exact List.mem_cons_self)
          case h5 => exact fun p hp => List.mem_cons_of_mem _ (hsub2 p hp)
          case h6 => exact List.forall_mem_cons.mpr ⟨Nat.ne_of_gt ln.2.2.1, hR1⟩
          case h7 => exact List.forall_mem_cons.mpr ⟨Nat.ne_of_gt ln.2.1, hR2⟩
          case h8 => exact List.forall_mem_cons.mpr ⟨Nat.ne_of_gt ln.1, hR3⟩
          case h9 => exact Nat.lt_succ_self _

end
section
theorem pd_unsnoc {α β : Type} {F : α → β → Prop} {a : α} {l : List α} {vs : List β} (p : Paired F (l ++ [a]) vs) : ∃ vs' b, vs = vs' ++ [b] ∧ Paired F l vs' ∧ F a b := by
  obtain ⟨vs', b, e, h1, h2⟩ := pd_snoc p
  exact ⟨vs', b, e, h2, h1⟩
theorem Does.mono {w : World} {D U : Nat} {f : Value} {args : List Value} {news : Led} {P Q : (Value → Led → Prop) → Prop} (H : Does w D U f args news P) (h : ∀ K, Q K → P K) : Does w D U f args news Q := by
  unfold Does at *
  intro dp un gd env outer A₀ base h₀ L m sH sG sD sT sO R p loose mean mg mb a b c d e f' g i j k
  exact H dp un gd env outer A₀ base h₀ L m sH sG sD sT sO R p loose mean mg mb a b c d e f' g i j (h _ k)
/-- the next word of a written text -/
theorem get_any (w : World) (q : LX) (hq : q.Ok) {rest : Led} (hr : q.Off rest) {pk : Nat} {n : Int} {tn : Tok} {sk : Nat} {sv : List Value} {b : Bool} {c : Nat} {A : List Nat} (hs : c ≠ 10) (hsv : Paired (fun (c : Nat) v => IsT [c] v) (A ++ (chunk (b, c)).reverse) sv) (hz : sv.length ≤ 900) :
    Does w 60 600 (.ref 49) [.ref q.lx] (lexL w q pk [] n tn sk sv rest) (fun K => ∀ t' tn' sk' sv', Paired (fun (c : Nat) v => IsT [c] v) A sv' → K (.str (S [c]) t') (lexL w q pk [] (if b = true then n else n + 1) tn' sk' sv' rest)) := by
  cases b with
  | false =>
    rw [show A ++ (chunk (false, c)).reverse = ((A ++ [10]) ++ [c]) ++ [92] by simp [chunk]] at hsv
    obtain ⟨s1, _, rfl, g1, ⟨t1, rfl⟩⟩ := pd_unsnoc hsv
    obtain ⟨s2, _, rfl, g2, ⟨t2, rfl⟩⟩ := pd_unsnoc g1
    obtain ⟨s3, _, rfl, g3, ⟨t3, rfl⟩⟩ := pd_unsnoc g2
    refine (get_esc w q hq hr hs (by simp only [List.length_append] at hz; lia)).mono ?_
    intro K k t' tn'
    exact k t' tn' _ s3 g3
  | true =>
    by_cases hc : c = 34 ∨ c = 92
    · rw [show A ++ (chunk (true, c)).reverse = (((A ++ [34]) ++ [c]) ++ [92]) ++ [34] by simp [chunk, hc]] at hsv
      obtain ⟨s1, _, rfl, g1, ⟨t1, rfl⟩⟩ := pd_unsnoc hsv
      obtain ⟨s2, _, rfl, g2, ⟨t2, rfl⟩⟩ := pd_unsnoc g1
      obtain ⟨s3, _, rfl, g3, ⟨t3, rfl⟩⟩ := pd_unsnoc g2
      obtain ⟨s4, _, rfl, g4, ⟨t4, rfl⟩⟩ := pd_unsnoc g3
      refine (get_qq w q hq hr hs (by simp only [List.length_append] at hz; lia)).mono ?_
      intro K k t' tn'
      exact k t' tn' _ s4 g4
    · rw [show A ++ (chunk (true, c)).reverse = ((A ++ [34]) ++ [c]) ++ [34] by simp [chunk, hc]] at hsv
      obtain ⟨s1, _, rfl, g1, ⟨t1, rfl⟩⟩ := pd_unsnoc hsv
      obtain ⟨s2, _, rfl, g2, ⟨t2, rfl⟩⟩ := pd_unsnoc g1
      obtain ⟨s3, _, rfl, g3, ⟨t3, rfl⟩⟩ := pd_unsnoc g2
      refine (get_q w q hq hr hs (fun e => hc (.inl e)) (fun e => hc (.inr e)) (by simp only [List.length_append] at hz; lia)).mono ?_
      intro K k t' tn'
      exact k t' tn' _ s3 g3
/-- how many line ends -/
noncomputable def nls (cs : List (Bool × Nat)) : Nat := cs.countP fun p => !p.1
theorem chunk_nls (p : Bool × Nat) (h : p.2 ≠ 10) : (chunk p).count 10 = if p.1 = true then 0 else 1 := by
  obtain ⟨b, c⟩ := p
  have h' : ¬ (c == 10) = true := by simpa using h
  unfold chunk
  cases b
  · simp [List.count_cons, h']
  · by_cases hc : c = 34 ∨ c = 92
    · simp [hc, List.count_cons, h']
    · simp [hc, List.count_cons, h']
theorem nls_text : ∀ (cs : List (Bool × Nat)), (∀ p ∈ cs, p.2 ≠ 10) → (cs.flatMap chunk).count 10 = nls cs
  | [], _ => rfl
  | p :: cs, h => by
    have h1 := chunk_nls p (h p List.mem_cons_self)
    have h2 := nls_text cs fun q hq => h q (List.mem_cons_of_mem _ hq)
    rw [List.flatMap_cons, List.count_append, h1, h2]
    unfold nls
    rw [List.countP_cons]
    obtain ⟨b, c⟩ := p
    cases b <;> simp <;> lia
theorem chunk_len (p : Bool × Nat) : (chunk p).length ≤ 4 := by
  unfold chunk
  split
  · split <;> simp
  · simp
theorem text_len : ∀ cs : List (Bool × Nat), (cs.flatMap chunk).length ≤ 4 * cs.length
  | [] => Nat.le_refl _
  | p :: cs => by
    have := chunk_len p
    have := text_len cs
    rw [List.flatMap_cons, List.length_append, List.length_cons]
    lia
section
open PySem.Calls PySem.SeqAt
variable {prog : Program} {w : World} {A : Around} {E : Value → Shared → Prop} {s : Shared} {sH : Heap} {sG : Array GenState} {sD : Drawn} {sT : Nat} {sO : OsState} {h₀ : Heap} {L : Addr} {m : Str → Option Value} {news : Led} {Q : Value → Shared → Prop}
theorem count_S {l : List Nat} {c : Nat} {z : Str} {t u : Tok} (e : z = S [c]) (h : Q (.int ((l.count c : Nat) : Int) sT) (Shared.mk sH sG sD (sT + 1) sO)) : wpAny (model prog w) A (call (.builtin "str.count") [.str (S l) t, .str z u]) Q E (Shared.mk sH sG sD sT sO) := by
  subst e
  refine SC.count ?_
  unfold Txt.count
  rw [occ_count]; exact h
theorem reads_txts {h : Heap} {l : List Nat} {vs : List Value} (p : Paired (fun (c : Nat) v => IsT [c] v) l vs) : ReadsAll h vs (l.map fun c => PyData.str (S [c])) [] := by
  induction p with
  | nil => exact .nil
  | cons x _ ih => obtain ⟨t, rfl⟩ := x; exact .cons (.str _ _) ih
theorem strs_txts {l : List Nat} {vs : List Value} (p : Paired (fun (c : Nat) v => IsT [c] v) l vs) : StrsAre vs (l.map fun c => S [c]) := by
  induction p with
  | nil => exact .nil
  | cons x _ ih => obtain ⟨t, rfl⟩ := x; exact .cons _ _ ih
theorem countIn_txts (c : Nat) : ∀ l : List Nat, PySem.Spec.countIn (.str (S [c])) ((l.map fun c => S [c]).map PyData.str) = ((l.count c : Nat) : Int)
  | [] => rfl
  | a :: l => by
    rw [List.map_cons, List.map_cons, PySem.Spec.countIn, countIn_txts c l, PyProof.V.same_str, List.count_cons]
    by_cases h : a = c
    · subst h; simp; lia
    · have : ¬ (S [a] = S [c]) := fun q => h (S_inj q)
      simp [h, this]
theorem lcount_S {a : Addr} {k : Nat} {l : List Nat} {c : Nat} {vs : List Value} {t : Tok} (N : News h₀ L sH news) (hm : (a, ls k vs) ∈ news) (hv : Paired (fun (c : Nat) v => IsT [c] v) l vs) (h : Q (.int ((l.count c : Nat) : Int) sT) (Shared.mk sH sG sD (sT + 1) sO)) :
    wpAny (model prog w) A (call (.builtin "list.count") [.ref a, .str (S [c]) t]) Q E (Shared.mk sH sG sD sT sO) :=
  count_list_strs (News.isList N hm) (strs_txts hv) (by rw [countIn_txts]; exact h)
theorem lay_txts : ∀ {l : List Nat}, (∀ c ∈ l, c < 1000) → PyData.canLayAll0 (l.map fun c => PyData.str (S [c])) = true ∧ PyData.depthAll (l.map fun c => PyData.str (S [c])) = 0
  | [], _ => ⟨rfl, rfl⟩
  | a :: l, h => by
    obtain ⟨h1, h2⟩ := lay_txts (l := l) fun c hc => h c (List.mem_cons_of_mem _ hc)
    have h3 := h a List.mem_cons_self
    rw [List.map_cons, PyData.canLayAll0, PyData.depthAll, h1, h2]
    refine ⟨?_, by simp [PyData.depth]⟩
    simp [PyData.canLay0, PyData.strOk]
    lia
theorem eqv_txts : ∀ l : List Nat, PyData.eqvAll (l.map fun c => PyData.str (S [c])) (l.map fun c => PyData.str (S [c])) = true
  | [] => rfl
  | a :: l => by rw [List.map_cons, PyData.eqvAll, eqv_txts l, PyData.eqv]; simp
theorem ne_txts {a b : Addr} {k j : Nat} {l : List Nat} {vs us : List Value} (N : News h₀ L s.heap news) (ha : (a, ls k vs) ∈ news) (hb : (b, ls j us) ∈ news) (hv : Paired (fun (c : Nat) v => IsT [c] v) l vs) (hu : Paired (fun (c : Nat) v => IsT [c] v) l us) (hl : ∀ c ∈ l, c < 1000) (room : A.units + 64 < cLine)
    (h : Q (.bool false) s) : wpAny (model prog w) A (compareOp .NotEq (.ref a) (.ref b)) Q E s := by
  obtain ⟨h1, h2⟩ := lay_txts hl
  have hs : shaped (.list (l.map fun c => PyData.str (S [c]))) = true := by
    unfold shaped
    rw [PyData.canLay0, PyData.depth, h1, h2]; rfl
  refine ne_dataH (Reads.list (N _ ha).1 rfl rfl (by simpa using reads_txts hv)) (Reads.list (N _ hb).1 rfl rfl (by simpa using reads_txts hu)) hs hs room ?_
  rw [PyData.eqv, eqv_txts]; exact h
noncomputable abbrev rowD (r : Nat × Nat × Nat) : PyData := .tuple [.int (r.1 : Int), .int (r.2.1 : Int), .int (r.2.2 : Int)]
theorem reads_rows {R : Led} {h : Heap} (N : ∀ p ∈ R, h.get? p.1 = some p.2) {rows : List (Nat × Nat × Nat)} {vs : List Value} (p : RowsV R rows vs) : ReadsAll h vs (rows.map rowD) [] := by
  induction p with
  | nil => exact .nil
  | cons x _ ih =>
    obtain ⟨T, a, b, c, rfl, hm⟩ := x
    exact .cons (as := []) (.tuple (N _ hm) rfl rfl (.cons (as := []) (.int _ _) (.cons (as := []) (.int _ _) (.cons (as := []) (.int _ _) .nil)))) ih
theorem lay_rows : ∀ rows : List (Nat × Nat × Nat), PyData.canLayAll0 (rows.map rowD) = true ∧ PyData.depthAll (rows.map rowD) ≤ 1
  | [] => ⟨rfl, Nat.zero_le _⟩
  | r :: rows => by
    obtain ⟨h1, h2⟩ := lay_rows rows
    rw [List.map_cons, PyData.canLayAll0, PyData.depthAll, h1]
    refine ⟨by simp [PyData.canLay0, PyData.canLayAll0], ?_⟩
    have : PyData.depth (rowD r) = 1 := by simp [PyData.depth, PyData.depthAll]
    lia
theorem eqv_rows : ∀ rows : List (Nat × Nat × Nat), PyData.eqvAll (rows.map rowD) (rows.map rowD) = true
  | [] => rfl
  | r :: rows => by rw [List.map_cons, PyData.eqvAll, eqv_rows rows]; simp [PyData.eqv, PyData.eqvAll]
theorem eq_rows {a b : Addr} {k j : Nat} {R R' : Led} {rows : List (Nat × Nat × Nat)} {vs us : List Value} (N : News h₀ L s.heap news) (ha : (a, ls k vs) ∈ news) (hb : (b, ls j us) ∈ news) (hv : RowsV R rows vs) (hu : RowsV R' rows us) (hR : ∀ p ∈ R, p ∈ news) (hR' : ∀ p ∈ R', p ∈ news) (room : A.units + 64 < cLine)
    (h : Q (.bool true) s) : wpAny (model prog w) A (compareOp .Eq (.ref a) (.ref b)) Q E s := by
  obtain ⟨h1, h2⟩ := lay_rows rows
  have hs : shaped (.list (rows.map rowD)) = true := by
    unfold shaped
    rw [PyData.canLay0, PyData.depth, h1]
    simp; lia
  refine eq_dataH (Reads.list (N _ ha).1 rfl rfl (by simpa using reads_rows (fun p hp => (N p (hR p hp)).1) hv)) (Reads.list (N _ hb).1 rfl rfl (by simpa using reads_rows (fun p hp => (N p (hR' p hp)).1) hu)) hs hs room ?_
  rw [PyData.eqv, eqv_rows]; exact h
theorem topGet_K {K : Frag} {a : Addr} {es : Array DictEntry} {n : Nat} {x : Str} {r : Option Value} {t : Tok} {dv : Value} (F : Fr h₀ L sH m) (X₀ : K.In h₀) (hl : K.lookup a = some ⟨.type "dict", none, .dict es n, #[]⟩) (hk : KeysLit w.params es.toList) (e : nsIn K a x = some r) (lo : (a == sysModules) = false)
    (h : Q (r.getD dv) (Shared.mk sH sG sD (sT + 1) sO)) : wpAny (model prog w) A (call (.builtin "dict.get") [.ref a, .str x t, dv]) Q E (Shared.mk sH sG sD sT sO) :=
  have hm := mapOf_K (prog := prog) (X₀.keeps F.keep) hl hk
  call_meetsIn PySem.F.slot_dict_get hm.typeIs PySem.F.entry_dict_get (PySem.F.args_dict_get_3 _ _ _) (meets_dict_get_default (strKind prog w) a (strKind_is prog w x t) lo dv) ⟨_, hm, by rw [find_K hl e]; exact h⟩
theorem topGetM_K {K : Frag} {a : Addr} {es : Array DictEntry} {n : Nat} {pl : Sem Bool} {Q : Value × List Value → Shared → Prop} (F : Fr h₀ L s.heap m) (X₀ : K.In h₀) (hl : K.lookup a = some ⟨.type "dict", none, .dict es n, #[]⟩) (hk : KeysLit w.params es.toList)
    (h : Q (.builtin "dict.get", [.ref a]) s) : wpAny (model prog w) A (getMethod (.ref a) "get" pl) Q E s :=
  have hm := mapOf_K (prog := prog) (X₀.keeps F.keep) hl hk
  getMethod_builtin hm.typeIs PySem.F.plainAttrs_dict PySem.F.slot_dict_get PySem.F.type_dict_get hm.noDict h
theorem tokGet {x : Str} {r : Option Value} {t : Tok} {dv : Value} (F : Fr h₀ L sH m) (X : (hd.heap_39 w.params).In h₀) (e : nsIn (hd.heap_39 w.params) 148 x = some r)
    (h : Q (r.getD dv) (Shared.mk sH sG sD (sT + 1) sO)) : wpAny (model prog w) A (call (.builtin "dict.get") [.ref 148, .str x t, dv]) Q E (Shared.mk sH sG sD sT sO) := by
  obtain ⟨es, n, hl, hk⟩ := tokKeys w.params
  exact topGet_K F X hl hk e (by decide) h
theorem tokGetM {pl : Sem Bool} {Q : Value × List Value → Shared → Prop} (F : Fr h₀ L s.heap m) (X : (hd.heap_39 w.params).In h₀)
    (h : Q (.builtin "dict.get", [.ref 148]) s) : wpAny (model prog w) A (getMethod (.ref 148) "get" pl) Q E s := by
  obtain ⟨es, n, hl, hk⟩ := tokKeys w.params
  exact topGetM_K F X hl hk h
end

end
section
theorem mem_encP {k c : Nat} : ∀ {t : Tr}, c ∈ t.enc k → c = k ∨ c ∈ t.lv
  | .lf n, h => .inr h
  | .nd a b, h => by
    rcases List.mem_cons.mp h with h | h
    · exact .inl h
    · rcases List.mem_append.mp h with h | h
      · exact (mem_encP h).imp id fun h => List.mem_append_left _ h
      · exact (mem_encP h).imp id fun h => List.mem_append_right _ h
theorem quotes_is (n : Nat) : quotes n = 34 ∨ quotes n = 92 ∨ quotes n = 32 := by
  have : n % 3 = 0 ∨ n % 3 = 1 ∨ n % 3 = 2 := by lia
  unfold quotes
  rcases this with e | e | e <;> rw [e] <;> simp
/-- the number of a sign of a term -/
noncomputable def cod (c : Nat) : Nat := if c = 64 then 49 else if c = 34 then 256 else if c = 92 then 257 else 258
noncomputable def Tr.recode : Tr → Tr
  | .lf n => .lf (cod n)
  | .nd a b => .nd a.recode b.recode
theorem recode_enc : ∀ t : Tr, t.recode.enc 49 = (t.enc 64).map cod
  | .lf n => rfl
  | .nd a b => by
    simp only [Tr.recode, Tr.enc, List.map_cons, List.map_append, recode_enc a, recode_enc b]
    rfl
theorem recode_lv : ∀ t : Tr, t.recode.lv = t.lv.map cod
  | .lf n => rfl
  | .nd a b => by simp only [Tr.recode, Tr.lv, List.map_append, recode_lv a, recode_lv b]
theorem cod_letter {c : Nat} (h : c = 34 ∨ c = 92 ∨ c = 32) : cod c = 256 ∨ cod c = 257 ∨ cod c = 258 := by
  rcases h with rfl | rfl | rfl <;> simp [cod]
theorem nls_snoc (cs : List (Bool × Nat)) (p : Bool × Nat) : nls (cs ++ [p]) = nls cs + if p.1 = true then 0 else 1 := by
  unfold nls
  rw [List.countP_append, List.countP_singleton]
  obtain ⟨b, c⟩ := p
  cases b <;> rfl
theorem off_turn {q : LX} {rest own : Led} {C D I : Addr} {oC oD : Obj} (h : q.Off rest) (a1 : q.sg ≠ C ∧ q.sg ≠ D ∧ ¬ q.sg = I) (a2 : q.dlx ≠ C ∧ q.dlx ≠ D ∧ ¬ q.dlx = I) (a3 : q.pb ≠ C ∧ q.pb ≠ D ∧ ¬ q.pb = I) (hof : ∀ p ∈ own, p.1 ∈ [I]) : q.Off ((C, oC) :: (D, oD) :: (rest ++ own)) := by
  have e : ∀ {a : Addr}, ¬ a = I → ∀ p ∈ own, p.1 ≠ a := fun ha p hp q => ha (q ▸ List.mem_singleton.mp (hof p hp))
  exact ⟨List.forall_mem_cons.mpr ⟨Ne.symm a1.1, List.forall_mem_cons.mpr ⟨Ne.symm a1.2.1, List.forall_mem_append.mpr ⟨h.a, e a1.2.2⟩⟩⟩,
    List.forall_mem_cons.mpr ⟨Ne.symm a2.1, List.forall_mem_cons.mpr ⟨Ne.symm a2.2.1, List.forall_mem_append.mpr ⟨h.b, e a2.2.2⟩⟩⟩,
    List.forall_mem_cons.mpr ⟨Ne.symm a3.1, List.forall_mem_cons.mpr ⟨Ne.symm a3.2.1, List.forall_mem_append.mpr ⟨h.c, e a3.2.2⟩⟩⟩⟩
theorem lex_addr {w : World} {q : LX} {pk sk pk' sk' : Nat} {pv sv pv' sv' : List Value} {n n' : Int} {tn tn' : Tok} {rest : Led} {P : Addr → Prop} (h : ∀ p ∈ lexL w q pk pv n tn sk sv rest, P p.1) : ∀ p ∈ lexL w q pk' pv' n' tn' sk' sv' rest, P p.1 := by
  simp only [List.forall_mem_cons] at h ⊢
  exact h
theorem off_below {q : LX} (hq : q.Ok) {rest : Led} (h : ∀ p ∈ rest, @LT.lt Nat _ p.1 q.cell) : q.Off rest := by
  obtain ⟨l1, l2, l3, l4, l5, l6, l7, _⟩ := hq.l
  refine ⟨fun p hp => neN ?_, fun p hp => neN ?_, fun p hp => neN ?_⟩ <;> have := h p hp <;> lia
section
open PySem.Calls LCg
variable {prog : Program} {w : World} {A : Around} {sH : Heap} {sG : Array GenState} {sD : Drawn} {sT : Nat} {sO : OsState} {env : Env} {h₀ : Heap} {L : Addr} {m : Str → Option Value}
theorem cturn_textT {elt c : PySem.Expr} {x : Str} {scope : Scope} {cl : List (Str × Addr)} {fp wr : List Addr} {n : Nat} {l : List Nat} {J : Nat → Nat → List Value → Led → Prop}
    (t : ∀ i sg u ys nx C oC D M h tk own (E' : Value → Shared → Prop), i < n → l[i]? = some sg → J i tk ys nx → ys.length ≤ i → NsObj oC M → M x = some (.str (S [sg]) u) → (∀ b ∈ wr, ∃ o, (b, o) ∈ own) → (∀ p ∈ own, p.1 ∈ fp) → (∀ p ∈ nx, p.1 ≠ C ∧ p.1 ≠ D ∧ p.1 ∉ wr) → (@Ne Nat C D) →
      Fr h₀ L h m → News h₀ L h ((C, oC) :: (D, lst ys) :: (nx ++ own)) →
      let Qe := fun ys₂ s₂ => CEnd h₀ L m sG sD sO wr own C oC D ys (J (i + 1)) ys₂ s₂
      wpAny (model prog w) A (isTrue c (compEnvC scope cl C env) (eval c (compEnvC scope cl C env))) (fun ok s₃ =>
        if ok = true then wpAny (model prog w) A (eval elt (compEnvC scope cl C env)) (fun y s₄ => Qe (ys ++ [y]) s₄) E' s₃
        else Qe ys s₃) E' (Shared.mk h sG sD tk sO)) :
    CTurn prog w A h₀ L m env elt [c] scope cl fp wr n (fun i bs => ∃ c u, l[i]? = some c ∧ bs = [(x, .str (S [c]) u)]) J sG sD sO := by
  rintro i bs ys nx C oC D m₂ h tk own E' hi hZ0 hJ hl hC hw ho hof hCD F N
  obtain ⟨v, u, hP, rfl⟩ := hZ0
  refine wpAny_tests_one ?_
  exact t i v u ys nx C oC D _ h tk own E' hi hP hJ hl hC (by simp [over, kstB]) hw ho hof hCD F N
theorem lcount2_S {Q E : Value → Shared → Prop} {news : Led} {a : Addr} {k : Nat} {l : List Nat} {c : Nat} {vs : List Value} {t : Tok} (N : News h₀ L sH news) (hm : (a, ls k vs) ∈ news) (hv : Paired (fun (c : Nat) v => IsT [c] v) l vs) (h2 : l.count c = 2) (h : Q (.int 2 sT) (Shared.mk sH sG sD (sT + 1) sO)) :
    wpAny (model prog w) A (call (.builtin "list.count") [.ref a, .str (S [c]) t]) Q E (Shared.mk sH sG sD sT sO) := lcount_S N hm hv (by rw [h2]; exact h)
end
theorem enc_filter {k : Nat} (hk : k < 256) : ∀ {t : Tr}, t.Ok → (t.enc k).filter (fun c => decide (256 ≤ c)) = t.lv
  | .lf n, h => by
    have h' : 256 ≤ n := h
    simp [Tr.enc, Tr.lv, h']
  | .nd a b, h => by
    have h' : ¬ 256 ≤ k := by lia
    simp only [Tr.enc, Tr.lv, List.filter_cons, List.filter_append, enc_filter hk h.1, enc_filter hk h.2]
    simp [h']
theorem map_flat (l : List Nat) : (l.map fun c => [cod c]).flatten = l.map cod := by
  induction l with
  | nil => rfl
  | cons a l ih => rw [List.map_cons, List.flatten_cons, ih]; rfl

end
section
theorem Fr.anon {h₀ h : Heap} {L : Addr} {m : Str → Option Value} (F : Fr h₀ L h m) : ∃ u, Fr h₀ L h u := ⟨m, F⟩
theorem Fr.one {h₀ h : Heap} {L : Addr} {m : Str → Option Value} {y : Str} {v : Value} (F : Fr h₀ L h m) (e : m y = some v) : ∃ u, Fr h₀ L h (kstB u [(y, v)]) := ⟨m, by rw [kstB_id (by simpa using e)]; exact F⟩
theorem pick_pos {ns : List Int} (h : ∀ z ∈ ns, 0 ≤ z) (lo hi st : Option Int) : 0 ≤ (pickNums ns lo hi st).sum := by
  have h2 : ∀ z ∈ pickNums ns lo hi st, 0 ≤ z := fun z hz => by
    obtain ⟨i, _, hi⟩ := List.mem_filterMap.mp hz
    exact h z (List.mem_of_getElem? hi)
  revert h2
  generalize pickNums ns lo hi st = l
  induction l with
  | nil => intro _; exact Int.le_refl _
  | cons a l ih =>
    intro h2
    rw [List.sum_cons]
    have h3 := h2 a List.mem_cons_self
    have h4 := ih fun z hz => h2 z (List.mem_cons_of_mem _ hz)
    lia
theorem ints_snoc {vs : List Value} {ns : List Int} (h : IntsAre vs ns) (n : Int) (t : Tok) : IntsAre (vs ++ [.int n t]) (ns ++ [n]) := h.append (.cons n t .nil)
theorem two_inj {a b c d : Value} (h : #[a, b] = #[c, d]) : a = c ∧ b = d := by
  have h2 := congrArg Array.toList h
  injection h2 with h2 h3
  injection h3 with h3 _
  exact ⟨h2, h3⟩
section
open PySem.Calls
variable {prog : Program} {w : World} {A : Around} {E : Value → Shared → Prop} {sH : Heap} {sG : Array GenState} {sD : Drawn} {sT : Nat} {sO : OsState} {h₀ : Heap} {L : Addr} {m : Str → Option Value} {news : Led} {Q : Value → Shared → Prop}
theorem cut3_L {value slice : Expr} {ops : List Value} {a : Addr} {k : Nat} {vs : List Value} {cs : List Int} {i : Int} {t u : Tok} (F : Fr h₀ L sH m) (N : News h₀ L sH news) (hm : (a, ls k vs) ∈ news) (hI : IntsAre vs cs) (h0 : ∀ z ∈ cs, 0 ≤ z) (hz : vs.length ≤ 1000)
    (h : ∀ D ws ns h', Fr h₀ L h' m → News h₀ L h' ((D, ls 0 ws) :: news) → (∀ p ∈ news, p.1 < D) → IntsAre ws ns → 0 ≤ ns.sum → Q (.ref D) (Shared.mk h' sG sD sT sO))
    (hs : subscripted slice false (.ref a) (.ref sH.objs.size) = operate ops (getItem (.ref a) (.ref sH.objs.size))) (ht : ∀ r, letTemporaryGo value (.ref a) r = pure ()) :
    wpAny (model prog w) A (subscriptTail value slice (.ref a) (.ref sH.objs.size)) Q E (Shared.mk (sH.push { cls := .type "slice", data := .fields #[.int i t, .none, .int 6 u] }) sG sD sT sO) := by
  refine slice_list3 (s := ⟨sH, sG, sD, sT, sO⟩) F N (News.isList N hm) (.int _ _) .none (.int _ _) (by decide) (fun h' F' N' => h _ (slicePick vs.toArray (some i) none (some 6)).toList _ h' F' (by simpa using N') (fun p hp => Nat.lt_succ_of_lt (Heap.lt_size (N p hp).1)) (hI.pick _ _ _) (pick_pos h0 _ _ _)) hs ht ?_
  rw [sizeLine_eq]; simp; lia
end
theorem isn_pos {z : Int} (h : 0 ≤ z) {t : Tok} : IsN ((z.toNat : Nat) : Int) (.int z t) := ⟨t, by rw [Int.toNat_of_nonneg h]⟩
theorem cell_ne {h₀ h : Heap} {L a b : Addr} {o1 o2 : Obj} {fs : Array Value} {v : Option Value} (h1 : h.get? a = some o1 ∧ a ≠ L ∧ h₀.get? a = none) (h2 : h.get? b = some o2 ∧ b ≠ L ∧ h₀.get? b = none) (d1 : o1.data = .fields fs) (d2 : o2.data = .cell v) : a ≠ b := by
  rintro rfl
  rw [h1.1] at h2
  rw [Option.some.inj h2.1, d2] at d1
  cases d1
theorem ints_at {vs : List Value} {ns : List Int} (h : IntsAre vs ns) {i : Nat} {v : Value} (hv : vs[i]? = some v) : ∃ (n : Int) (t : Tok), v = .int n t := by
  obtain ⟨n, t, e, _⟩ := h.at i v hv
  exact ⟨n, t, e⟩
set_option maxRecDepth 100000 in
set_option maxHeartbeats 8000000 in
theorem law_T : PySem.Challenge.rw_ti0018_01.Holds := hd (by rfl) (by rfl) (by rfl) (by
  k_with_none
  k_with "my k_in" => first | with_reducible assumption | exact Frag.In.keeps (by with_reducible assumption) (Fr.keep (by with_reducible assumption))
  k_with "my k_ne" => (refine neN ?_; (try dsimp only); first | with_reducible assumption | (refine Ne.symm ?_; with_reducible assumption) | lia)
  k_with "my ROOM" => ((try dsimp only [Around.deeper, Around.mark, Around.in1]); first | exact room3 (by assumption) rfl | exact room2 (by assumption) rfl | lia)
  k_with "my ite" => first | (refine ite_pos (by with_reducible assumption) ?_) | (refine ite_neg (by with_reducible assumption) ?_) | (refine ite_pos (decide_eq_true (by with_reducible assumption)) ?_) | (refine ite_neg (Bool.eq_false_iff.mp (decide_eq_false (by with_reducible assumption))) ?_)
  k_with "my exec While" => (try k_fold); refine Stop.mk ?_
  k_with "my subscriptTail Name Name str int" => (refine sub_str (by assumption) (by assumption) ?_)
  k_with "my call builtin:ord" => (refine ord_S ?_)
  k_with "my binaryOp Add int int" => with_reducible first | (refine' add_lit 1 (by decide) ?_) | (refine' add_lit 2 (by decide) ?_) | refine add_nat ?_
  k_with "my binaryOp Sub int int" => with_reducible first | (refine' sub_lit 1 (by decide) (by first | with_reducible_and_instances lia | decide) ?_) | (refine' sub_lit 256 (by decide) (by first | with_reducible_and_instances lia | decide) ?_) | (refine' sub_lit 300 (by decide) (by first | with_reducible_and_instances lia | decide) ?_) | (refine' sub_nat (by first | with_reducible_and_instances lia | decide) ?_)
  k_with "my binaryOp Mod int int" => with_reducible first | (refine' mod_lit 3 (by decide) (by first | with_reducible_and_instances lia | decide) ?_) | (refine' mod_lit 2 (by decide) (by first | with_reducible_and_instances lia | decide) ?_) | (refine' mod_nat (by first | with_reducible_and_instances lia | decide) ?_)
  k_with "my binaryOp FloorDiv int int" => with_reducible first | (refine' div_lit 3 (by decide) (by first | with_reducible_and_instances lia | decide) (by decide) ?_) | (refine' div_lit 2 (by decide) (by first | with_reducible_and_instances lia | decide) (by decide) ?_) | fail
  k_with "my call builtin:len" => ((k_dflt (refine' len_L (by k_asm) (by k_mem) ?_ ?_)); (next => with_reducible_and_instances lia))
  k_with "my subscriptTail" => ((k_dflt (refine' item_L (by k_asm) (by k_mem) (by with_reducible assumption) ?_ ?_; k_whole)); (next => with_reducible_and_instances lia))
  k_with "my subscriptTail" => ((k_dflt (refine' item_C 0 (by exact rfl) (by k_asm) (by k_mem) (by with_reducible assumption) ?_ ?_; k_whole)); (next => decide))
  k_with "my subscriptTail Name Name ref int" => ((k_dflt (refine' item_L (by k_asm) (by k_mem) (by with_reducible assumption) ?_ ?_; k_whole)); (next => with_reducible_and_instances lia))
  k_with "my binaryOp Add ref ref" => (((k_dflt (refine' sum_L (by k_asm) (by k_asm) (by k_mem) (by k_mem) ?_ ?_)); (next => ((try rw [sizeLine_eq]); (try simp only [List.length_append, List.length_take, List.length_drop, List.length_cons, List.length_nil]); with_reducible_and_instances lia)); intro Dpzz hpzz Fpzz Npzz l1zz; (try k_lt l1zz))); (try revert l1zz); (try revert Npzz); (try revert Fpzz); (try revert hpzz); (try revert Dpzz); intros
  k_with "my subscriptTail Name Slice ref ref" => (((k_dflt (refine' cut_L _ (by k_asm) (by k_asm) (by k_mem) (by kmk_part) (by kmk_part) (by first | exact pick_from _ _ | exact pick_upto _ _) ?_ ?_ (by with_unfolding_all rfl) (by kmk_pure))); (next => ((try rw [sizeLine_eq]); with_reducible_and_instances lia)); intro Dpzz hpzz Fpzz Npzz l1zz; (try k_lt l1zz))); (try revert l1zz); (try revert Npzz); (try revert Fpzz); (try revert hpzz); (try revert Dpzz); intros
  k_with "my binaryOp Add str str" => (with_reducible first | ((refine' add_S ?_ ?_); (next => ((try rw [sizeLine_eq]); (try simp only [List.length_append, List.length_cons, List.length_nil]); with_reducible_and_instances lia)); intro tpzz tkpzz) | ((refine' add_CS [64] (by with_unfolding_all exact rfl) ?_ ?_); (next => ((try rw [sizeLine_eq]); (try simp only [List.length_append, List.length_cons, List.length_nil]); with_reducible_and_instances lia)); intro tpzz tkpzz) | ((refine' add_CS [34] (by with_unfolding_all exact rfl) ?_ ?_); (next => ((try rw [sizeLine_eq]); (try simp only [List.length_append, List.length_cons, List.length_nil]); with_reducible_and_instances lia)); intro tpzz tkpzz) | ((refine' add_CS [92] (by with_unfolding_all exact rfl) ?_ ?_); (next => ((try rw [sizeLine_eq]); (try simp only [List.length_append, List.length_cons, List.length_nil]); with_reducible_and_instances lia)); intro tpzz tkpzz) | ((refine' add_SC [34] (by with_unfolding_all exact rfl) ?_ ?_); (next => ((try rw [sizeLine_eq]); (try simp only [List.length_append, List.length_cons, List.length_nil]); with_reducible_and_instances lia)); intro tpzz tkpzz) | ((refine' add_SC [10] (by with_unfolding_all exact rfl) ?_ ?_); (next => ((try rw [sizeLine_eq]); (try simp only [List.length_append, List.length_cons, List.length_nil]); with_reducible_and_instances lia)); intro tpzz tkpzz)); (try revert tkpzz); (try revert tpzz); (try revert tkpzz); (try revert tpzz); (try revert tkpzz); (try revert tpzz); (try revert tkpzz); (try revert tpzz); (try revert tkpzz); (try revert tpzz); (try revert tkpzz); (try revert tpzz); intros
  k_with "my exec For" => (try k_fold); (k_dflt (refine For_k (F := by k_asm) ?_))
  k_with "my inplaceOp Add" => ((dsimp only; (with_reducible refine' iadd_S ?_ ?_); (next => ((try rw [sizeLine_eq]); (try simp only [List.length_append, List.length_cons, List.length_nil]); with_reducible_and_instances lia)); intro tpzz tkpzz)); (try revert tkpzz); (try revert tpzz); intros
  k_with "my exec Assign cons ListComp" => (try k_fold); (k_dflt (refine Assign_Lc_k (_F₀ := by k_asm) (by rfl) (by with_unfolding_all rfl) (by with_unfolding_all rfl) (by decide) (by rfl) (by decide) (by rfl) (by rfl) ?_))
  k_with "my eval ListComp" => (try k_fold); (k_dflt (refine Lc_k (_F₀ := by k_asm) (by with_unfolding_all rfl) (by decide) (by rfl) (by decide) ?_))
  k_with "my k_all" => with_reducible assumption
  k_with "my exec Assign cons ListComp" => (try k_fold); (k_dflt (refine Assign_Lc_k (_F₀ := by k_asm) (by rfl) (by with_unfolding_all rfl) (by with_unfolding_all rfl) (by decide) (by rfl) (by decide) (by rfl) (by rfl) ?_))
  k_with "my exec Assign cons ListComp" => (refine wpAny_Assign_Name (hs := by with_unfolding_all rfl) ?_)
  k_with "my call ref" => (try k_fold); refine Stop.mk ?_
  k_with "my pyIter ref" => refine Stop.mk ?_
  k_with "my call type:enumerate" => refine Stop.mk ?_
  k_with "my loadName" => (k_dflt (refine' loadX_C (by k_asm) (by rfl) (by k_mem) (by k_asm) ?_ (by rfl) (by rfl); k_whole))
  k_with "my call type:list" => (((k_dflt (refine' list_S rfl (by k_asm) (by k_asm) ?_ ?_)); (next => lia); intro Dpzz kpzz yspzz hpzz tkpzz Fpzz Npzz l1zz hppzz hlpzz; (try k_lt l1zz))); (try revert l1zz); (try revert hlpzz); (try revert hppzz); (try revert Npzz); (try revert Fpzz); (try revert tkpzz); (try revert hpzz); (try revert yspzz); (try revert kpzz); (try revert Dpzz); intros
  k_with "my call builtin:str.count" => (refine' count_S (c := 10) (by rfl) ?_)
  k_with "my call builtin:dict.get" => (k_dflt (refine' tokGet (by k_asm) (by k_asm) (by k_is) ?_))
  k_with "my getMethod ref" => (k_dflt (refine' tokGetM (by k_asm) (by k_asm) ?_))
  k_with "my compareOp NotEq ref ref" => (k_dflt (refine' ne_txts (by k_asm) (by k_mem) (by k_mem) (by with_reducible assumption) (by with_reducible assumption) (by with_reducible assumption) (by ((try dsimp only [Around.deeper]); decide)) ?_))
  k_with "my call builtin:list.count" => (k_dflt (refine' lcount2_S (by k_asm) (by k_mem) (by with_reducible assumption) (by with_reducible assumption) ?_))
  k_with "my compareOp Eq ref ref" => refine Stop.mk ?_
  k_with "my call builtin:str.join" => refine Stop.mk ?_
  k_with "my call builtin:chr" => (refine' chr_S (by with_reducible assumption) ?_)
  k_with "my pyIter str" => refine Stop.mk ?_
  k_with "my ROOM" => decide
  k_with "my GrownAll" => first | (rename GrownAt _ _ => hga; refine Stop.mk ?_) | (k_dflt (refine And.intro (GrownAt.of (by k_asm) (by k_mem)) True.intro))
  k_with "my subscriptTail Name Slice ref ref" => (((k_dflt (refine' cut3_L (by k_asm) (by k_asm) (by k_mem) (by with_reducible assumption) (by with_reducible assumption) (by with_reducible assumption) ?_ (by with_unfolding_all rfl) (by kmk_pure))); intro Dpzz wspzz nspzz hpzz Fpzz Npzz l1zz i9zz p9zz; (try k_lt l1zz))); (try revert l1zz); (try revert p9zz); (try revert i9zz); (try revert Npzz); (try revert Fpzz); (try revert hpzz); (try revert nspzz); (try revert wspzz); (try revert Dpzz); intros
  k_go0
  (all_goals try k_fold)
  rename World => w
  rename Shared => s1
  rename Fr _ _ _ _ => F9
  rename News _ _ _ _ => N9
  rename_i tk1 oC1 oC2 oC3 hc1 hc2 hc3 X0 X9 T9 K9 l0
  clear X0
  rename Heap.IsList _ _ _ => hSL
  obtain ⟨u0, F0⟩ := Fr.one (y := Str.ofString "script") F9 rfl
  clear F9
  obtain ⟨vc1, hc1'⟩ : ∃ v, oC1.data = .cell v := ⟨_, hc1⟩
  obtain ⟨vc2, hc2'⟩ : ∃ v, oC2.data = .cell v := ⟨_, hc2⟩
  obtain ⟨vc3, hc3'⟩ : ∃ v, oC3.data = .cell v := ⟨_, hc3⟩
  clear hc1 hc2 hc3
  k_steps
  refine Stop.go ?_
  rename Fr _ _ _ _ => F9
  rename News _ _ _ _ => N9
  rename_i Dn ws zh1 hIw hCw hLw l1
  have hwl : ws.length ≤ 12 := by
    have := hIw.length
    lia
  (try k_fold)
  refine comp_list (fun i ys nx => nx = [(Dn, ls 0 ws), (_, oC1), (_, oC2), (_, oC3), (159, tabObj #[])] ∧ ys.length = i ∧ ∃ cs : List Int, IntsAre ys cs ∧ ∀ z ∈ cs, 0 ≤ z) rfl rfl rfl F9 N9 List.mem_cons_self ?hsz ⟨rfl, rfl, [], .nil, nofun⟩ ?turn ?done
  case hsz => rw [sizeLine_eq]; lia
  case turn =>
    intro g0 I0
    refine cturn_name ?_
    rintro i v ys nx C oC D M h2 tk2 own E' hi hv hJ0 hyl hC hM hw hof ho hCD F5 N5
    intro Qe
    (try k_fold)
    obtain ⟨rfl, hyl9, cs, hcs, hc0⟩ := hJ0
    clear F9 N9
    obtain ⟨z, t, rfl⟩ := ints_at hIw hv
    k_steps
    (try dsimp only)
    refine cend ([(Dn, ls 0 ws), (_, oC1), (_, oC2), (_, oC3), (159, tabObj #[])]) (by k_asm) (by k_asm) (by (repeat (first | assumption | exact List.mem_cons_self | apply List.mem_cons_of_mem))) (by (repeat (first | assumption | exact List.mem_cons_self | apply List.mem_cons_of_mem))) (by (intro p9 hp9; repeat (first | exact hp9 | exact List.mem_append_left _ hp9 | exact List.mem_append_right _ hp9 | apply List.mem_cons_of_mem))) (by (intro p9 hp9; repeat (first | exact hp9 | exact List.mem_append_left _ hp9 | exact List.mem_append_right _ hp9 | apply List.mem_cons_of_mem))) ?_ ?_
    · exact ho
    · refine ⟨rfl, ?_, _, ints_snoc hcs _ _, ?_⟩
      · rw [List.length_append, hyl9]; rfl
      · refine List.forall_mem_append.mpr ⟨hc0, List.forall_mem_cons.mpr ⟨Int.fmod_nonneg_of_pos _ (by decide), nofun⟩⟩
  case done =>
    rintro g0 tk0 ys nx hZ0 D h2 tk2 - F5 N5 hD
    obtain ⟨rfl, hyl9, cs, hcs, hc0⟩ := hZ0
    clear F9 N9
    refine allE5 hD ?_
    clear hD
    intro d1 d2 d3 d4 d5
    (try dsimp only at d1 d2 d3 d4 d5)
    have hyl12 : ys.length ≤ 1000 := by lia
    k_steps
    refine Stop.go ?_
    rename Fr _ _ _ _ => F9
    rename News _ _ _ _ => N9
    rename_i zh2 oC4 hC4 lsix zh3 l6
    obtain ⟨six, N8, h6l, h6⟩ : ∃ six, News _ _ _ [(lsix, ls 0 six), (D, LCg.lst ys), (_, oC1), (_, oC2), (_, oC4), (159, tabObj #[])] ∧ six.length = 6 ∧ ∀ v ∈ six, ∃ n : Nat, IsN n v := by
      refine' ⟨[_, _, _, _, _, _], fun p hp => N9 p ?m9, rfl, ?g9⟩
      case m9 =>
        revert p hp
        (repeat' (first | exact List.forall_mem_nil _ | refine List.forall_mem_cons.mpr ⟨by (repeat (first | with_reducible assumption | exact List.mem_cons_self | apply List.mem_cons_of_mem)), ?_⟩))
        (try (intro p9 hp9; repeat (first | exact hp9 | exact List.mem_append_left _ hp9 | exact List.mem_append_right _ hp9 | apply List.mem_cons_of_mem)))
      case g9 => exact List.forall_mem_cons.mpr ⟨⟨3, _, rfl⟩, List.forall_mem_cons.mpr ⟨⟨1, _, rfl⟩, List.forall_mem_cons.mpr ⟨⟨4, _, rfl⟩, List.forall_mem_cons.mpr ⟨⟨2, _, rfl⟩, List.forall_mem_cons.mpr ⟨⟨4, _, rfl⟩, List.forall_mem_cons.mpr ⟨⟨3, _, rfl⟩, nofun⟩⟩⟩⟩⟩⟩
    clear N9
    (try k_fold)
    refine comp_enum (fun i ys2 nx => nx = [(lsix, ls 0 six), (D, LCg.lst ys), (_, oC1), (_, oC2), (_, oC4), (159, tabObj #[])] ∧ ys2.length = i ∧ ∃ cs : List Nat, Paired (fun (c : Nat) v => IsN c v) cs ys2) rfl rfl rfl rfl F9 N8 List.mem_cons_self ?hsz ⟨rfl, rfl, [], .nil⟩ ?turn ?done
    case hsz => rw [sizeLine_eq]; lia
    case turn =>
      intro g0 I0
      refine' cturn_pair (Pt := fun i vals => ∃ t x, six[i]? = some x ∧ vals = #[.int (i : Int) t, x]) ?hxy ?_
      case hxy => decide
      rintro i v v' ys2 nx C oC D2 M h2 tk2 own E' hi hJ0 hJ1 hyl hC hM hM2 hw hof ho hCD F5 N5
      intro Qe
      (try k_fold)
      obtain ⟨t, x, hv, hvv⟩ := hJ0
      obtain ⟨rfl, hyl2, ns, hns⟩ := hJ1
      clear F9 N8
      obtain ⟨n, tx, hx⟩ := h6 x (List.mem_of_getElem? hv)
      obtain ⟨e1, e2⟩ := two_inj hvv
      rw [hx] at e2
      subst e1 e2
      k_steps
      (try dsimp only)
      refine cend ([(lsix, ls 0 six), (D, LCg.lst ys), (_, oC1), (_, oC2), (_, oC4), (159, tabObj #[])]) (by k_asm) (by k_asm) (by (repeat (first | assumption | exact List.mem_cons_self | apply List.mem_cons_of_mem))) (by (repeat (first | assumption | exact List.mem_cons_self | apply List.mem_cons_of_mem))) (by (intro p9 hp9; repeat (first | exact hp9 | exact List.mem_append_left _ hp9 | exact List.mem_append_right _ hp9 | apply List.mem_cons_of_mem))) (by (intro p9 hp9; repeat (first | exact hp9 | exact List.mem_append_left _ hp9 | exact List.mem_append_right _ hp9 | apply List.mem_cons_of_mem))) ?_ ?_
      · exact ho
      · refine ⟨rfl, ?_, _, pd_append hns (.cons (isn_pos ?_) .nil)⟩
        · rw [List.length_append, hyl2]; rfl
        · lia
    case done =>
      rintro g0 tk0 ys2 nx hZ0 D2 h2 tk2 - F5 N5 hD2
      obtain ⟨rfl, hyl2, ns, hns⟩ := hZ0
      clear F9 N8
      refine allE6 hD2 ?_
      clear hD2
      intro e1 e2 e3 e4 e5 e6
      (try dsimp only at e1 e2 e3 e4 e5 e6)
      k_steps
      refine Stop.go ?_
      have N6 : News _ _ h2 [(D2, LCg.lst ys2), (_, oC1), (_, oC2), (159, tabObj #[])] := fun p hp => N5 p (by
        revert p hp
        (repeat' (first | exact List.forall_mem_nil _ | refine List.forall_mem_cons.mpr ⟨by (repeat (first | with_reducible assumption | with_reducible exact List.mem_cons_self | apply List.mem_cons_of_mem)), ?_⟩))
        (try (intro p9 hp9; repeat (first | exact hp9 | exact List.mem_append_left _ hp9 | exact List.mem_append_right _ hp9 | apply List.mem_cons_of_mem))))
      clear N5
      refine Does.useG (term_ w D2 ys2 ns hns (by rw [hyl2, h6l]) 0 _) (by k_asm) (by k_asm) (by k_asm) N6 (by k_asm) rfl rfl (by walk_at "ROOM") (by walk_at "ROOM") ?_
      rintro M0 tM hM0 h9 k9 F8 N7 -
      clear N6 F5
      have hM6 : M0.lv.length = 6 := by rw [hM0, List.length_map, hns.length, hyl2, h6l]
      have hm11 : (M0.enc 64).length = 11 := by
        have := Tr.enc_len 64 M0
        lia
      have hMq : ∀ c ∈ M0.lv, c = 34 ∨ c = 92 ∨ c = 32 := by
        rw [hM0]
        intro c hc
        obtain ⟨n, _, rfl⟩ := List.mem_map.mp hc
        exact quotes_is n
      have hMs : ∀ c ∈ M0.enc 64, c = 64 ∨ c = 34 ∨ c = 92 ∨ c = 32 := fun c hc => (mem_encP hc).imp id (hMq c)
      have hMt : ∀ c ∈ M0.enc 64, c < 1000 := fun c hc => by have := hMs c hc; lia
      k_steps
      refine Stop.go ?_
      rename News _ _ _ _ => N6
      refine Does.useG (written_ w D2 ys2 ns hns (by rw [hyl2, h6l]) (M0.enc 64) ?hz9 _ _) (by k_asm) (by k_asm) (by k_asm) N6 (by k_asm) rfl rfl (by walk_at "ROOM") (by walk_at "ROOM") ?_
      case hz9 => rw [hm11]; decide
      rintro cs tX hcsM h9 k9 F9 N7 -
      clear N6
      have hcl : cs.length = 11 := by rw [← hm11, ← hcsM, List.length_map]
      have g64 : ∀ p ∈ cs, p.2 ≠ 10 := fun p hp => by
        have := hMs p.2 (by rw [← hcsM]; exact List.mem_map_of_mem hp)
        lia
      k_steps
      refine Stop.go ?_
      rename News _ _ _ _ => N6
      have N5 : News _ _ _ ((159, tabObj #[]) :: [(D2, LCg.lst ys2), (_, oC1), (_, oC2)]) := fun p hp => N6 p (by
        revert p hp
        (repeat' (first | exact List.forall_mem_nil _ | refine List.forall_mem_cons.mpr ⟨by (repeat (first | with_reducible assumption | with_reducible exact List.mem_cons_self | apply List.mem_cons_of_mem)), ?_⟩))
        (try (intro p9 hp9; repeat (first | exact hp9 | exact List.mem_append_left _ hp9 | exact List.mem_append_right _ hp9 | apply List.mem_cons_of_mem))))
      clear N6
      refine Does.useG (lexer_ w (cs.flatMap chunk) ?hz9 _ _ ?h59) (by k_asm) (by k_asm) (by k_asm) N5 (by k_asm) rfl rfl (by walk_at "ROOM") (by walk_at "ROOM") ?_
      case hz9 =>
        have := text_len cs
        lia
      case h59 =>
        refine List.forall_mem_cons.mpr ⟨neN ?_, List.forall_mem_cons.mpr ⟨neN ?_, List.forall_mem_cons.mpr ⟨neN ?_, List.forall_mem_nil _⟩⟩⟩ <;> (try dsimp only) <;> lia
      rintro q tn sv hq hqn hsv hlt h159 h9 k9 F9 N9 -
      clear N5
      refine allE3 hlt ?_
      clear hlt
      intro f1 f2 f3
      (try dsimp only at f1 f2 f3)
      refine andE8 (hq.abv f3) ?_
      intro x1 x2 x3 x4 x5 x6 x7 x8
      have fc : @Ne Nat q.c _ := cell_ne (N9 (q.c, q.oc) (by repeat (first | with_reducible exact List.mem_cons_self | apply List.mem_cons_of_mem))) (N9 (_, oC2) (by repeat (first | with_reducible exact List.mem_cons_self | apply List.mem_cons_of_mem))) hq.f hc2'
      have fc1 : @Ne Nat q.c _ := cell_ne (N9 (q.c, q.oc) (by repeat (first | with_reducible exact List.mem_cons_self | apply List.mem_cons_of_mem))) (N9 (_, oC1) (by repeat (first | with_reducible exact List.mem_cons_self | apply List.mem_cons_of_mem))) hq.f hc1'
      (try dsimp only at fc fc1)
      k_steps
      refine Stop.go ?_
      rename Fr _ _ _ _ => F4
      rename News _ _ _ _ => N4
      rename_i zh5 oC5 hC5
      have fsg : ∀ p ∈ ([(159, tabT q.c), (D2, LCg.lst ys2), (s1.heap.objs.size + 1 + 1 + 1, oC1), (s1.heap.objs.size + 1 + 1, oC5)] : Led), @LT.lt Nat _ p.1 q.cell :=
        List.forall_mem_cons.mpr ⟨h159, List.forall_mem_cons.mpr ⟨f1, List.forall_mem_cons.mpr ⟨f2, List.forall_mem_cons.mpr ⟨f3, List.forall_mem_nil _⟩⟩⟩⟩
      have hoff := off_below hq fsg
      (try k_fold)
      refine comp_text (fun i ys nx => ∃ (n : Int) (tn : Tok) (sk : Nat) (sv : List Value), nx = lexL w q 0 [] n tn sk sv [(159, tabT q.c), (D2, LCg.lst ys2), (s1.heap.objs.size + 1 + 1 + 1, oC1), (s1.heap.objs.size + 1 + 1, oC5)] ∧ n = 1 + ((nls (cs.take i) : Nat) : Int) ∧ Paired (fun (c : Nat) v => IsT [c] v) ((cs.drop i).flatMap chunk).reverse sv ∧ Paired (fun (c : Nat) v => IsT [c] v) ((cs.take i).map Prod.snd) ys)
        rfl rfl rfl F4 N4 ?hsz ⟨1, tn, 0, sv, rfl, rfl, hsv, .nil⟩ ?turn ?done
      case hsz => rw [sizeLine_eq]; lia
      case turn =>
        intro g0 I0
        refine cturn_text ?_
        rintro i sg u2 ys3 nx C oC D3 M h2 tk2 own E' hi hsg hJ0 hyl hC hM hw hof ho hCD F5 N5
        intro Qe
        (try k_fold)
        obtain ⟨n3, tn3, sk3, sv3, rfl, hn3, hsv3, hys3⟩ := hJ0
        clear F4 N4
        have hic : i < cs.length := by lia
        obtain ⟨⟨b9, c9⟩, hp9⟩ : ∃ p, cs[i]? = some p := ⟨_, List.getElem?_eq_getElem hic⟩
        have ed : cs.drop i = (b9, c9) :: cs.drop (i + 1) := by
          obtain ⟨h1, e1⟩ := List.getElem?_eq_some_iff.mp hp9
          rw [List.drop_eq_getElem_cons h1, e1]
        have et : cs.take (i + 1) = cs.take i ++ [(b9, c9)] := by rw [List.take_add_one, hp9]; rfl
        have hz3 : sv3.length ≤ 900 := by
          have h1 := hsv3.length
          have h2 := text_len (cs.drop i)
          rw [List.length_reverse] at h1
          rw [List.length_drop] at h2
          lia
        rw [ed, List.flatMap_cons, List.reverse_append] at hsv3
        have ho' := ho
        simp only [List.forall_mem_cons, List.mem_singleton] at ho'
        obtain ⟨o1, o2, o3, o4, o5, o6, o7, -⟩ := ho'
        have hoff' := off_turn (oC := oC) (oD := LCg.lst ys3) hoff o1 o7 o5 hof
        k_steps
        refine Stop.go ?_
        rename News _ _ _ _ => N6
        simp only [lexL, List.cons_append, List.nil_append] at N6
        have N7 : News _ _ h2 (lexL w q 0 [] n3 tn3 sk3 sv3 ((C, oC) :: (D3, LCg.lst ys3) :: ([(159, tabT q.c), (D2, LCg.lst ys2), (s1.heap.objs.size + 1 + 1 + 1, oC1), (s1.heap.objs.size + 1 + 1, oC5)] ++ own))) := fun p hp => N6 p (by
          revert p hp
          (repeat' (first | exact List.forall_mem_nil _ | refine List.forall_mem_cons.mpr ⟨by (repeat (first | with_reducible assumption | with_reducible exact List.mem_cons_self | apply List.mem_cons_of_mem)), ?_⟩))
          (try (intro p9 hp9; repeat (first | exact hp9 | exact List.mem_append_left _ hp9 | exact List.mem_append_right _ hp9 | apply List.mem_cons_of_mem))))
        clear N6
        refine Does.useG (get_any w q hq hoff' (g64 _ (List.mem_of_getElem? hp9)) hsv3 hz3) (by k_asm) (by k_asm) (by k_asm) N7 (by k_asm) rfl rfl (by walk_at "ROOM") (by walk_at "ROOM") ?_
        rintro t9 tn9 sk9 sv9 hsv9 h9 k9 F8 N8 -
        clear N7
        simp only [List.cons_append, List.nil_append] at N8
        refine cend (lexL w q 0 [] (if b9 = true then n3 else n3 + 1) tn9 sk9 sv9 [(159, tabT q.c), (D2, LCg.lst ys2), (s1.heap.objs.size + 1 + 1 + 1, oC1), (s1.heap.objs.size + 1 + 1, oC5)]) F8 N8 ?m1 ?m2 ?s1 ?s2 ?o ?j
        case m1 =>
          (repeat (first | with_reducible assumption | with_reducible exact List.mem_cons_self | apply List.mem_cons_of_mem))
        case m2 =>
          (repeat (first | with_reducible assumption | with_reducible exact List.mem_cons_self | apply List.mem_cons_of_mem))
        case s1 => exact fun p hp => (by
          (repeat (first | with_reducible assumption | with_reducible exact List.mem_cons_self | apply List.mem_cons_of_mem)))
        case s2 =>
          (repeat' (first | exact List.forall_mem_nil _ | refine List.forall_mem_cons.mpr ⟨by (repeat (first | with_reducible assumption | with_reducible exact List.mem_cons_self | apply List.mem_cons_of_mem)), ?_⟩))
          (try (intro p9 hp9; repeat (first | exact hp9 | exact List.mem_append_left _ hp9 | exact List.mem_append_right _ hp9 | apply List.mem_cons_of_mem)))
        case o => exact lex_addr (P := fun a => a ≠ C ∧ a ≠ D3 ∧ a ∉ [I0]) ho
        case j =>
          refine ⟨_, tn9, sk9, sv9, rfl, ?_, hsv9, ?_⟩
          · rw [et, nls_snoc, hn3]
            cases b9 <;> simp <;> lia
          · rw [et, List.map_append]
            exact pd_append hys3 (.cons ⟨t9, rfl⟩ .nil)
      case done =>
        rintro g0 tk0 ys3 nx hZ0 D3 h2 tk2 - F5 N5 hD3
        obtain ⟨n3, tn3, sk3, sv3, rfl, hn3, hsv3, hys3⟩ := hZ0
        clear F4 N4
        rw [List.take_of_length_le (by lia)] at hn3 hys3
        rw [List.drop_eq_nil_of_le (by lia)] at hsv3
        rw [hcsM] at hys3
        cases hsv3
        have hn4 : n3 = 1 + (((cs.flatMap chunk).count 10 : Nat) : Int) := by rw [hn3, nls_text cs g64]
        subst hn4
        clear hn3
        k_steps
        refine Stop.go ?_
        rename News _ _ _ _ => N9
        rename_i D4 k4 ys4 zh6 tk6 F4 hys4 hy4l l4
        have N8 : News _ _ zh6 (lexL w q 0 [] (1 + (((cs.flatMap chunk).count 10 : Nat) : Int)) tn3 sk3 [] ((D4, ls k4 ys4) :: (D3, LCg.lst ys3) :: [(159, tabT q.c), (D2, LCg.lst ys2), (s1.heap.objs.size + 1 + 1 + 1, oC1), (s1.heap.objs.size + 1 + 1, oC5)])) := fun p hp => N9 p (by
          revert p hp
          (repeat' (first | exact List.forall_mem_nil _ | refine List.forall_mem_cons.mpr ⟨by (repeat (first | with_reducible assumption | with_reducible exact List.mem_cons_self | apply List.mem_cons_of_mem)), ?_⟩))
          (try (intro p9 hp9; repeat (first | exact hp9 | exact List.mem_append_left _ hp9 | exact List.mem_append_right _ hp9 | apply List.mem_cons_of_mem))))
        clear N9
        have hoff5 : q.Off ((D4, ls k4 ys4) :: (D3, LCg.lst ys3) :: [(159, tabT q.c), (D2, LCg.lst ys2), (s1.heap.objs.size + 1 + 1 + 1, oC1), (s1.heap.objs.size + 1 + 1, oC5)]) := by
          refine allE7 hD3 ?_
          clear hD3
          intro m1 m2 m3 m4 m5 m6 m7
          (try dsimp only at m1 m2 m3 m4 m5 m6 m7)
          exact ⟨List.forall_mem_cons.mpr ⟨Nat.ne_of_gt l4.2.1, List.forall_mem_cons.mpr ⟨Ne.symm m1, hoff.a⟩⟩, List.forall_mem_cons.mpr ⟨Nat.ne_of_gt l4.2.2.2.2.2.2.2.1, List.forall_mem_cons.mpr ⟨Ne.symm m7, hoff.b⟩⟩, List.forall_mem_cons.mpr ⟨Nat.ne_of_gt l4.2.2.2.2.2.1, List.forall_mem_cons.mpr ⟨Ne.symm m5, hoff.c⟩⟩⟩
        refine Does.useG (get_nil w q hq hoff5) (by k_asm) (by k_asm) (by k_asm) N8 (by k_asm) rfl rfl (by walk_at "ROOM") (by walk_at "ROOM") ?_
        rintro t9 h9 k9 F8 N9 -
        clear N8 F4
        have hne : ¬ (1 + (((cs.flatMap chunk).count 10 : Nat) : Int) ≠ 1 + Txt.count (S (cs.flatMap chunk)) (Str.ofString "\n")) := by
          rw [show Txt.count (S (cs.flatMap chunk)) (Str.ofString "\n") = (((cs.flatMap chunk).count 10 : Nat) : Int) from congrArg (fun n : Nat => (n : Int)) (occ_count (cs.flatMap chunk) 10)]
          exact fun h => h rfl
        k_steps
        refine Stop.go ?_
        have hys3l : ys3.length = 11 := by rw [← hys3.length, hm11]
        have N8 : News _ _ _ ((D3, LCg.lst ys3) :: [(159, tabT q.c), (q.c, q.oc), (s1.heap.objs.size + 1 + 1 + 1, oC1)]) := fun p hp => N9 p (by
          revert p hp
          (repeat' (first | exact List.forall_mem_nil _ | refine List.forall_mem_cons.mpr ⟨by (repeat (first | with_reducible assumption | with_reducible exact List.mem_cons_self | apply List.mem_cons_of_mem)), ?_⟩))
          (try (intro p9 hp9; repeat (first | exact hp9 | exact List.mem_append_left _ hp9 | exact List.mem_append_right _ hp9 | apply List.mem_cons_of_mem))))
        clear N9 hoff5 hne l4
        (try k_fold)
        refine comp_list (fun i ys nx => nx = (D3, LCg.lst ys3) :: [(159, tabT q.c), (q.c, q.oc), (s1.heap.objs.size + 1 + 1 + 1, oC1)] ∧ Paired (fun (c : Nat) v => IsN ((cod c : Nat) : Int) v) ((M0.enc 64).take i) ys) rfl rfl rfl F8 N8 List.mem_cons_self ?hsz ⟨rfl, .nil⟩ ?turn ?done
        case hsz => rw [sizeLine_eq]; lia
        case turn =>
          intro g0 I0
          refine cturn_name ?_
          rintro i v ys5 nx C oC D5 M h2 tk2 own E' hi hv hJ0 hyl hC hM hw hof ho hCD F5 N5
          intro Qe
          (try k_fold)
          obtain ⟨rfl, hys5⟩ := hJ0
          clear F8 N8
          obtain ⟨c5, hc5, t5, rfl⟩ := pd_get hys3 hv
          have htake : (M0.enc 64).take (i + 1) = (M0.enc 64).take i ++ [c5] := by rw [List.take_add_one, hc5]; rfl
          rcases hMs c5 (List.mem_of_getElem? hc5) with rfl | rfl | rfl | rfl
          · k_steps
            refine cend ((D3, LCg.lst ys3) :: [(159, tabT q.c), (q.c, q.oc), (s1.heap.objs.size + 1 + 1 + 1, oC1)]) F5 N5 List.mem_cons_self (List.mem_cons_of_mem _ List.mem_cons_self) (by (intro p9 hp9; repeat (first | exact hp9 | exact List.mem_append_left _ hp9 | exact List.mem_append_right _ hp9 | apply List.mem_cons_of_mem))) (by (intro p9 hp9; repeat (first | exact hp9 | exact List.mem_append_left _ hp9 | exact List.mem_append_right _ hp9 | apply List.mem_cons_of_mem))) ho ⟨rfl, ?_⟩
            rw [htake]
            exact pd_append hys5 (.cons ⟨_, rfl⟩ .nil)
          · k_steps
            refine cend ((D3, LCg.lst ys3) :: [(159, tabT q.c), (q.c, q.oc), (s1.heap.objs.size + 1 + 1 + 1, oC1)]) F5 N5 List.mem_cons_self (List.mem_cons_of_mem _ List.mem_cons_self) (by (intro p9 hp9; repeat (first | exact hp9 | exact List.mem_append_left _ hp9 | exact List.mem_append_right _ hp9 | apply List.mem_cons_of_mem))) (by (intro p9 hp9; repeat (first | exact hp9 | exact List.mem_append_left _ hp9 | exact List.mem_append_right _ hp9 | apply List.mem_cons_of_mem))) ho ⟨rfl, ?_⟩
            rw [htake]
            exact pd_append hys5 (.cons ⟨_, rfl⟩ .nil)
          · k_steps
            refine cend ((D3, LCg.lst ys3) :: [(159, tabT q.c), (q.c, q.oc), (s1.heap.objs.size + 1 + 1 + 1, oC1)]) F5 N5 List.mem_cons_self (List.mem_cons_of_mem _ List.mem_cons_self) (by (intro p9 hp9; repeat (first | exact hp9 | exact List.mem_append_left _ hp9 | exact List.mem_append_right _ hp9 | apply List.mem_cons_of_mem))) (by (intro p9 hp9; repeat (first | exact hp9 | exact List.mem_append_left _ hp9 | exact List.mem_append_right _ hp9 | apply List.mem_cons_of_mem))) ho ⟨rfl, ?_⟩
            rw [htake]
            exact pd_append hys5 (.cons ⟨_, rfl⟩ .nil)
          · k_steps
            refine cend ((D3, LCg.lst ys3) :: [(159, tabT q.c), (q.c, q.oc), (s1.heap.objs.size + 1 + 1 + 1, oC1)]) F5 N5 List.mem_cons_self (List.mem_cons_of_mem _ List.mem_cons_self) (by (intro p9 hp9; repeat (first | exact hp9 | exact List.mem_append_left _ hp9 | exact List.mem_append_right _ hp9 | apply List.mem_cons_of_mem))) (by (intro p9 hp9; repeat (first | exact hp9 | exact List.mem_append_left _ hp9 | exact List.mem_append_right _ hp9 | apply List.mem_cons_of_mem))) ho ⟨rfl, ?_⟩
            rw [htake]
            exact pd_append hys5 (.cons ⟨_, rfl⟩ .nil)
        case done =>
          rintro g0 tk0 ys5 nx hZ0 D5 h2 tk2 - F5 N5 hD5
          obtain ⟨rfl, hys5⟩ := hZ0
          clear F8 N8
          rw [List.take_of_length_le (by lia)] at hys5
          obtain ⟨K, rows, hK, hE, hT, hrl, hKo, hKz, hK2⟩ := plain_law M0.recode (by rw [recode_lv, List.length_map, hM6]; decide) (fun v hv => by
            rw [recode_lv] at hv
            obtain ⟨c, hc, rfl⟩ := List.mem_map.mp hv
            exact cod_letter (hMq c hc))
          have hys5l : ys5.length = 11 := by rw [← hys5.length, hm11]
          have hKe : (K.enc 51).length ≤ 100 := by
            have := Tr.enc_len 51 K
            unfold Tr.sz at hKz
            lia
          refine allE4 hD5 ?_
          clear hD5
          intro r1 r2 r3 r4
          (try dsimp only at r1 r2 r3 r4)
          k_steps
          refine Stop.go ?_
          refine Does.useG (kind_ w _ K hK (by rw [List.length_reverse, recode_enc, List.length_map, hm11]; decide) ys5 (by rw [List.reverse_reverse, recode_enc]; exact pd_map hys5) D5 ys5.length [(D5, LCg.lst ys5), (159, tabT q.c), (q.c, q.oc), (s1.heap.objs.size + 1 + 1 + 1, oC1)] List.mem_cons_self) (by k_asm) (by k_asm) (by k_asm) (fun p hp => N5 p (by
            revert p hp
            (repeat' (first | exact List.forall_mem_nil _ | refine List.forall_mem_cons.mpr ⟨by (repeat (first | with_reducible assumption | with_reducible exact List.mem_cons_self | apply List.mem_cons_of_mem)), ?_⟩))
            (try (intro p9 hp9; repeat (first | exact hp9 | exact List.mem_append_left _ hp9 | exact List.mem_append_right _ hp9 | apply List.mem_cons_of_mem))))) (by k_asm) rfl rfl (by walk_at "ROOM") (by walk_at "ROOM") ?_
          rintro tK n9 hsubK h9 k9 F8 N9 -
          have N8 : News _ _ h9 [(D5, LCg.lst ys5), (159, tabT q.c), (q.c, q.oc), (s1.heap.objs.size + 1 + 1 + 1, oC1)] := fun p hp => N9 p (hsubK p hp)
          clear N9 N5 F5
          k_steps
          refine Stop.go ?_
          rename Fr _ _ _ _ => F9
          rename News _ _ _ _ => N9
          (try k_fold)
          refine comp_text (fun i ys nx => nx = [(D5, LCg.lst ys5), (159, tabT q.c), (q.c, q.oc), (s1.heap.objs.size + 1 + 1 + 1, oC1)] ∧ Paired (fun (c : Nat) v => IsT [c] v) (((K.enc 51).take i).filter fun c => decide (256 ≤ c)) ys) rfl rfl rfl F9 N9 ?hsz ⟨rfl, .nil⟩ ?turn ?done
          case hsz => rw [sizeLine_eq]; lia
          case turn =>
            intro g0 I0
            refine cturn_textT ?_
            rintro i sg u2 ys6 nx C oC D6 M h2 tk2 own E' hi hsg hJ0 hyl hC hM hw hof ho hCD F5 N5
            intro Qe
            (try k_fold)
            obtain ⟨rfl, hys6⟩ := hJ0
            clear F9 N9
            have htake : (K.enc 51).take (i + 1) = (K.enc 51).take i ++ [sg] := by rw [List.take_add_one, hsg]; rfl
            by_cases h256 : 256 ≤ sg
            · have hd0 : decide ((sg : Int) < 256) = false := decide_eq_false (by lia)
              k_steps
              refine Stop.go ?_
              rename News _ _ _ _ => N9
              refine Does.useG (isterminal w _ _ _) (by k_asm) (by k_asm) (by k_asm) N9 (by k_asm) rfl rfl (by walk_at "ROOM") (by walk_at "ROOM") ?_
              rintro h9 k9 F8 N8 -
              clear N9
              k_steps
              rename Fr _ _ _ _ => F9
              rename News _ _ _ _ => N9
              refine cend [(D5, LCg.lst ys5), (159, tabT q.c), (q.c, q.oc), (s1.heap.objs.size + 1 + 1 + 1, oC1)] F9 N9 List.mem_cons_self (List.mem_cons_of_mem _ List.mem_cons_self) (by (intro p9 hp9; repeat (first | exact hp9 | exact List.mem_append_left _ hp9 | exact List.mem_append_right _ hp9 | apply List.mem_cons_of_mem))) (by (intro p9 hp9; repeat (first | exact hp9 | exact List.mem_append_left _ hp9 | exact List.mem_append_right _ hp9 | apply List.mem_cons_of_mem))) ho ⟨rfl, ?_⟩
              rw [htake, List.filter_append, List.filter_cons_of_pos (by simpa using h256)]
              exact pd_append hys6 (.cons ⟨u2, rfl⟩ .nil)
            · have hd0 : decide ((sg : Int) < 256) = true := decide_eq_true (by lia)
              k_steps
              refine Stop.go ?_
              rename News _ _ _ _ => N9
              refine Does.useG (isterminal w _ _ _) (by k_asm) (by k_asm) (by k_asm) N9 (by k_asm) rfl rfl (by walk_at "ROOM") (by walk_at "ROOM") ?_
              rintro h9 k9 F8 N8 -
              clear N9
              k_steps
              rename Fr _ _ _ _ => F9
              rename News _ _ _ _ => N9
              refine cend [(D5, LCg.lst ys5), (159, tabT q.c), (q.c, q.oc), (s1.heap.objs.size + 1 + 1 + 1, oC1)] F9 N9 List.mem_cons_self (List.mem_cons_of_mem _ List.mem_cons_self) (by (intro p9 hp9; repeat (first | exact hp9 | exact List.mem_append_left _ hp9 | exact List.mem_append_right _ hp9 | apply List.mem_cons_of_mem))) (by (intro p9 hp9; repeat (first | exact hp9 | exact List.mem_append_left _ hp9 | exact List.mem_append_right _ hp9 | apply List.mem_cons_of_mem))) ho ⟨rfl, ?_⟩
              rw [htake, List.filter_append, List.filter_cons_of_neg (by simpa using h256), List.filter_nil, List.append_nil]
              exact hys6
          case done =>
            rintro g0 tk0 ys6 nx hZ0 D6 h2 tk2 - F5 N5 hD6
            obtain ⟨rfl, hys6⟩ := hZ0
            clear F9 N9
            rw [List.take_of_length_le (Nat.le_refl _), enc_filter (by decide) hKo] at hys6
            refine allE4 hD6 ?_
            clear hD6
            intro t1 t2 t3 t4
            (try dsimp only at t1 t2 t3 t4)
            k_steps
            refine Stop.go ?_
            rename Fr _ _ _ _ => F9
            rename News _ _ _ _ => N9
            rename_i zh8 oC6 hC6
            have hys6l : ys6.length ≤ 100 := by
              have h1 := hys6.length
              have h2 := Tr.enc_len 51 K
              lia
            (try k_fold)
            refine comp_list (fun i ys nx => nx = [(D6, LCg.lst ys6), (D5, LCg.lst ys5), (159, tabT q.c), (q.c, q.oc), (s1.heap.objs.size + 1 + 1 + 1, oC6)] ∧ ys = []) rfl rfl rfl F9 N9 List.mem_cons_self ?hsz ⟨rfl, rfl⟩ ?turn ?done
            case hsz => rw [sizeLine_eq]; lia
            case turn =>
              intro g0 I0
              refine cturn_test ?_
              rintro i v ys7 nx C oC D7 M h2 tk2 own E' hi hv hJ0 hyl hC hM hw hof ho hCD F5 N5
              intro Qe
              (try k_fold)
              obtain ⟨rfl, rfl⟩ := hJ0
              clear F9 N9
              obtain ⟨c7, hc7, t7, rfl⟩ := pd_get hys6 hv
              have hk2 := hK2 c7 (List.mem_of_getElem? hc7)
              k_steps
              refine cend [(D6, LCg.lst ys6), (D5, LCg.lst ys5), (159, tabT q.c), (q.c, q.oc), (s1.heap.objs.size + 1 + 1 + 1, oC6)] F5 N5 List.mem_cons_self (List.mem_cons_of_mem _ List.mem_cons_self) (by (intro p9 hp9; repeat (first | exact hp9 | exact List.mem_append_left _ hp9 | exact List.mem_append_right _ hp9 | apply List.mem_cons_of_mem))) (by (intro p9 hp9; repeat (first | exact hp9 | exact List.mem_append_left _ hp9 | exact List.mem_append_right _ hp9 | apply List.mem_cons_of_mem))) ho ⟨rfl, rfl⟩
            case done =>
              rintro g0 tk0 ys7 nx hZ0 D7 h2 tk2 - F5 N5 hD7
              obtain ⟨rfl, rfl⟩ := hZ0
              clear F9 N9
              refine allE5 hD7 ?_
              clear hD7
              intro u1 u2 u3 u4 u5
              (try dsimp only at u1 u2 u3 u4 u5)
              have hnil : Paired (fun (c : Nat) v => IsT [c] v) [] [] := .nil
              have hno : ∀ c ∈ ([] : List Nat), c < 1000 := nofun
              k_steps
              refine Stop.go ?_
              rename News _ _ _ _ => N9
              refine Does.useG (told_ w K rows hT (by lia) tK [(D5, LCg.lst ys5), (159, tabT q.c), (q.c, q.oc)]) (by k_asm) (by k_asm) (by k_asm) (fun p hp => N9 p (by
                revert p hp
                (repeat' (first | exact List.forall_mem_nil _ | refine List.forall_mem_cons.mpr ⟨by (repeat (first | with_reducible assumption | with_reducible exact List.mem_cons_self | apply List.mem_cons_of_mem)), ?_⟩))
                (try (intro p9 hp9; repeat (first | exact hp9 | exact List.mem_append_left _ hp9 | exact List.mem_append_right _ hp9 | apply List.mem_cons_of_mem))))) (by k_asm) rfl rfl (by walk_at "ROOM") (by walk_at "ROOM") ?_
              rintro rw1 rk1 rv1 R1 hRV1 hsub1 h9 k9 F8 N8 -
              clear N9
              have N7 : News _ _ h9 ((D5, LCg.lst ys5) :: (rw1, ls rk1 rv1) :: (159, tabT q.c) :: (q.c, q.oc) :: R1) := fun p hp => N8 p (by
                revert p hp
                exact List.forall_mem_cons.mpr ⟨List.mem_cons_of_mem _ (hsub1 _ List.mem_cons_self), List.forall_mem_cons.mpr ⟨List.mem_cons_self, List.forall_mem_cons.mpr ⟨List.mem_cons_of_mem _ (hsub1 _ (List.mem_cons_of_mem _ List.mem_cons_self)), List.forall_mem_cons.mpr ⟨List.mem_cons_of_mem _ (hsub1 _ (List.mem_cons_of_mem _ (List.mem_cons_of_mem _ List.mem_cons_self))), fun p hp => List.mem_cons_of_mem _ hp⟩⟩⟩⟩)
              clear N8
              k_steps
              refine Stop.go ?_
              rename Fr _ _ _ _ => F9
              rename News _ _ _ _ => N9
              (try k_fold)
              refine comp_list (fun i ys nx => nx = (D5, LCg.lst ys5) :: (rw1, ls rk1 rv1) :: (159, tabT q.c) :: (q.c, q.oc) :: R1 ∧ Paired (fun (c : Nat) v => IsT [cod c] v) ((M0.enc 64).take i) ys) rfl rfl rfl F9 N9 List.mem_cons_self ?hsz ⟨rfl, .nil⟩ ?turn ?done
              case hsz => rw [sizeLine_eq]; lia
              case turn =>
                intro g0 I0
                refine cturn_name ?_
                rintro i v ys8 nx C oC D8 M h2 tk2 own E' hi hv hJ0 hyl hC hM hw hof ho hCD F5 N5
                intro Qe
                (try k_fold)
                obtain ⟨rfl, hys8⟩ := hJ0
                clear F9 N9
                obtain ⟨c8, hc8, t8, rfl⟩ := pd_get hys5 hv
                have htake : (M0.enc 64).take (i + 1) = (M0.enc 64).take i ++ [c8] := by rw [List.take_add_one, hc8]; rfl
                have hch : cod c8 ≤ 100000 := by
                  unfold cod
                  split
                  · lia
                  · split
                    · lia
                    · split <;> lia
                k_steps
                refine cend ((D5, LCg.lst ys5) :: (rw1, ls rk1 rv1) :: (159, tabT q.c) :: (q.c, q.oc) :: R1) F5 N5 List.mem_cons_self (List.mem_cons_of_mem _ List.mem_cons_self) (by (intro p9 hp9; repeat (first | exact hp9 | exact List.mem_append_left _ hp9 | exact List.mem_append_right _ hp9 | apply List.mem_cons_of_mem))) (by (intro p9 hp9; repeat (first | exact hp9 | exact List.mem_append_left _ hp9 | exact List.mem_append_right _ hp9 | apply List.mem_cons_of_mem))) ho ⟨rfl, ?_⟩
                rw [htake]
                exact pd_append hys8 (.cons ⟨_, rfl⟩ .nil)
              case done =>
                rintro g0 tk0 ys8 nx hZ0 D8 h2 tk2 - F5 N5 hD8
                obtain ⟨rfl, hys8⟩ := hZ0
                clear F9 N9
                rw [List.take_of_length_le (by lia)] at hys8
                k_steps
                refine Stop.go ?_
                refine join_S (zs := (M0.enc 64).map fun c => [cod c]) N5 List.mem_cons_self (pd_map hys8) (by rw [map_flat, List.length_map, List.length_map, hm11]; decide) ?_
                intro t10 k10
                rw [map_flat, ← recode_enc]
                k_steps
                refine Stop.go ?_
                refine Does.useG (end_ w M0.recode rows hE (by lia) hq.f (by rw [← hqn]; exact hq.g) _ ((rw1, ls rk1 rv1) :: R1)) (by k_asm) (by k_asm) (by k_asm) (fun p hp => N5 p (by
                  revert p hp
                  (repeat' (first | exact List.forall_mem_nil _ | refine List.forall_mem_cons.mpr ⟨by (repeat (first | with_reducible assumption | with_reducible exact List.mem_cons_self | apply List.mem_cons_of_mem)), ?_⟩))
                  (try (intro p9 hp9; repeat (first | exact hp9 | exact List.mem_append_left _ hp9 | exact List.mem_append_right _ hp9 | apply List.mem_cons_of_mem))))) (by k_asm) rfl rfl (by walk_at "ROOM") (by walk_at "ROOM") ?_
                rintro rw2 rk2 rv2 R2 hRV2 hsub2 h9 k9 F8 N8 -
                clear N5 F5
                have h159m : GrownAt 159 h9 := GrownAt.of N8 (List.mem_cons_of_mem _ (hsub2 _ List.mem_cons_self))
                k_steps
                refine Stop.go ?_
                refine eq_rows N8 (List.mem_cons_of_mem _ (hsub2 _ (List.mem_cons_of_mem _ List.mem_cons_self))) List.mem_cons_self hRV1 hRV2 (fun p hp => List.mem_cons_of_mem _ (hsub2 p (List.mem_cons_of_mem _ (List.mem_cons_of_mem _ hp)))) (fun p hp => List.mem_cons_of_mem _ hp) (by (try dsimp only [Around.deeper]); decide) ?_
                k_steps
                refine Stop.go ?_
                rename GrownAt _ _ => hga
                exact ⟨hga, True.intro⟩)

end
end Mine
theorem PySem.Challenge.cw_ti0018_01_holds : PySem.Challenge.rw_ti0018_01.Holds := by
  exact Mine.law_T
