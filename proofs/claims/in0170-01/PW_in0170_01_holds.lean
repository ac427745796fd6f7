import PyProof.Rows.All
import Wide.All
import OpenK.AllK
import Wide.FinOn
import Lean
import PySem.Challenge.RW_in0170_01
open PySem PySem.W PyProof.Rows
set_option Elab.async false
set_option maxRecDepth 100000
set_option linter.unusedVariables false
set_option linter.unusedSimpArgs false
set_option maxHeartbeats 4000000
namespace Mine
section
abbrev pT : Program := PySem.Challenge.pw_in0170_01
def sn (x : String) : Str := Str.ofString x
def en (P : Params) (x : Str) (t : Nat) (v : Value) : DictEntry := ⟨PyData.keyHash P x, .str x t, v⟩
noncomputable def stAt (k : Nat) : Stmt := match pT.main.body[k]? with
  | some s => s
  | none => .Pass ⟨0, 0, 0, 0⟩
noncomputable def fnD (k : Nat) (dV pm cd : Value) : FuncData := match stAt k with
  | .FunctionDef n a b _ _ _ sc _ _ _ => fnOf n n a b sc dV .none .none pm none cd .none
  | _ => default
noncomputable def fnT (k g b : Nat) : FuncData := match stAt k with
  | .FunctionDef n a bd _ _ _ sc _ _ _ => { name := n, qualname := n, params := a, body := .stmts bd, scope := sc, globals := g, closure := [], defaults := .none, kwdefaults := .none, builtins := b }
  | _ => default
noncomputable def o1 (P : Params) : Obj := ⟨.type "dict", none, .dict #[en P (sn "builtins") 162 (.ref 4), en P (sn "__main__") 163 (.ref 5), en P (sn "_sre") 244 (.ref 12)] 3, #[]⟩
noncomputable def o2 (P : Params) : Obj := ⟨.none, none, .dict #[en P ⟨#[105, 109, 112, 111, 114, 116, 46, 108, 111, 97, 100, 101, 100, 46, 95, 115, 114, 101]⟩ 183 (.bool true), en P (sn "class._frozen_importlib.BuiltinImporter") 185 (.ref 14), en P ⟨#[119, 97, 116, 99, 104, 101, 100, 46, 105, 109, 112, 111, 114, 116]⟩ 206 (.ref 18), en P (sn "class._frozen_importlib.ModuleSpec") 216 (.ref 22), en P (sn "sys.modules.booked-epoch") 245 (.int 3 0), en P ⟨#[105, 109, 112, 111, 114, 116, 46, 108, 97, 116, 101, 114, 45, 108, 97, 105, 100, 46, 95, 115, 114, 101]⟩ 270 (.bool true), en P (sn "watched.library") 272 (.ref 27), en P (sn "watched.library-objects") 0 (.str ⟨#[12]⟩ 0), en P (sn "watched.library-deep._sre") 273 (.str ⟨#[4, 0, 0, 11, 4, 0, 0, 11, 4, 0, 0, 3, 4, 0, 0, 11, 8, 4, 100, 105, 99, 116, 2]⟩ 0)] 9, #[]⟩
noncomputable def o3 (P : Params) : Obj := ⟨.type "dict", none, .dict #[en P (sn "__name__") 165 (.str (sn "__main__") 164), en P (sn "__doc__") 166 (.none), en P (sn "__package__") 167 (.none), en P (sn "__loader__") 168 (.builtin "__main__.__loader__#opaque"), en P (sn "__spec__") 169 (.none), en P (sn "__annotations__") 170 (.ref 6), en P (sn "__builtins__") 171 (.ref 4), en P (sn "__file__") 173 (.str (sn "/claim/cut.py") 172), en P (sn "__cached__") 174 (.none), en P (sn "_sre") 275 (.ref 12)] 10, #[]⟩
noncomputable def o11 (P : Params) : Obj := ⟨.type "dict", none, .dict #[en P (sn "__name__") 247 (.str (sn "_sre") 246), en P (sn "__doc__") 248 (.none), en P (sn "__package__") 250 (.str ⟨#[]⟩ 249), en P (sn "__loader__") 251 (.ref 14), en P (sn "__spec__") 252 (.ref 26), en P (sn "compile") 253 (.builtin "_sre.compile"), en P (sn "template") 254 (.builtin "_sre.template"), en P (sn "getcodesize") 255 (.builtin "_sre.getcodesize"), en P (sn "ascii_iscased") 256 (.builtin "_sre.ascii_iscased"), en P (sn "unicode_iscased") 257 (.builtin "_sre.unicode_iscased"), en P (sn "ascii_tolower") 258 (.builtin "_sre.ascii_tolower"), en P (sn "unicode_tolower") 259 (.builtin "_sre.unicode_tolower"), en P (sn "MAGIC") 261 (.int 20230612 260), en P (sn "CODESIZE") 263 (.int 4 262), en P (sn "MAXREPEAT") 265 (.int 4294967295 264), en P (sn "MAXGROUPS") 267 (.int 1073741823 266), en P (sn "copyright") 269 (.str (sn " SRE 2.2.2 Copyright (c) 1997-2002 by Secret Labs AB ") 268)] 17, #[]⟩
noncomputable def o12 (P : Params) : Obj := ⟨.type "module", some 11, .plain, #[]⟩
noncomputable def o13 (P : Params) : Obj := ⟨.type "dict", none, .dict #[en P (sn "__module__") 189 (.str (sn "_frozen_importlib") 186), en P (sn "__firstlineno__") 190 (.int 971 187), en P (sn "__doc__") 191 (.builtin "_frozen_importlib.BuiltinImporter.__doc__:str#opaque"), en P (sn "_ORIGIN") 192 (.str (sn "built-in") 188), en P (sn "find_spec") 193 (.builtin "_frozen_importlib.BuiltinImporter.find_spec#opaque"), en P (sn "create_module") 194 (.builtin "_frozen_importlib.BuiltinImporter.create_module#opaque"), en P (sn "exec_module") 195 (.builtin "_frozen_importlib.BuiltinImporter.exec_module#opaque"), en P (sn "get_code") 196 (.builtin "_frozen_importlib.BuiltinImporter.get_code#opaque"), en P (sn "get_source") 197 (.builtin "_frozen_importlib.BuiltinImporter.get_source#opaque"), en P (sn "is_package") 198 (.builtin "_frozen_importlib.BuiltinImporter.is_package#opaque"), en P (sn "load_module") 199 (.builtin "_frozen_importlib.BuiltinImporter.load_module#opaque"), en P (sn "__static_attributes__") 200 (.ref 15), en P (sn "__dict__") 202 (.ref 16), en P (sn "__weakref__") 204 (.ref 17)] 14, #[]⟩
noncomputable def o14 (P : Params) : Obj := ⟨.type "type", none, .cls { name := (sn "BuiltinImporter"), bases := [.type "object"], mro := [.ref 14, .type "object"], ns := 13, qualname := (sn "BuiltinImporter"), hasDict := true, slotNames := [], subclasses := [], abstract := false, collection := none, hasDel := false }, #[]⟩
noncomputable def o15 (P : Params) : Obj := ⟨.type "tuple", none, .seq #[] 0, #[]⟩
noncomputable def o16 (P : Params) : Obj := ⟨.type "getset_descriptor", none, .fields #[.str (sn "__dict__") 201, .ref 14, .builtin "function.__dict__", .builtin "function.__dict__#set"], #[]⟩
noncomputable def o17 (P : Params) : Obj := ⟨.type "getset_descriptor", none, .fields #[.str (sn "__weakref__") 203, .ref 14, .builtin "ExceptionGroup.__weakref__", .none], #[]⟩
noncomputable def o18 (P : Params) : Obj := ⟨.none, none, .seq #[.int 13 0, .str ⟨#[6, 189, 10, 95, 95, 109, 111, 100, 117, 108, 101, 95, 95, 6, 186, 17, 95, 102, 114, 111, 122, 101, 110, 95, 105, 109, 112, 111, 114, 116, 108, 105, 98, 6, 190, 15, 95, 95, 102, 105, 114, 115, 116, 108, 105, 110, 101, 110, 111, 95, 95, 4, 187, 0, 971, 6, 191, 7, 95, 95, 100, 111, 99, 95, 95, 9, 52, 95, 102, 114, 111, 122, 101, 110, 95, 105, 109, 112, 111, 114, 116, 108, 105, 98, 46, 66, 117, 105, 108, 116, 105, 110, 73, 109, 112, 111, 114, 116, 101, 114, 46, 95, 95, 100, 111, 99, 95, 95, 58, 115, 116, 114, 35, 111, 112, 97, 113, 117, 101, 6, 192, 7, 95, 79, 82, 73, 71, 73, 78, 6, 188, 8, 98, 117, 105, 108, 116, 45, 105, 110, 6, 193, 9, 102, 105, 110, 100, 95, 115, 112, 101, 99, 9, 50, 95, 102, 114, 111, 122, 101, 110, 95, 105, 109, 112, 111, 114, 116, 108, 105, 98, 46, 66, 117, 105, 108, 116, 105, 110, 73, 109, 112, 111, 114, 116, 101, 114, 46, 102, 105, 110, 100, 95, 115, 112, 101, 99, 35, 111, 112, 97, 113, 117, 101, 6, 194, 13, 99, 114, 101, 97, 116, 101, 95, 109, 111, 100, 117, 108, 101, 9, 54, 95, 102, 114, 111, 122, 101, 110, 95, 105, 109, 112, 111, 114, 116, 108, 105, 98, 46, 66, 117, 105, 108, 116, 105, 110, 73, 109, 112, 111, 114, 116, 101, 114, 46, 99, 114, 101, 97, 116, 101, 95, 109, 111, 100, 117, 108, 101, 35, 111, 112, 97, 113, 117, 101, 6, 195, 11, 101, 120, 101, 99, 95, 109, 111, 100, 117, 108, 101, 9, 52, 95, 102, 114, 111, 122, 101, 110, 95, 105, 109, 112, 111, 114, 116, 108, 105, 98, 46, 66, 117, 105, 108, 116, 105, 110, 73, 109, 112, 111, 114, 116, 101, 114, 46, 101, 120, 101, 99, 95, 109, 111, 100, 117, 108, 101, 35, 111, 112, 97, 113, 117, 101, 6, 196, 8, 103, 101, 116, 95, 99, 111, 100, 101, 9, 49, 95, 102, 114, 111, 122, 101, 110, 95, 105, 109, 112, 111, 114, 116, 108, 105, 98, 46, 66, 117, 105, 108, 116, 105, 110, 73, 109, 112, 111, 114, 116, 101, 114, 46, 103, 101, 116, 95, 99, 111, 100, 101, 35, 111, 112, 97, 113, 117, 101, 6, 197, 10, 103, 101, 116, 95, 115, 111, 117, 114, 99, 101, 9, 51, 95, 102, 114, 111, 122, 101, 110, 95, 105, 109, 112, 111, 114, 116, 108, 105, 98, 46, 66, 117, 105, 108, 116, 105, 110, 73, 109, 112, 111, 114, 116, 101, 114, 46, 103, 101, 116, 95, 115, 111, 117, 114, 99, 101, 35, 111, 112, 97, 113, 117, 101, 6, 198, 10, 105, 115, 95, 112, 97, 99, 107, 97, 103, 101, 9, 51, 95, 102, 114, 111, 122, 101, 110, 95, 105, 109, 112, 111, 114, 116, 108, 105, 98, 46, 66, 117, 105, 108, 116, 105, 110, 73, 109, 112, 111, 114, 116, 101, 114, 46, 105, 115, 95, 112, 97, 99, 107, 97, 103, 101, 35, 111, 112, 97, 113, 117, 101, 6, 199, 11, 108, 111, 97, 100, 95, 109, 111, 100, 117, 108, 101, 9, 52, 95, 102, 114, 111, 122, 101, 110, 95, 105, 109, 112, 111, 114, 116, 108, 105, 98, 46, 66, 117, 105, 108, 116, 105, 110, 73, 109, 112, 111, 114, 116, 101, 114, 46, 108, 111, 97, 100, 95, 109, 111, 100, 117, 108, 101, 35, 111, 112, 97, 113, 117, 101, 6, 200, 21, 95, 95, 115, 116, 97, 116, 105, 99, 95, 97, 116, 116, 114, 105, 98, 117, 116, 101, 115, 95, 95, 4, 0, 0, 15, 6, 202, 8, 95, 95, 100, 105, 99, 116, 95, 95, 4, 0, 0, 16, 6, 204, 11, 95, 95, 119, 101, 97, 107, 114, 101, 102, 95, 95, 4, 0, 0, 17]⟩ 0, .bool true, .bool true, .str ⟨#[]⟩ 205, .int 21 0, .str ⟨#[6, 227, 10, 95, 95, 109, 111, 100, 117, 108, 101, 95, 95, 6, 217, 17, 95, 102, 114, 111, 122, 101, 110, 95, 105, 109, 112, 111, 114, 116, 108, 105, 98, 6, 228, 15, 95, 95, 102, 105, 114, 115, 116, 108, 105, 110, 101, 110, 111, 95, 95, 4, 218, 0, 562, 6, 229, 7, 95, 95, 100, 111, 99, 95, 95, 9, 47, 95, 102, 114, 111, 122, 101, 110, 95, 105, 109, 112, 111, 114, 116, 108, 105, 98, 46, 77, 111, 100, 117, 108, 101, 83, 112, 101, 99, 46, 95, 95, 100, 111, 99, 95, 95, 58, 115, 116, 114, 35, 111, 112, 97, 113, 117, 101, 6, 230, 8, 95, 95, 105, 110, 105, 116, 95, 95, 9, 44, 95, 102, 114, 111, 122, 101, 110, 95, 105, 109, 112, 111, 114, 116, 108, 105, 98, 46, 77, 111, 100, 117, 108, 101, 83, 112, 101, 99, 46, 95, 95, 105, 110, 105, 116, 95, 95, 35, 111, 112, 97, 113, 117, 101, 6, 231, 8, 95, 95, 114, 101, 112, 114, 95, 95, 9, 44, 95, 102, 114, 111, 122, 101, 110, 95, 105, 109, 112, 111, 114, 116, 108, 105, 98, 46, 77, 111, 100, 117, 108, 101, 83, 112, 101, 99, 46, 95, 95, 114, 101, 112, 114, 95, 95, 35, 111, 112, 97, 113, 117, 101, 6, 232, 6, 95, 95, 101, 113, 95, 95, 9, 42, 95, 102, 114, 111, 122, 101, 110, 95, 105, 109, 112, 111, 114, 116, 108, 105, 98, 46, 77, 111, 100, 117, 108, 101, 83, 112, 101, 99, 46, 95, 95, 101, 113, 95, 95, 35, 111, 112, 97, 113, 117, 101, 6, 233, 6, 99, 97, 99, 104, 101, 100, 9, 42, 95, 102, 114, 111, 122, 101, 110, 95, 105, 109, 112, 111, 114, 116, 108, 105, 98, 46, 77, 111, 100, 117, 108, 101, 83, 112, 101, 99, 46, 99, 97, 99, 104, 101, 100, 35, 111, 112, 97, 113, 117, 101, 6, 234, 6, 112, 97, 114, 101, 110, 116, 9, 42, 95, 102, 114, 111, 122, 101, 110, 95, 105, 109, 112, 111, 114, 116, 108, 105, 98, 46, 77, 111, 100, 117, 108, 101, 83, 112, 101, 99, 46, 112, 97, 114, 101, 110, 116, 35, 111, 112, 97, 113, 117, 101, 6, 235, 12, 104, 97, 115, 95, 108, 111, 99, 97, 116, 105, 111, 110, 9, 48, 95, 102, 114, 111, 122, 101, 110, 95, 105, 109, 112, 111, 114, 116, 108, 105, 98, 46, 77, 111, 100, 117, 108, 101, 83, 112, 101, 99, 46, 104, 97, 115, 95, 108, 111, 99, 97, 116, 105, 111, 110, 35, 111, 112, 97, 113, 117, 101, 6, 236, 21, 95, 95, 115, 116, 97, 116, 105, 99, 95, 97, 116, 116, 114, 105, 98, 117, 116, 101, 115, 95, 95, 4, 0, 0, 23, 6, 238, 8, 95, 95, 100, 105, 99, 116, 95, 95, 4, 0, 0, 24, 6, 240, 11, 95, 95, 119, 101, 97, 107, 114, 101, 102, 95, 95, 4, 0, 0, 25, 6, 241, 8, 95, 95, 104, 97, 115, 104, 95, 95, 0]⟩ 0, .bool true, .bool true, .str ⟨#[]⟩ 242] 1, #[]⟩
noncomputable def o19 (P : Params) : Obj := ⟨.type "list", none, .seq #[] 0, #[]⟩
noncomputable def o20 (P : Params) : Obj := ⟨.type "dict", none, .dict #[en P (sn "name") 208 (.str (sn "_sre") 207), en P (sn "loader") 209 (.ref 14), en P (sn "origin") 210 (.str (sn "built-in") 184), en P (sn "loader_state") 211 (.none), en P (sn "submodule_search_locations") 212 (.none), en P (sn "_uninitialized_submodules") 213 (.ref 19), en P (sn "_set_fileattr") 214 (.bool false), en P (sn "_cached") 215 (.none), en P (sn "_initializing") 243 (.bool false)] 9, #[]⟩
noncomputable def o21 (P : Params) : Obj := ⟨.type "dict", none, .dict #[en P (sn "__module__") 227 (.str (sn "_frozen_importlib") 217), en P (sn "__firstlineno__") 228 (.int 562 218), en P (sn "__doc__") 229 (.builtin "_frozen_importlib.ModuleSpec.__doc__:str#opaque"), en P (sn "__init__") 230 (.builtin "_frozen_importlib.ModuleSpec.__init__#opaque"), en P (sn "__repr__") 231 (.builtin "_frozen_importlib.ModuleSpec.__repr__#opaque"), en P (sn "__eq__") 232 (.builtin "_frozen_importlib.ModuleSpec.__eq__#opaque"), en P (sn "cached") 233 (.builtin "_frozen_importlib.ModuleSpec.cached#opaque"), en P (sn "parent") 234 (.builtin "_frozen_importlib.ModuleSpec.parent#opaque"), en P (sn "has_location") 235 (.builtin "_frozen_importlib.ModuleSpec.has_location#opaque"), en P (sn "__static_attributes__") 236 (.ref 23), en P (sn "__dict__") 238 (.ref 24), en P (sn "__weakref__") 240 (.ref 25), en P (sn "__hash__") 241 (.none)] 13, #[]⟩
noncomputable def o22 (P : Params) : Obj := ⟨.type "type", none, .cls { name := (sn "ModuleSpec"), bases := [.type "object"], mro := [.ref 22, .type "object"], ns := 21, qualname := (sn "ModuleSpec"), hasDict := true, slotNames := [], subclasses := [], abstract := false, collection := none, hasDel := false }, #[]⟩
noncomputable def o23 (P : Params) : Obj := ⟨.type "tuple", none, .seq #[.str (sn "_cached") 219, .str (sn "_set_fileattr") 220, .str (sn "_uninitialized_submodules") 221, .str (sn "loader") 222, .str (sn "loader_state") 223, .str (sn "name") 224, .str (sn "origin") 225, .str (sn "submodule_search_locations") 226] 0, #[]⟩
noncomputable def o24 (P : Params) : Obj := ⟨.type "getset_descriptor", none, .fields #[.str (sn "__dict__") 237, .ref 22, .builtin "function.__dict__", .builtin "function.__dict__#set"], #[]⟩
noncomputable def o25 (P : Params) : Obj := ⟨.type "getset_descriptor", none, .fields #[.str (sn "__weakref__") 239, .ref 22, .builtin "ExceptionGroup.__weakref__", .none], #[]⟩
noncomputable def o26 (P : Params) : Obj := ⟨.ref 22, some 20, .plain, #[]⟩
noncomputable def o27 (P : Params) : Obj := ⟨.none, none, .seq #[.int 11 0, .str ⟨#[6, 247, 8, 95, 95, 110, 97, 109, 101, 95, 95, 6, 246, 4, 95, 115, 114, 101, 6, 248, 7, 95, 95, 100, 111, 99, 95, 95, 0, 6, 250, 11, 95, 95, 112, 97, 99, 107, 97, 103, 101, 95, 95, 6, 249, 0, 6, 251, 10, 95, 95, 108, 111, 97, 100, 101, 114, 95, 95, 4, 0, 0, 14, 6, 252, 8, 95, 95, 115, 112, 101, 99, 95, 95, 4, 0, 0, 26, 6, 253, 7, 99, 111, 109, 112, 105, 108, 101, 9, 12, 95, 115, 114, 101, 46, 99, 111, 109, 112, 105, 108, 101, 6, 254, 8, 116, 101, 109, 112, 108, 97, 116, 101, 9, 13, 95, 115, 114, 101, 46, 116, 101, 109, 112, 108, 97, 116, 101, 6, 255, 11, 103, 101, 116, 99, 111, 100, 101, 115, 105, 122, 101, 9, 16, 95, 115, 114, 101, 46, 103, 101, 116, 99, 111, 100, 101, 115, 105, 122, 101, 6, 256, 13, 97, 115, 99, 105, 105, 95, 105, 115, 99, 97, 115, 101, 100, 9, 18, 95, 115, 114, 101, 46, 97, 115, 99, 105, 105, 95, 105, 115, 99, 97, 115, 101, 100, 6, 257, 15, 117, 110, 105, 99, 111, 100, 101, 95, 105, 115, 99, 97, 115, 101, 100, 9, 20, 95, 115, 114, 101, 46, 117, 110, 105, 99, 111, 100, 101, 95, 105, 115, 99, 97, 115, 101, 100, 6, 258, 13, 97, 115, 99, 105, 105, 95, 116, 111, 108, 111, 119, 101, 114, 9, 18, 95, 115, 114, 101, 46, 97, 115, 99, 105, 105, 95, 116, 111, 108, 111, 119, 101, 114, 6, 259, 15, 117, 110, 105, 99, 111, 100, 101, 95, 116, 111, 108, 111, 119, 101, 114, 9, 20, 95, 115, 114, 101, 46, 117, 110, 105, 99, 111, 100, 101, 95, 116, 111, 108, 111, 119, 101, 114, 6, 261, 5, 77, 65, 71, 73, 67, 4, 260, 0, 20230612, 6, 263, 8, 67, 79, 68, 69, 83, 73, 90, 69, 4, 262, 0, 4, 6, 265, 9, 77, 65, 88, 82, 69, 80, 69, 65, 84, 4, 264, 0, 4294967295, 6, 267, 9, 77, 65, 88, 71, 82, 79, 85, 80, 83, 4, 266, 0, 1073741823, 6, 269, 9, 99, 111, 112, 121, 114, 105, 103, 104, 116, 6, 268, 53, 32, 83, 82, 69, 32, 50, 46, 50, 46, 50, 32, 67, 111, 112, 121, 114, 105, 103, 104, 116, 32, 40, 99, 41, 32, 49, 57, 57, 55, 45, 50, 48, 48, 50, 32, 98, 121, 32, 83, 101, 99, 114, 101, 116, 32, 76, 97, 98, 115, 32, 65, 66, 32]⟩ 0, .bool true, .bool false, .str (sn "_sre") 271] 0, #[]⟩
noncomputable def treeI (P : Params) : BT := .node (boot_o_0 P) (.node (o1 P) (.node (o3 P) (.node (boot_o_7 P) (.node (o15 P) (.nil) (.nil)) (.node (o23 P) (.nil) (.nil))) (.node (o11 P) (.node (o19 P) (.nil) (.nil)) (.node (o27 P) (.nil) (.nil)))) (.node (boot_o_5 P) (.node (boot_o_9 P) (.node (o17 P) (.nil) (.nil)) (.node (o25 P) (.nil) (.nil))) (.node (o13 P) (.node (o21 P) (.nil) (.nil)) (.nil)))) (.node (o2 P) (.node (boot_o_4 P) (.node (boot_o_8 P) (.node (o16 P) (.nil) (.nil)) (.node (o24 P) (.nil) (.nil))) (.node (o12 P) (.node (o20 P) (.nil) (.nil)) (.nil))) (.node (boot_o_6 P) (.node (boot_o_10 P) (.node (o18 P) (.nil) (.nil)) (.node (o26 P) (.nil) (.nil))) (.node (o14 P) (.node (o22 P) (.nil) (.nil)) (.nil))))
noncomputable def o11v1 (P : Params) : Obj := ⟨.type "dict", none, .dict #[en P (sn "__name__") 247 (.str (sn "_sre") 246), en P (sn "__doc__") 248 (.none), en P (sn "__package__") 250 (.str ⟨#[]⟩ 249), en P (sn "__loader__") 251 (.builtin "off-the-table:_sre.__loader__:shared#opaque"), en P (sn "__spec__") 252 (.builtin "off-the-table:_sre.__spec__:shared#opaque"), en P (sn "compile") 253 (.builtin "_sre.compile"), en P (sn "template") 254 (.builtin "off-the-table:_sre.template:shared#opaque"), en P (sn "getcodesize") 255 (.builtin "off-the-table:_sre.getcodesize:shared#opaque"), en P (sn "ascii_iscased") 256 (.builtin "off-the-table:_sre.ascii_iscased:shared#opaque"), en P (sn "unicode_iscased") 257 (.builtin "off-the-table:_sre.unicode_iscased:shared#opaque"), en P (sn "ascii_tolower") 258 (.builtin "off-the-table:_sre.ascii_tolower:shared#opaque"), en P (sn "unicode_tolower") 259 (.builtin "off-the-table:_sre.unicode_tolower:shared#opaque"), en P (sn "MAGIC") 261 (.int 20230612 260), en P (sn "CODESIZE") 263 (.int 4 262), en P (sn "MAXREPEAT") 265 (.int 4294967295 264), en P (sn "MAXGROUPS") 267 (.int 1073741823 266), en P (sn "copyright") 269 (.str (sn " SRE 2.2.2 Copyright (c) 1997-2002 by Secret Labs AB ") 268)] 17, #[]⟩
noncomputable def treeS (P : Params) : BT := .node (boot_o_0 P) (.node (o1 P) (.node (o3 P) (.node (boot_o_7 P) (.node (o15 P) (.nil) (.nil)) (.node (o23 P) (.nil) (.nil))) (.node (o11v1 P) (.node (o19 P) (.nil) (.nil)) (.node (o27 P) (.nil) (.nil)))) (.node (boot_o_5 P) (.node (boot_o_9 P) (.node (o17 P) (.nil) (.nil)) (.node (o25 P) (.nil) (.nil))) (.node (o13 P) (.node (o21 P) (.nil) (.nil)) (.nil)))) (.node (o2 P) (.node (boot_o_4 P) (.node (boot_o_8 P) (.node (o16 P) (.nil) (.nil)) (.node (o24 P) (.nil) (.nil))) (.node (o12 P) (.node (o20 P) (.nil) (.nil)) (.nil))) (.node (boot_o_6 P) (.node (boot_o_10 P) (.node (o18 P) (.nil) (.nil)) (.node (o26 P) (.nil) (.nil))) (.node (o14 P) (.node (o22 P) (.nil) (.nil)) (.nil))))
noncomputable def o28 (P : Params) : Obj := ⟨.type "tuple", none, .seq #[] 0, #[]⟩
noncomputable def o29 (P : Params) : Obj := ⟨.none, none, .fields #[], #[]⟩
noncomputable def o30 (P : Params) : Obj := ⟨.type "code", none, .fields #[.str (sn "<module>") 277, .str (sn "<module>") 278, .str (sn "/claim/cut.py") 279, .int 1 0, .int 0 0, .int 0 0, .int 0 0, .int 0 0, .ref 28, .bool false, .int 276 0, .ref 29, .none, .none, .none, .none, .int 280 0, .int 1 0, .str (sn "/claim/cut.py") 281], #[]⟩
noncomputable def o31 (P : Params) : Obj := ⟨.type "frame", none, .plain, #[some (.ref 30), some (.ref 3), some (.ref 3), none, some (.str (sn "__main__") 164), none, some (.ref 0)]⟩
noncomputable def treeP (P : Params) : BT := .node (boot_o_0 P) (.node (o1 P) (.node (o3 P) (.node (boot_o_7 P) (.node (o15 P) (.node (o31 P) (.nil) (.nil)) (.nil)) (.node (o23 P) (.nil) (.nil))) (.node (o11v1 P) (.node (o19 P) (.nil) (.nil)) (.node (o27 P) (.nil) (.nil)))) (.node (boot_o_5 P) (.node (boot_o_9 P) (.node (o17 P) (.nil) (.nil)) (.node (o25 P) (.nil) (.nil))) (.node (o13 P) (.node (o21 P) (.nil) (.nil)) (.node (o29 P) (.nil) (.nil))))) (.node (o2 P) (.node (boot_o_4 P) (.node (boot_o_8 P) (.node (o16 P) (.nil) (.nil)) (.node (o24 P) (.nil) (.nil))) (.node (o12 P) (.node (o20 P) (.nil) (.nil)) (.node (o28 P) (.nil) (.nil)))) (.node (boot_o_6 P) (.node (boot_o_10 P) (.node (o18 P) (.nil) (.nil)) (.node (o26 P) (.nil) (.nil))) (.node (o14 P) (.node (o22 P) (.nil) (.nil)) (.node (o30 P) (.nil) (.nil)))))
noncomputable def o3v1 (P : Params) : Obj := ⟨.type "dict", none, .dict #[en P (sn "__name__") 165 (.str (sn "re") 331), en P (sn "__doc__") 166 (.none), en P (sn "__package__") 167 (.none), en P (sn "__loader__") 168 (.builtin "__main__.__loader__#opaque"), en P (sn "__spec__") 169 (.none), en P (sn "__annotations__") 170 (.ref 6), en P (sn "__builtins__") 171 (.ref 4), en P (sn "__file__") 173 (.str (sn "/claim/cut.py") 172), en P (sn "__cached__") 174 (.none), en P (sn "_sre") 275 (.ref 12), en P (sn "twin_re_1_fnmatch") 321 (.ref 36), en P (sn "translate") 330 (.ref 43), en P (sn "_special_chars_map") 478 (.ref 45)] 13, #[]⟩
noncomputable def o29v1 (P : Params) : Obj := ⟨.none, none, .fields #[.int 4 0, .int 0 0, .ref 42], #[]⟩
noncomputable def o32 (P : Params) : Obj := ⟨.type "list", none, .seq #[.int 14 287, .int 14 288, .int 4 289, .int 1 290, .int 1 291, .int 9 292, .int 0 293, .int 64 294, .int 0 295, .int 1342177280 296, .int 0 297, .int 0 298, .int 0 299, .int 0 300, .int 0 301, .int 17 302, .int 0 303, .int 13 304, .int 11 305, .int 9 306, .int 0 307, .int 64 308, .int 0 309, .int 1342177280 310, .int 0 311, .int 0 312, .int 0 313, .int 0 314, .int 0 315, .int 17 316, .int 1 317, .int 1 318] 0, #[]⟩
noncomputable def o33 (P : Params) : Obj := ⟨.type "dict", none, .dict #[] 0, #[]⟩
noncomputable def o34 (P : Params) : Obj := ⟨.type "tuple", none, .seq #[.none, .none] 0, #[]⟩
noncomputable def o35 (P : Params) : Obj := ⟨.type "tuple", none, .seq #[.int 14 0, .int 14 0, .int 4 0, .int 1 0, .int 1 0, .int 9 0, .int 0 0, .int 64 0, .int 0 0, .int 1342177280 0, .int 0 0, .int 0 0, .int 0 0, .int 0 0, .int 0 0, .int 17 0, .int 0 0, .int 13 0, .int 11 0, .int 9 0, .int 0 0, .int 64 0, .int 0 0, .int 1342177280 0, .int 0 0, .int 0 0, .int 0 0, .int 0 0, .int 0 0, .int 17 0, .int 1 0, .int 1 0] 0, #[]⟩
noncomputable def o36 (P : Params) : Obj := ⟨.type "re.Pattern", none, .fields #[.str (sn "([&~|])") 285, .int 32 320, .int 1 0, .none, .none, .ref 35, .int 0 0], #[]⟩
noncomputable def o37 (P : Params) : Obj := ⟨.type "tuple", none, .seq #[] 0, #[]⟩
noncomputable def o38 (P : Params) : Obj := ⟨.none, none, .fields #[], #[]⟩
noncomputable def o39 (P : Params) : Obj := ⟨.type "tuple", none, .seq #[.str (sn "pat") 325, .str (sn "STAR") 326, .str (sn "parts") 327] 0, #[]⟩
noncomputable def o40 (P : Params) : Obj := ⟨.type "tuple", none, .seq #[] 0, #[]⟩
noncomputable def o41 (P : Params) : Obj := ⟨.none, none, .func (fnT 3 0 0), #[]⟩
noncomputable def o42 (P : Params) : Obj := ⟨.type "code", none, .fields #[.str (sn "translate") 322, .str (sn "translate") 323, .str (sn "/claim/cut.py") 324, .int 4 0, .int 1 0, .int 0 0, .int 0 0, .int 3 0, .ref 37, .bool true, .int 276 0, .ref 38, .none, .ref 39, .ref 40, .ref 41, .int 328 0, .int 4 0, .str (sn "/claim/cut.py") 329], #[]⟩
noncomputable def o43 (P : Params) : Obj := ⟨.type "function", none, .func (fnD 3 (.none) (.str (sn "cpy313.fnmatch") 282) (.ref 42)), #[]⟩
noncomputable def o44 (P : Params) : Obj := ⟨.type "bytes_iterator", none, .fields #[.none, .int 24 0], #[]⟩
noncomputable def o45 (P : Params) : Obj := ⟨.type "dict", none, .dict #[⟨40, .int 40 334, .str ⟨#[92, 40]⟩ 338⟩, ⟨41, .int 41 340, .str ⟨#[92, 41]⟩ 344⟩, ⟨91, .int 91 346, .str ⟨#[92, 91]⟩ 350⟩, ⟨93, .int 93 352, .str ⟨#[92, 93]⟩ 356⟩, ⟨123, .int 123 358, .str ⟨#[92, 123]⟩ 362⟩, ⟨125, .int 125 364, .str ⟨#[92, 125]⟩ 368⟩, ⟨63, .int 63 370, .str ⟨#[92, 63]⟩ 374⟩, ⟨42, .int 42 376, .str ⟨#[92, 42]⟩ 380⟩, ⟨43, .int 43 382, .str ⟨#[92, 43]⟩ 386⟩, ⟨45, .int 45 388, .str ⟨#[92, 45]⟩ 392⟩, ⟨124, .int 124 394, .str ⟨#[92, 124]⟩ 398⟩, ⟨94, .int 94 400, .str ⟨#[92, 94]⟩ 404⟩, ⟨36, .int 36 406, .str ⟨#[92, 36]⟩ 410⟩, ⟨92, .int 92 412, .str ⟨#[92, 92]⟩ 416⟩, ⟨46, .int 46 418, .str ⟨#[92, 46]⟩ 422⟩, ⟨38, .int 38 424, .str ⟨#[92, 38]⟩ 428⟩, ⟨126, .int 126 430, .str ⟨#[92, 126]⟩ 434⟩, ⟨35, .int 35 436, .str ⟨#[92, 35]⟩ 440⟩, ⟨32, .int 32 442, .str ⟨#[92, 32]⟩ 446⟩, ⟨9, .int 9 448, .str ⟨#[92, 9]⟩ 452⟩, ⟨10, .int 10 454, .str ⟨#[92, 10]⟩ 458⟩, ⟨13, .int 13 460, .str ⟨#[92, 13]⟩ 464⟩, ⟨11, .int 11 466, .str ⟨#[92, 11]⟩ 470⟩, ⟨12, .int 12 472, .str ⟨#[92, 12]⟩ 476⟩] 24, #[]⟩
noncomputable def o46 (P : Params) : Obj := ⟨.type "dict", none, .dict #[] 2, #[]⟩
noncomputable def o47 (P : Params) : Obj := ⟨.type "tuple", none, .seq #[] 0, #[]⟩
noncomputable def o48 (P : Params) : Obj := ⟨.type "StopIteration", none, .fields #[.ref 47, .none, .none, .none, .bool false, .none], #[]⟩
noncomputable def treeA (P : Params) : BT := .node (boot_o_0 P) (.node (o1 P) (.node (o3v1 P) (.node (boot_o_7 P) (.node (o15 P) (.node (o31 P) (.nil) (.nil)) (.node (o47 P) (.nil) (.nil))) (.node (o23 P) (.node (o39 P) (.nil) (.nil)) (.nil))) (.node (o11v1 P) (.node (o19 P) (.node (o35 P) (.nil) (.nil)) (.nil)) (.node (o27 P) (.node (o43 P) (.nil) (.nil)) (.nil)))) (.node (boot_o_5 P) (.node (boot_o_9 P) (.node (o17 P) (.node (o33 P) (.nil) (.nil)) (.nil)) (.node (o25 P) (.node (o41 P) (.nil) (.nil)) (.nil))) (.node (o13 P) (.node (o21 P) (.node (o37 P) (.nil) (.nil)) (.nil)) (.node (o29v1 P) (.node (o45 P) (.nil) (.nil)) (.nil))))) (.node (o2 P) (.node (boot_o_4 P) (.node (boot_o_8 P) (.node (o16 P) (.node (o32 P) (.nil) (.nil)) (.node (o48 P) (.nil) (.nil))) (.node (o24 P) (.node (o40 P) (.nil) (.nil)) (.nil))) (.node (o12 P) (.node (o20 P) (.node (o36 P) (.nil) (.nil)) (.nil)) (.node (o28 P) (.node (o44 P) (.nil) (.nil)) (.nil)))) (.node (boot_o_6 P) (.node (boot_o_10 P) (.node (o18 P) (.node (o34 P) (.nil) (.nil)) (.nil)) (.node (o26 P) (.node (o42 P) (.nil) (.nil)) (.nil))) (.node (o14 P) (.node (o22 P) (.node (o38 P) (.nil) (.nil)) (.nil)) (.node (o30 P) (.node (o46 P) (.nil) (.nil)) (.nil)))))
noncomputable def o3v2 (P : Params) : Obj := ⟨.type "dict", none, .dict #[en P (sn "__name__") 165 (.str (sn "cpy313.fnmatch") 486), en P (sn "__doc__") 166 (.none), en P (sn "__package__") 167 (.none), en P (sn "__loader__") 168 (.builtin "__main__.__loader__#opaque"), en P (sn "__spec__") 169 (.none), en P (sn "__annotations__") 170 (.ref 6), en P (sn "__builtins__") 171 (.ref 4), en P (sn "__file__") 173 (.str (sn "/claim/cut.py") 172), en P (sn "__cached__") 174 (.none), en P (sn "_sre") 275 (.ref 12), en P (sn "twin_re_1_fnmatch") 321 (.ref 36), en P (sn "translate") 330 (.ref 43), en P (sn "_special_chars_map") 478 (.ref 45), en P (sn "escape") 485 (.ref 55), en P (sn "_translate") 506 (.ref 62), en P (sn "_join_translated_parts") 519 (.ref 69), en P (sn "twin_re_1_quoprimime") 554 (.ref 74)] 17, #[]⟩
noncomputable def o29v2 (P : Params) : Obj := ⟨.none, none, .fields #[.int 4 0, .int 0 0, .ref 42, .int 10 0, .int 0 0, .ref 54, .int 17 0, .int 0 0, .ref 61, .int 79 0, .int 0 0, .ref 68], #[]⟩
noncomputable def o49 (P : Params) : Obj := ⟨.type "tuple", none, .seq #[] 0, #[]⟩
noncomputable def o50 (P : Params) : Obj := ⟨.none, none, .fields #[], #[]⟩
noncomputable def o51 (P : Params) : Obj := ⟨.type "tuple", none, .seq #[.str (sn "pattern") 482] 0, #[]⟩
noncomputable def o52 (P : Params) : Obj := ⟨.type "tuple", none, .seq #[] 0, #[]⟩
noncomputable def o53 (P : Params) : Obj := ⟨.none, none, .func (fnT 6 0 0), #[]⟩
noncomputable def o54 (P : Params) : Obj := ⟨.type "code", none, .fields #[.str (sn "escape") 479, .str (sn "escape") 480, .str (sn "/claim/cut.py") 481, .int 10 0, .int 1 0, .int 0 0, .int 0 0, .int 3 0, .ref 49, .bool true, .int 276 0, .ref 50, .none, .ref 51, .ref 52, .ref 53, .int 483 0, .int 10 0, .str (sn "/claim/cut.py") 484], #[]⟩
noncomputable def o55 (P : Params) : Obj := ⟨.type "function", none, .func (fnD 6 (.none) (.str (sn "re") 331) (.ref 54)), #[]⟩
noncomputable def o56 (P : Params) : Obj := ⟨.type "tuple", none, .seq #[] 0, #[]⟩
noncomputable def o57 (P : Params) : Obj := ⟨.none, none, .fields #[], #[]⟩
noncomputable def o58 (P : Params) : Obj := ⟨.type "tuple", none, .seq #[.str (sn "pat") 491, .str (sn "STAR") 492, .str (sn "QUESTION_MARK") 493, .str (sn "res") 494, .str (sn "add") 495, .str ⟨#[105]⟩ 496, .str ⟨#[110]⟩ 497, .str ⟨#[99]⟩ 498, .str ⟨#[106]⟩ 499, .str (sn "stuff") 500, .str (sn "chunks") 501, .str ⟨#[107]⟩ 502, .str (sn "chunk") 503] 0, #[]⟩
noncomputable def o59 (P : Params) : Obj := ⟨.type "tuple", none, .seq #[] 0, #[]⟩
noncomputable def o60 (P : Params) : Obj := ⟨.none, none, .func (fnT 8 0 0), #[]⟩
noncomputable def o61 (P : Params) : Obj := ⟨.type "code", none, .fields #[.str (sn "_translate") 488, .str (sn "_translate") 489, .str (sn "/claim/cut.py") 490, .int 17 0, .int 3 0, .int 0 0, .int 0 0, .int 3 0, .ref 56, .bool true, .int 276 0, .ref 57, .none, .ref 58, .ref 59, .ref 60, .int 504 0, .int 17 0, .str (sn "/claim/cut.py") 505], #[]⟩
noncomputable def o62 (P : Params) : Obj := ⟨.type "function", none, .func (fnD 8 (.none) (.str (sn "cpy313.fnmatch") 486) (.ref 61)), #[]⟩
noncomputable def o63 (P : Params) : Obj := ⟨.type "tuple", none, .seq #[] 0, #[]⟩
noncomputable def o64 (P : Params) : Obj := ⟨.none, none, .fields #[], #[]⟩
noncomputable def o65 (P : Params) : Obj := ⟨.type "tuple", none, .seq #[.str (sn "inp") 510, .str (sn "STAR") 511, .str (sn "res") 512, .str (sn "add") 513, .str ⟨#[105]⟩ 514, .str ⟨#[110]⟩ 515, .str (sn "fixed") 516] 0, #[]⟩
noncomputable def o66 (P : Params) : Obj := ⟨.type "tuple", none, .seq #[] 0, #[]⟩
noncomputable def o67 (P : Params) : Obj := ⟨.none, none, .func (fnT 9 0 0), #[]⟩
noncomputable def o68 (P : Params) : Obj := ⟨.type "code", none, .fields #[.str (sn "_join_translated_parts") 507, .str (sn "_join_translated_parts") 508, .str (sn "/claim/cut.py") 509, .int 79 0, .int 2 0, .int 0 0, .int 0 0, .int 3 0, .ref 63, .bool true, .int 276 0, .ref 64, .none, .ref 65, .ref 66, .ref 67, .int 517 0, .int 79 0, .str (sn "/claim/cut.py") 518], #[]⟩
noncomputable def o69 (P : Params) : Obj := ⟨.type "function", none, .func (fnD 9 (.none) (.str (sn "cpy313.fnmatch") 486) (.ref 68)), #[]⟩
noncomputable def o70 (P : Params) : Obj := ⟨.type "list", none, .seq #[.int 14 523, .int 8 524, .int 1 525, .int 3 526, .int 3 527, .int 1 528, .int 1 529, .int 61 530, .int 0 531, .int 16 532, .int 61 533, .int 24 534, .int 16 535, .int 2 536, .int 2 537, .int 13 538, .int 11 539, .int 9 540, .int 0 541, .int 67043328 542, .int 126 543, .int 126 544, .int 0 545, .int 0 546, .int 0 547, .int 0 548, .int 0 549, .int 1 550, .int 1 551] 0, #[]⟩
noncomputable def o71 (P : Params) : Obj := ⟨.type "dict", none, .dict #[] 0, #[]⟩
noncomputable def o72 (P : Params) : Obj := ⟨.type "tuple", none, .seq #[.none] 0, #[]⟩
noncomputable def o73 (P : Params) : Obj := ⟨.type "tuple", none, .seq #[.int 14 0, .int 8 0, .int 1 0, .int 3 0, .int 3 0, .int 1 0, .int 1 0, .int 61 0, .int 0 0, .int 16 0, .int 61 0, .int 24 0, .int 16 0, .int 2 0, .int 2 0, .int 13 0, .int 11 0, .int 9 0, .int 0 0, .int 67043328 0, .int 126 0, .int 126 0, .int 0 0, .int 0 0, .int 0 0, .int 0 0, .int 0 0, .int 1 0, .int 1 0] 0, #[]⟩
noncomputable def o74 (P : Params) : Obj := ⟨.type "re.Pattern", none, .fields #[.str (sn "=[a-fA-F0-9]{2}") 521, .int 256 553, .int 0 0, .none, .none, .ref 73, .int 0 0], #[]⟩
noncomputable def treeE (P : Params) : BT := .node (boot_o_0 P) (.node (o1 P) (.node (o3v2 P) (.node (boot_o_7 P) (.node (o15 P) (.node (o31 P) (.node (o63 P) (.nil) (.nil)) (.nil)) (.node (o47 P) (.nil) (.nil))) (.node (o23 P) (.node (o39 P) (.node (o71 P) (.nil) (.nil)) (.nil)) (.node (o55 P) (.nil) (.nil)))) (.node (o11v1 P) (.node (o19 P) (.node (o35 P) (.node (o67 P) (.nil) (.nil)) (.nil)) (.node (o51 P) (.nil) (.nil))) (.node (o27 P) (.node (o43 P) (.nil) (.nil)) (.node (o59 P) (.nil) (.nil))))) (.node (boot_o_5 P) (.node (boot_o_9 P) (.node (o17 P) (.node (o33 P) (.node (o65 P) (.nil) (.nil)) (.nil)) (.node (o49 P) (.nil) (.nil))) (.node (o25 P) (.node (o41 P) (.node (o73 P) (.nil) (.nil)) (.nil)) (.node (o57 P) (.nil) (.nil)))) (.node (o13 P) (.node (o21 P) (.node (o37 P) (.node (o69 P) (.nil) (.nil)) (.nil)) (.node (o53 P) (.nil) (.nil))) (.node (o29v2 P) (.node (o45 P) (.nil) (.nil)) (.node (o61 P) (.nil) (.nil)))))) (.node (o2 P) (.node (boot_o_4 P) (.node (boot_o_8 P) (.node (o16 P) (.node (o32 P) (.node (o64 P) (.nil) (.nil)) (.nil)) (.node (o48 P) (.nil) (.nil))) (.node (o24 P) (.node (o40 P) (.node (o72 P) (.nil) (.nil)) (.nil)) (.node (o56 P) (.nil) (.nil)))) (.node (o12 P) (.node (o20 P) (.node (o36 P) (.node (o68 P) (.nil) (.nil)) (.nil)) (.node (o52 P) (.nil) (.nil))) (.node (o28 P) (.node (o44 P) (.nil) (.nil)) (.node (o60 P) (.nil) (.nil))))) (.node (boot_o_6 P) (.node (boot_o_10 P) (.node (o18 P) (.node (o34 P) (.node (o66 P) (.nil) (.nil)) (.nil)) (.node (o50 P) (.nil) (.nil))) (.node (o26 P) (.node (o42 P) (.node (o74 P) (.nil) (.nil)) (.nil)) (.node (o58 P) (.nil) (.nil)))) (.node (o14 P) (.node (o22 P) (.node (o38 P) (.node (o70 P) (.nil) (.nil)) (.nil)) (.node (o54 P) (.nil) (.nil))) (.node (o30 P) (.node (o46 P) (.nil) (.nil)) (.node (o62 P) (.nil) (.nil))))))
noncomputable def o3v3 (P : Params) : Obj := ⟨.type "dict", none, .dict #[en P (sn "__name__") 165 (.str (sn "cpy313.fnmatch") 486), en P (sn "__doc__") 166 (.none), en P (sn "__package__") 167 (.none), en P (sn "__loader__") 168 (.builtin "__main__.__loader__#opaque"), en P (sn "__spec__") 169 (.none), en P (sn "__annotations__") 170 (.ref 6), en P (sn "__builtins__") 171 (.ref 4), en P (sn "__file__") 173 (.str (sn "/claim/cut.py") 172), en P (sn "__cached__") 174 (.none), en P (sn "_sre") 275 (.ref 12), en P (sn "twin_re_1_fnmatch") 321 (.ref 36), en P (sn "translate") 330 (.ref 43), en P (sn "_special_chars_map") 478 (.ref 45), en P (sn "escape") 485 (.ref 55), en P (sn "_translate") 506 (.ref 62), en P (sn "_join_translated_parts") 519 (.ref 69), en P (sn "twin_re_1_quoprimime") 554 (.ref 74), en P (sn "_QUOPRI_MAP") 1582 (.ref 77)] 18, #[]⟩
noncomputable def o75 (P : Params) : Obj := ⟨.type "range", none, .fields #[.int 0 556, .int 256 555, .int 1 557], #[]⟩
noncomputable def o76 (P : Params) : Obj := ⟨.type "range_iterator", none, .fields #[.int 256 0, .int 0 0, .int 1 0], #[]⟩
noncomputable def o77 (P : Params) : Obj := ⟨.type "list", none, .seq #[.str ⟨#[61, 48, 48]⟩ 561, .str ⟨#[61, 48, 49]⟩ 565, .str ⟨#[61, 48, 50]⟩ 569, .str ⟨#[61, 48, 51]⟩ 573, .str ⟨#[61, 48, 52]⟩ 577, .str ⟨#[61, 48, 53]⟩ 581, .str ⟨#[61, 48, 54]⟩ 585, .str ⟨#[61, 48, 55]⟩ 589, .str ⟨#[61, 48, 56]⟩ 593, .str ⟨#[61, 48, 57]⟩ 597, .str ⟨#[61, 48, 65]⟩ 601, .str ⟨#[61, 48, 66]⟩ 605, .str ⟨#[61, 48, 67]⟩ 609, .str ⟨#[61, 48, 68]⟩ 613, .str ⟨#[61, 48, 69]⟩ 617, .str ⟨#[61, 48, 70]⟩ 621, .str ⟨#[61, 49, 48]⟩ 625, .str ⟨#[61, 49, 49]⟩ 629, .str ⟨#[61, 49, 50]⟩ 633, .str ⟨#[61, 49, 51]⟩ 637, .str ⟨#[61, 49, 52]⟩ 641, .str ⟨#[61, 49, 53]⟩ 645, .str ⟨#[61, 49, 54]⟩ 649, .str ⟨#[61, 49, 55]⟩ 653, .str ⟨#[61, 49, 56]⟩ 657, .str ⟨#[61, 49, 57]⟩ 661, .str ⟨#[61, 49, 65]⟩ 665, .str ⟨#[61, 49, 66]⟩ 669, .str ⟨#[61, 49, 67]⟩ 673, .str ⟨#[61, 49, 68]⟩ 677, .str ⟨#[61, 49, 69]⟩ 681, .str ⟨#[61, 49, 70]⟩ 685, .str ⟨#[61, 50, 48]⟩ 689, .str ⟨#[61, 50, 49]⟩ 693, .str ⟨#[61, 50, 50]⟩ 697, .str ⟨#[61, 50, 51]⟩ 701, .str ⟨#[61, 50, 52]⟩ 705, .str ⟨#[61, 50, 53]⟩ 709, .str ⟨#[61, 50, 54]⟩ 713, .str ⟨#[61, 50, 55]⟩ 717, .str ⟨#[61, 50, 56]⟩ 721, .str ⟨#[61, 50, 57]⟩ 725, .str ⟨#[61, 50, 65]⟩ 729, .str ⟨#[61, 50, 66]⟩ 733, .str ⟨#[61, 50, 67]⟩ 737, .str ⟨#[61, 50, 68]⟩ 741, .str ⟨#[61, 50, 69]⟩ 745, .str ⟨#[61, 50, 70]⟩ 749, .str ⟨#[61, 51, 48]⟩ 753, .str ⟨#[61, 51, 49]⟩ 757, .str ⟨#[61, 51, 50]⟩ 761, .str ⟨#[61, 51, 51]⟩ 765, .str ⟨#[61, 51, 52]⟩ 769, .str ⟨#[61, 51, 53]⟩ 773, .str ⟨#[61, 51, 54]⟩ 777, .str ⟨#[61, 51, 55]⟩ 781, .str ⟨#[61, 51, 56]⟩ 785, .str ⟨#[61, 51, 57]⟩ 789, .str ⟨#[61, 51, 65]⟩ 793, .str ⟨#[61, 51, 66]⟩ 797, .str ⟨#[61, 51, 67]⟩ 801, .str ⟨#[61, 51, 68]⟩ 805, .str ⟨#[61, 51, 69]⟩ 809, .str ⟨#[61, 51, 70]⟩ 813, .str ⟨#[61, 52, 48]⟩ 817, .str ⟨#[61, 52, 49]⟩ 821, .str ⟨#[61, 52, 50]⟩ 825, .str ⟨#[61, 52, 51]⟩ 829, .str ⟨#[61, 52, 52]⟩ 833, .str ⟨#[61, 52, 53]⟩ 837, .str ⟨#[61, 52, 54]⟩ 841, .str ⟨#[61, 52, 55]⟩ 845, .str ⟨#[61, 52, 56]⟩ 849, .str ⟨#[61, 52, 57]⟩ 853, .str ⟨#[61, 52, 65]⟩ 857, .str ⟨#[61, 52, 66]⟩ 861, .str ⟨#[61, 52, 67]⟩ 865, .str ⟨#[61, 52, 68]⟩ 869, .str ⟨#[61, 52, 69]⟩ 873, .str ⟨#[61, 52, 70]⟩ 877, .str ⟨#[61, 53, 48]⟩ 881, .str ⟨#[61, 53, 49]⟩ 885, .str ⟨#[61, 53, 50]⟩ 889, .str ⟨#[61, 53, 51]⟩ 893, .str ⟨#[61, 53, 52]⟩ 897, .str ⟨#[61, 53, 53]⟩ 901, .str ⟨#[61, 53, 54]⟩ 905, .str ⟨#[61, 53, 55]⟩ 909, .str ⟨#[61, 53, 56]⟩ 913, .str ⟨#[61, 53, 57]⟩ 917, .str ⟨#[61, 53, 65]⟩ 921, .str ⟨#[61, 53, 66]⟩ 925, .str ⟨#[61, 53, 67]⟩ 929, .str ⟨#[61, 53, 68]⟩ 933, .str ⟨#[61, 53, 69]⟩ 937, .str ⟨#[61, 53, 70]⟩ 941, .str ⟨#[61, 54, 48]⟩ 945, .str ⟨#[61, 54, 49]⟩ 949, .str ⟨#[61, 54, 50]⟩ 953, .str ⟨#[61, 54, 51]⟩ 957, .str ⟨#[61, 54, 52]⟩ 961, .str ⟨#[61, 54, 53]⟩ 965, .str ⟨#[61, 54, 54]⟩ 969, .str ⟨#[61, 54, 55]⟩ 973, .str ⟨#[61, 54, 56]⟩ 977, .str ⟨#[61, 54, 57]⟩ 981, .str ⟨#[61, 54, 65]⟩ 985, .str ⟨#[61, 54, 66]⟩ 989, .str ⟨#[61, 54, 67]⟩ 993, .str ⟨#[61, 54, 68]⟩ 997, .str ⟨#[61, 54, 69]⟩ 1001, .str ⟨#[61, 54, 70]⟩ 1005, .str ⟨#[61, 55, 48]⟩ 1009, .str ⟨#[61, 55, 49]⟩ 1013, .str ⟨#[61, 55, 50]⟩ 1017, .str ⟨#[61, 55, 51]⟩ 1021, .str ⟨#[61, 55, 52]⟩ 1025, .str ⟨#[61, 55, 53]⟩ 1029, .str ⟨#[61, 55, 54]⟩ 1033, .str ⟨#[61, 55, 55]⟩ 1037, .str ⟨#[61, 55, 56]⟩ 1041, .str ⟨#[61, 55, 57]⟩ 1045, .str ⟨#[61, 55, 65]⟩ 1049, .str ⟨#[61, 55, 66]⟩ 1053, .str ⟨#[61, 55, 67]⟩ 1057, .str ⟨#[61, 55, 68]⟩ 1061, .str ⟨#[61, 55, 69]⟩ 1065, .str ⟨#[61, 55, 70]⟩ 1069, .str ⟨#[61, 56, 48]⟩ 1073, .str ⟨#[61, 56, 49]⟩ 1077, .str ⟨#[61, 56, 50]⟩ 1081, .str ⟨#[61, 56, 51]⟩ 1085, .str ⟨#[61, 56, 52]⟩ 1089, .str ⟨#[61, 56, 53]⟩ 1093, .str ⟨#[61, 56, 54]⟩ 1097, .str ⟨#[61, 56, 55]⟩ 1101, .str ⟨#[61, 56, 56]⟩ 1105, .str ⟨#[61, 56, 57]⟩ 1109, .str ⟨#[61, 56, 65]⟩ 1113, .str ⟨#[61, 56, 66]⟩ 1117, .str ⟨#[61, 56, 67]⟩ 1121, .str ⟨#[61, 56, 68]⟩ 1125, .str ⟨#[61, 56, 69]⟩ 1129, .str ⟨#[61, 56, 70]⟩ 1133, .str ⟨#[61, 57, 48]⟩ 1137, .str ⟨#[61, 57, 49]⟩ 1141, .str ⟨#[61, 57, 50]⟩ 1145, .str ⟨#[61, 57, 51]⟩ 1149, .str ⟨#[61, 57, 52]⟩ 1153, .str ⟨#[61, 57, 53]⟩ 1157, .str ⟨#[61, 57, 54]⟩ 1161, .str ⟨#[61, 57, 55]⟩ 1165, .str ⟨#[61, 57, 56]⟩ 1169, .str ⟨#[61, 57, 57]⟩ 1173, .str ⟨#[61, 57, 65]⟩ 1177, .str ⟨#[61, 57, 66]⟩ 1181, .str ⟨#[61, 57, 67]⟩ 1185, .str ⟨#[61, 57, 68]⟩ 1189, .str ⟨#[61, 57, 69]⟩ 1193, .str ⟨#[61, 57, 70]⟩ 1197, .str ⟨#[61, 65, 48]⟩ 1201, .str ⟨#[61, 65, 49]⟩ 1205, .str ⟨#[61, 65, 50]⟩ 1209, .str ⟨#[61, 65, 51]⟩ 1213, .str ⟨#[61, 65, 52]⟩ 1217, .str ⟨#[61, 65, 53]⟩ 1221, .str ⟨#[61, 65, 54]⟩ 1225, .str ⟨#[61, 65, 55]⟩ 1229, .str ⟨#[61, 65, 56]⟩ 1233, .str ⟨#[61, 65, 57]⟩ 1237, .str ⟨#[61, 65, 65]⟩ 1241, .str ⟨#[61, 65, 66]⟩ 1245, .str ⟨#[61, 65, 67]⟩ 1249, .str ⟨#[61, 65, 68]⟩ 1253, .str ⟨#[61, 65, 69]⟩ 1257, .str ⟨#[61, 65, 70]⟩ 1261, .str ⟨#[61, 66, 48]⟩ 1265, .str ⟨#[61, 66, 49]⟩ 1269, .str ⟨#[61, 66, 50]⟩ 1273, .str ⟨#[61, 66, 51]⟩ 1277, .str ⟨#[61, 66, 52]⟩ 1281, .str ⟨#[61, 66, 53]⟩ 1285, .str ⟨#[61, 66, 54]⟩ 1289, .str ⟨#[61, 66, 55]⟩ 1293, .str ⟨#[61, 66, 56]⟩ 1297, .str ⟨#[61, 66, 57]⟩ 1301, .str ⟨#[61, 66, 65]⟩ 1305, .str ⟨#[61, 66, 66]⟩ 1309, .str ⟨#[61, 66, 67]⟩ 1313, .str ⟨#[61, 66, 68]⟩ 1317, .str ⟨#[61, 66, 69]⟩ 1321, .str ⟨#[61, 66, 70]⟩ 1325, .str ⟨#[61, 67, 48]⟩ 1329, .str ⟨#[61, 67, 49]⟩ 1333, .str ⟨#[61, 67, 50]⟩ 1337, .str ⟨#[61, 67, 51]⟩ 1341, .str ⟨#[61, 67, 52]⟩ 1345, .str ⟨#[61, 67, 53]⟩ 1349, .str ⟨#[61, 67, 54]⟩ 1353, .str ⟨#[61, 67, 55]⟩ 1357, .str ⟨#[61, 67, 56]⟩ 1361, .str ⟨#[61, 67, 57]⟩ 1365, .str ⟨#[61, 67, 65]⟩ 1369, .str ⟨#[61, 67, 66]⟩ 1373, .str ⟨#[61, 67, 67]⟩ 1377, .str ⟨#[61, 67, 68]⟩ 1381, .str ⟨#[61, 67, 69]⟩ 1385, .str ⟨#[61, 67, 70]⟩ 1389, .str ⟨#[61, 68, 48]⟩ 1393, .str ⟨#[61, 68, 49]⟩ 1397, .str ⟨#[61, 68, 50]⟩ 1401, .str ⟨#[61, 68, 51]⟩ 1405, .str ⟨#[61, 68, 52]⟩ 1409, .str ⟨#[61, 68, 53]⟩ 1413, .str ⟨#[61, 68, 54]⟩ 1417, .str ⟨#[61, 68, 55]⟩ 1421, .str ⟨#[61, 68, 56]⟩ 1425, .str ⟨#[61, 68, 57]⟩ 1429, .str ⟨#[61, 68, 65]⟩ 1433, .str ⟨#[61, 68, 66]⟩ 1437, .str ⟨#[61, 68, 67]⟩ 1441, .str ⟨#[61, 68, 68]⟩ 1445, .str ⟨#[61, 68, 69]⟩ 1449, .str ⟨#[61, 68, 70]⟩ 1453, .str ⟨#[61, 69, 48]⟩ 1457, .str ⟨#[61, 69, 49]⟩ 1461, .str ⟨#[61, 69, 50]⟩ 1465, .str ⟨#[61, 69, 51]⟩ 1469, .str ⟨#[61, 69, 52]⟩ 1473, .str ⟨#[61, 69, 53]⟩ 1477, .str ⟨#[61, 69, 54]⟩ 1481, .str ⟨#[61, 69, 55]⟩ 1485, .str ⟨#[61, 69, 56]⟩ 1489, .str ⟨#[61, 69, 57]⟩ 1493, .str ⟨#[61, 69, 65]⟩ 1497, .str ⟨#[61, 69, 66]⟩ 1501, .str ⟨#[61, 69, 67]⟩ 1505, .str ⟨#[61, 69, 68]⟩ 1509, .str ⟨#[61, 69, 69]⟩ 1513, .str ⟨#[61, 69, 70]⟩ 1517, .str ⟨#[61, 70, 48]⟩ 1521, .str ⟨#[61, 70, 49]⟩ 1525, .str ⟨#[61, 70, 50]⟩ 1529, .str ⟨#[61, 70, 51]⟩ 1533, .str ⟨#[61, 70, 52]⟩ 1537, .str ⟨#[61, 70, 53]⟩ 1541, .str ⟨#[61, 70, 54]⟩ 1545, .str ⟨#[61, 70, 55]⟩ 1549, .str ⟨#[61, 70, 56]⟩ 1553, .str ⟨#[61, 70, 57]⟩ 1557, .str ⟨#[61, 70, 65]⟩ 1561, .str ⟨#[61, 70, 66]⟩ 1565, .str ⟨#[61, 70, 67]⟩ 1569, .str ⟨#[61, 70, 68]⟩ 1573, .str ⟨#[61, 70, 69]⟩ 1577, .str ⟨#[61, 70, 70]⟩ 1581] 256, #[]⟩
noncomputable def o78 (P : Params) : Obj := ⟨.type "dict", none, .dict #[] 2, #[]⟩
noncomputable def o79 (P : Params) : Obj := ⟨.type "tuple", none, .seq #[] 0, #[]⟩
noncomputable def o80 (P : Params) : Obj := ⟨.type "StopIteration", none, .fields #[.ref 79, .none, .none, .none, .bool false, .none], #[]⟩
noncomputable def treeB (P : Params) : BT := .node (boot_o_0 P) (.node (o1 P) (.node (o3v3 P) (.node (boot_o_7 P) (.node (o15 P) (.node (o31 P) (.node (o63 P) (.nil) (.nil)) (.nil)) (.node (o47 P) (.node (o79 P) (.nil) (.nil)) (.nil))) (.node (o23 P) (.node (o39 P) (.node (o71 P) (.nil) (.nil)) (.nil)) (.node (o55 P) (.nil) (.nil)))) (.node (o11v1 P) (.node (o19 P) (.node (o35 P) (.node (o67 P) (.nil) (.nil)) (.nil)) (.node (o51 P) (.nil) (.nil))) (.node (o27 P) (.node (o43 P) (.node (o75 P) (.nil) (.nil)) (.nil)) (.node (o59 P) (.nil) (.nil))))) (.node (boot_o_5 P) (.node (boot_o_9 P) (.node (o17 P) (.node (o33 P) (.node (o65 P) (.nil) (.nil)) (.nil)) (.node (o49 P) (.nil) (.nil))) (.node (o25 P) (.node (o41 P) (.node (o73 P) (.nil) (.nil)) (.nil)) (.node (o57 P) (.nil) (.nil)))) (.node (o13 P) (.node (o21 P) (.node (o37 P) (.node (o69 P) (.nil) (.nil)) (.nil)) (.node (o53 P) (.nil) (.nil))) (.node (o29v2 P) (.node (o45 P) (.node (o77 P) (.nil) (.nil)) (.nil)) (.node (o61 P) (.nil) (.nil)))))) (.node (o2 P) (.node (boot_o_4 P) (.node (boot_o_8 P) (.node (o16 P) (.node (o32 P) (.node (o64 P) (.nil) (.nil)) (.nil)) (.node (o48 P) (.node (o80 P) (.nil) (.nil)) (.nil))) (.node (o24 P) (.node (o40 P) (.node (o72 P) (.nil) (.nil)) (.nil)) (.node (o56 P) (.nil) (.nil)))) (.node (o12 P) (.node (o20 P) (.node (o36 P) (.node (o68 P) (.nil) (.nil)) (.nil)) (.node (o52 P) (.nil) (.nil))) (.node (o28 P) (.node (o44 P) (.node (o76 P) (.nil) (.nil)) (.nil)) (.node (o60 P) (.nil) (.nil))))) (.node (boot_o_6 P) (.node (boot_o_10 P) (.node (o18 P) (.node (o34 P) (.node (o66 P) (.nil) (.nil)) (.nil)) (.node (o50 P) (.nil) (.nil))) (.node (o26 P) (.node (o42 P) (.node (o74 P) (.nil) (.nil)) (.nil)) (.node (o58 P) (.nil) (.nil)))) (.node (o14 P) (.node (o22 P) (.node (o38 P) (.node (o70 P) (.nil) (.nil)) (.nil)) (.node (o54 P) (.nil) (.nil))) (.node (o30 P) (.node (o46 P) (.node (o78 P) (.nil) (.nil)) (.nil)) (.node (o62 P) (.nil) (.nil))))))
noncomputable def o3v4 (P : Params) : Obj := ⟨.type "dict", none, .dict #[en P (sn "__name__") 165 (.str (sn "cpy313.email.quoprimime") 1593), en P (sn "__doc__") 166 (.none), en P (sn "__package__") 167 (.none), en P (sn "__loader__") 168 (.builtin "__main__.__loader__#opaque"), en P (sn "__spec__") 169 (.none), en P (sn "__annotations__") 170 (.ref 6), en P (sn "__builtins__") 171 (.ref 4), en P (sn "__file__") 173 (.str (sn "/claim/cut.py") 172), en P (sn "__cached__") 174 (.none), en P (sn "_sre") 275 (.ref 12), en P (sn "twin_re_1_fnmatch") 321 (.ref 36), en P (sn "translate") 330 (.ref 43), en P (sn "_special_chars_map") 478 (.ref 45), en P (sn "escape") 485 (.ref 55), en P (sn "_translate") 506 (.ref 62), en P (sn "_join_translated_parts") 519 (.ref 69), en P (sn "twin_re_1_quoprimime") 554 (.ref 74), en P (sn "_QUOPRI_MAP") 1582 (.ref 77), en P (sn "_QUOPRI_HEADER_MAP") 1583 (.ref 82), en P (sn "_QUOPRI_BODY_MAP") 1584 (.ref 84), en P (sn "ascii_lowercase") 1586 (.str (sn "abcdefghijklmnopqrstuvwxyz") 1585), en P (sn "ascii_uppercase") 1588 (.str (sn "ABCDEFGHIJKLMNOPQRSTUVWXYZ") 1587), en P (sn "ascii_letters") 1590 (.str (sn "abcdefghijklmnopqrstuvwxyzABCDEFGHIJKLMNOPQRSTUVWXYZ") 1589), en P (sn "digits") 1592 (.str (sn "0123456789") 1591), en P ⟨#[99]⟩ 1603 (.int 57 1800)] 25, #[]⟩
noncomputable def o81 (P : Params) : Obj := ⟨.type "slice", none, .fields #[.none, .none, .none], #[]⟩
noncomputable def o82 (P : Params) : Obj := ⟨.type "list", none, .seq #[.str ⟨#[61, 48, 48]⟩ 561, .str ⟨#[61, 48, 49]⟩ 565, .str ⟨#[61, 48, 50]⟩ 569, .str ⟨#[61, 48, 51]⟩ 573, .str ⟨#[61, 48, 52]⟩ 577, .str ⟨#[61, 48, 53]⟩ 581, .str ⟨#[61, 48, 54]⟩ 585, .str ⟨#[61, 48, 55]⟩ 589, .str ⟨#[61, 48, 56]⟩ 593, .str ⟨#[61, 48, 57]⟩ 597, .str ⟨#[61, 48, 65]⟩ 601, .str ⟨#[61, 48, 66]⟩ 605, .str ⟨#[61, 48, 67]⟩ 609, .str ⟨#[61, 48, 68]⟩ 613, .str ⟨#[61, 48, 69]⟩ 617, .str ⟨#[61, 48, 70]⟩ 621, .str ⟨#[61, 49, 48]⟩ 625, .str ⟨#[61, 49, 49]⟩ 629, .str ⟨#[61, 49, 50]⟩ 633, .str ⟨#[61, 49, 51]⟩ 637, .str ⟨#[61, 49, 52]⟩ 641, .str ⟨#[61, 49, 53]⟩ 645, .str ⟨#[61, 49, 54]⟩ 649, .str ⟨#[61, 49, 55]⟩ 653, .str ⟨#[61, 49, 56]⟩ 657, .str ⟨#[61, 49, 57]⟩ 661, .str ⟨#[61, 49, 65]⟩ 665, .str ⟨#[61, 49, 66]⟩ 669, .str ⟨#[61, 49, 67]⟩ 673, .str ⟨#[61, 49, 68]⟩ 677, .str ⟨#[61, 49, 69]⟩ 681, .str ⟨#[61, 49, 70]⟩ 685, .str ⟨#[61, 50, 48]⟩ 689, .str ⟨#[33]⟩ 1607, .str ⟨#[61, 50, 50]⟩ 697, .str ⟨#[61, 50, 51]⟩ 701, .str ⟨#[61, 50, 52]⟩ 705, .str ⟨#[61, 50, 53]⟩ 709, .str ⟨#[61, 50, 54]⟩ 713, .str ⟨#[61, 50, 55]⟩ 717, .str ⟨#[61, 50, 56]⟩ 721, .str ⟨#[61, 50, 57]⟩ 725, .str ⟨#[42]⟩ 1610, .str ⟨#[43]⟩ 1613, .str ⟨#[61, 50, 67]⟩ 737, .str ⟨#[45]⟩ 1604, .str ⟨#[61, 50, 69]⟩ 745, .str ⟨#[47]⟩ 1616, .str ⟨#[48]⟩ 1775, .str ⟨#[49]⟩ 1778, .str ⟨#[50]⟩ 1781, .str ⟨#[51]⟩ 1784, .str ⟨#[52]⟩ 1787, .str ⟨#[53]⟩ 1790, .str ⟨#[54]⟩ 1793, .str ⟨#[55]⟩ 1796, .str ⟨#[56]⟩ 1799, .str ⟨#[57]⟩ 1802, .str ⟨#[61, 51, 65]⟩ 793, .str ⟨#[61, 51, 66]⟩ 797, .str ⟨#[61, 51, 67]⟩ 801, .str ⟨#[61, 51, 68]⟩ 805, .str ⟨#[61, 51, 69]⟩ 809, .str ⟨#[61, 51, 70]⟩ 813, .str ⟨#[61, 52, 48]⟩ 817, .str ⟨#[65]⟩ 1697, .str ⟨#[66]⟩ 1700, .str ⟨#[67]⟩ 1703, .str ⟨#[68]⟩ 1706, .str ⟨#[69]⟩ 1709, .str ⟨#[70]⟩ 1712, .str ⟨#[71]⟩ 1715, .str ⟨#[72]⟩ 1718, .str ⟨#[73]⟩ 1721, .str ⟨#[74]⟩ 1724, .str ⟨#[75]⟩ 1727, .str ⟨#[76]⟩ 1730, .str ⟨#[77]⟩ 1733, .str ⟨#[78]⟩ 1736, .str ⟨#[79]⟩ 1739, .str ⟨#[80]⟩ 1742, .str ⟨#[81]⟩ 1745, .str ⟨#[82]⟩ 1748, .str ⟨#[83]⟩ 1751, .str ⟨#[84]⟩ 1754, .str ⟨#[85]⟩ 1757, .str ⟨#[86]⟩ 1760, .str ⟨#[87]⟩ 1763, .str ⟨#[88]⟩ 1766, .str ⟨#[89]⟩ 1769, .str ⟨#[90]⟩ 1772, .str ⟨#[61, 53, 66]⟩ 925, .str ⟨#[61, 53, 67]⟩ 929, .str ⟨#[61, 53, 68]⟩ 933, .str ⟨#[61, 53, 69]⟩ 937, .str ⟨#[61, 53, 70]⟩ 941, .str ⟨#[61, 54, 48]⟩ 945, .str ⟨#[97]⟩ 1619, .str ⟨#[98]⟩ 1622, .str ⟨#[99]⟩ 1625, .str ⟨#[100]⟩ 1628, .str ⟨#[101]⟩ 1631, .str ⟨#[102]⟩ 1634, .str ⟨#[103]⟩ 1637, .str ⟨#[104]⟩ 1640, .str ⟨#[105]⟩ 1643, .str ⟨#[106]⟩ 1646, .str ⟨#[107]⟩ 1649, .str ⟨#[108]⟩ 1652, .str ⟨#[109]⟩ 1655, .str ⟨#[110]⟩ 1658, .str ⟨#[111]⟩ 1661, .str ⟨#[112]⟩ 1664, .str ⟨#[113]⟩ 1667, .str ⟨#[114]⟩ 1670, .str ⟨#[115]⟩ 1673, .str ⟨#[116]⟩ 1676, .str ⟨#[117]⟩ 1679, .str ⟨#[118]⟩ 1682, .str ⟨#[119]⟩ 1685, .str ⟨#[120]⟩ 1688, .str ⟨#[121]⟩ 1691, .str ⟨#[122]⟩ 1694, .str ⟨#[61, 55, 66]⟩ 1053, .str ⟨#[61, 55, 67]⟩ 1057, .str ⟨#[61, 55, 68]⟩ 1061, .str ⟨#[61, 55, 69]⟩ 1065, .str ⟨#[61, 55, 70]⟩ 1069, .str ⟨#[61, 56, 48]⟩ 1073, .str ⟨#[61, 56, 49]⟩ 1077, .str ⟨#[61, 56, 50]⟩ 1081, .str ⟨#[61, 56, 51]⟩ 1085, .str ⟨#[61, 56, 52]⟩ 1089, .str ⟨#[61, 56, 53]⟩ 1093, .str ⟨#[61, 56, 54]⟩ 1097, .str ⟨#[61, 56, 55]⟩ 1101, .str ⟨#[61, 56, 56]⟩ 1105, .str ⟨#[61, 56, 57]⟩ 1109, .str ⟨#[61, 56, 65]⟩ 1113, .str ⟨#[61, 56, 66]⟩ 1117, .str ⟨#[61, 56, 67]⟩ 1121, .str ⟨#[61, 56, 68]⟩ 1125, .str ⟨#[61, 56, 69]⟩ 1129, .str ⟨#[61, 56, 70]⟩ 1133, .str ⟨#[61, 57, 48]⟩ 1137, .str ⟨#[61, 57, 49]⟩ 1141, .str ⟨#[61, 57, 50]⟩ 1145, .str ⟨#[61, 57, 51]⟩ 1149, .str ⟨#[61, 57, 52]⟩ 1153, .str ⟨#[61, 57, 53]⟩ 1157, .str ⟨#[61, 57, 54]⟩ 1161, .str ⟨#[61, 57, 55]⟩ 1165, .str ⟨#[61, 57, 56]⟩ 1169, .str ⟨#[61, 57, 57]⟩ 1173, .str ⟨#[61, 57, 65]⟩ 1177, .str ⟨#[61, 57, 66]⟩ 1181, .str ⟨#[61, 57, 67]⟩ 1185, .str ⟨#[61, 57, 68]⟩ 1189, .str ⟨#[61, 57, 69]⟩ 1193, .str ⟨#[61, 57, 70]⟩ 1197, .str ⟨#[61, 65, 48]⟩ 1201, .str ⟨#[61, 65, 49]⟩ 1205, .str ⟨#[61, 65, 50]⟩ 1209, .str ⟨#[61, 65, 51]⟩ 1213, .str ⟨#[61, 65, 52]⟩ 1217, .str ⟨#[61, 65, 53]⟩ 1221, .str ⟨#[61, 65, 54]⟩ 1225, .str ⟨#[61, 65, 55]⟩ 1229, .str ⟨#[61, 65, 56]⟩ 1233, .str ⟨#[61, 65, 57]⟩ 1237, .str ⟨#[61, 65, 65]⟩ 1241, .str ⟨#[61, 65, 66]⟩ 1245, .str ⟨#[61, 65, 67]⟩ 1249, .str ⟨#[61, 65, 68]⟩ 1253, .str ⟨#[61, 65, 69]⟩ 1257, .str ⟨#[61, 65, 70]⟩ 1261, .str ⟨#[61, 66, 48]⟩ 1265, .str ⟨#[61, 66, 49]⟩ 1269, .str ⟨#[61, 66, 50]⟩ 1273, .str ⟨#[61, 66, 51]⟩ 1277, .str ⟨#[61, 66, 52]⟩ 1281, .str ⟨#[61, 66, 53]⟩ 1285, .str ⟨#[61, 66, 54]⟩ 1289, .str ⟨#[61, 66, 55]⟩ 1293, .str ⟨#[61, 66, 56]⟩ 1297, .str ⟨#[61, 66, 57]⟩ 1301, .str ⟨#[61, 66, 65]⟩ 1305, .str ⟨#[61, 66, 66]⟩ 1309, .str ⟨#[61, 66, 67]⟩ 1313, .str ⟨#[61, 66, 68]⟩ 1317, .str ⟨#[61, 66, 69]⟩ 1321, .str ⟨#[61, 66, 70]⟩ 1325, .str ⟨#[61, 67, 48]⟩ 1329, .str ⟨#[61, 67, 49]⟩ 1333, .str ⟨#[61, 67, 50]⟩ 1337, .str ⟨#[61, 67, 51]⟩ 1341, .str ⟨#[61, 67, 52]⟩ 1345, .str ⟨#[61, 67, 53]⟩ 1349, .str ⟨#[61, 67, 54]⟩ 1353, .str ⟨#[61, 67, 55]⟩ 1357, .str ⟨#[61, 67, 56]⟩ 1361, .str ⟨#[61, 67, 57]⟩ 1365, .str ⟨#[61, 67, 65]⟩ 1369, .str ⟨#[61, 67, 66]⟩ 1373, .str ⟨#[61, 67, 67]⟩ 1377, .str ⟨#[61, 67, 68]⟩ 1381, .str ⟨#[61, 67, 69]⟩ 1385, .str ⟨#[61, 67, 70]⟩ 1389, .str ⟨#[61, 68, 48]⟩ 1393, .str ⟨#[61, 68, 49]⟩ 1397, .str ⟨#[61, 68, 50]⟩ 1401, .str ⟨#[61, 68, 51]⟩ 1405, .str ⟨#[61, 68, 52]⟩ 1409, .str ⟨#[61, 68, 53]⟩ 1413, .str ⟨#[61, 68, 54]⟩ 1417, .str ⟨#[61, 68, 55]⟩ 1421, .str ⟨#[61, 68, 56]⟩ 1425, .str ⟨#[61, 68, 57]⟩ 1429, .str ⟨#[61, 68, 65]⟩ 1433, .str ⟨#[61, 68, 66]⟩ 1437, .str ⟨#[61, 68, 67]⟩ 1441, .str ⟨#[61, 68, 68]⟩ 1445, .str ⟨#[61, 68, 69]⟩ 1449, .str ⟨#[61, 68, 70]⟩ 1453, .str ⟨#[61, 69, 48]⟩ 1457, .str ⟨#[61, 69, 49]⟩ 1461, .str ⟨#[61, 69, 50]⟩ 1465, .str ⟨#[61, 69, 51]⟩ 1469, .str ⟨#[61, 69, 52]⟩ 1473, .str ⟨#[61, 69, 53]⟩ 1477, .str ⟨#[61, 69, 54]⟩ 1481, .str ⟨#[61, 69, 55]⟩ 1485, .str ⟨#[61, 69, 56]⟩ 1489, .str ⟨#[61, 69, 57]⟩ 1493, .str ⟨#[61, 69, 65]⟩ 1497, .str ⟨#[61, 69, 66]⟩ 1501, .str ⟨#[61, 69, 67]⟩ 1505, .str ⟨#[61, 69, 68]⟩ 1509, .str ⟨#[61, 69, 69]⟩ 1513, .str ⟨#[61, 69, 70]⟩ 1517, .str ⟨#[61, 70, 48]⟩ 1521, .str ⟨#[61, 70, 49]⟩ 1525, .str ⟨#[61, 70, 50]⟩ 1529, .str ⟨#[61, 70, 51]⟩ 1533, .str ⟨#[61, 70, 52]⟩ 1537, .str ⟨#[61, 70, 53]⟩ 1541, .str ⟨#[61, 70, 54]⟩ 1545, .str ⟨#[61, 70, 55]⟩ 1549, .str ⟨#[61, 70, 56]⟩ 1553, .str ⟨#[61, 70, 57]⟩ 1557, .str ⟨#[61, 70, 65]⟩ 1561, .str ⟨#[61, 70, 66]⟩ 1565, .str ⟨#[61, 70, 67]⟩ 1569, .str ⟨#[61, 70, 68]⟩ 1573, .str ⟨#[61, 70, 69]⟩ 1577, .str ⟨#[61, 70, 70]⟩ 1581] 0, #[]⟩
noncomputable def o83 (P : Params) : Obj := ⟨.type "slice", none, .fields #[.none, .none, .none], #[]⟩
noncomputable def o84 (P : Params) : Obj := ⟨.type "list", none, .seq #[.str ⟨#[61, 48, 48]⟩ 561, .str ⟨#[61, 48, 49]⟩ 565, .str ⟨#[61, 48, 50]⟩ 569, .str ⟨#[61, 48, 51]⟩ 573, .str ⟨#[61, 48, 52]⟩ 577, .str ⟨#[61, 48, 53]⟩ 581, .str ⟨#[61, 48, 54]⟩ 585, .str ⟨#[61, 48, 55]⟩ 589, .str ⟨#[61, 48, 56]⟩ 593, .str ⟨#[61, 48, 57]⟩ 597, .str ⟨#[61, 48, 65]⟩ 601, .str ⟨#[61, 48, 66]⟩ 605, .str ⟨#[61, 48, 67]⟩ 609, .str ⟨#[61, 48, 68]⟩ 613, .str ⟨#[61, 48, 69]⟩ 617, .str ⟨#[61, 48, 70]⟩ 621, .str ⟨#[61, 49, 48]⟩ 625, .str ⟨#[61, 49, 49]⟩ 629, .str ⟨#[61, 49, 50]⟩ 633, .str ⟨#[61, 49, 51]⟩ 637, .str ⟨#[61, 49, 52]⟩ 641, .str ⟨#[61, 49, 53]⟩ 645, .str ⟨#[61, 49, 54]⟩ 649, .str ⟨#[61, 49, 55]⟩ 653, .str ⟨#[61, 49, 56]⟩ 657, .str ⟨#[61, 49, 57]⟩ 661, .str ⟨#[61, 49, 65]⟩ 665, .str ⟨#[61, 49, 66]⟩ 669, .str ⟨#[61, 49, 67]⟩ 673, .str ⟨#[61, 49, 68]⟩ 677, .str ⟨#[61, 49, 69]⟩ 681, .str ⟨#[61, 49, 70]⟩ 685, .str ⟨#[61, 50, 48]⟩ 689, .str ⟨#[61, 50, 49]⟩ 693, .str ⟨#[61, 50, 50]⟩ 697, .str ⟨#[61, 50, 51]⟩ 701, .str ⟨#[61, 50, 52]⟩ 705, .str ⟨#[61, 50, 53]⟩ 709, .str ⟨#[61, 50, 54]⟩ 713, .str ⟨#[61, 50, 55]⟩ 717, .str ⟨#[61, 50, 56]⟩ 721, .str ⟨#[61, 50, 57]⟩ 725, .str ⟨#[61, 50, 65]⟩ 729, .str ⟨#[61, 50, 66]⟩ 733, .str ⟨#[61, 50, 67]⟩ 737, .str ⟨#[61, 50, 68]⟩ 741, .str ⟨#[61, 50, 69]⟩ 745, .str ⟨#[61, 50, 70]⟩ 749, .str ⟨#[61, 51, 48]⟩ 753, .str ⟨#[61, 51, 49]⟩ 757, .str ⟨#[61, 51, 50]⟩ 761, .str ⟨#[61, 51, 51]⟩ 765, .str ⟨#[61, 51, 52]⟩ 769, .str ⟨#[61, 51, 53]⟩ 773, .str ⟨#[61, 51, 54]⟩ 777, .str ⟨#[61, 51, 55]⟩ 781, .str ⟨#[61, 51, 56]⟩ 785, .str ⟨#[61, 51, 57]⟩ 789, .str ⟨#[61, 51, 65]⟩ 793, .str ⟨#[61, 51, 66]⟩ 797, .str ⟨#[61, 51, 67]⟩ 801, .str ⟨#[61, 51, 68]⟩ 805, .str ⟨#[61, 51, 69]⟩ 809, .str ⟨#[61, 51, 70]⟩ 813, .str ⟨#[61, 52, 48]⟩ 817, .str ⟨#[61, 52, 49]⟩ 821, .str ⟨#[61, 52, 50]⟩ 825, .str ⟨#[61, 52, 51]⟩ 829, .str ⟨#[61, 52, 52]⟩ 833, .str ⟨#[61, 52, 53]⟩ 837, .str ⟨#[61, 52, 54]⟩ 841, .str ⟨#[61, 52, 55]⟩ 845, .str ⟨#[61, 52, 56]⟩ 849, .str ⟨#[61, 52, 57]⟩ 853, .str ⟨#[61, 52, 65]⟩ 857, .str ⟨#[61, 52, 66]⟩ 861, .str ⟨#[61, 52, 67]⟩ 865, .str ⟨#[61, 52, 68]⟩ 869, .str ⟨#[61, 52, 69]⟩ 873, .str ⟨#[61, 52, 70]⟩ 877, .str ⟨#[61, 53, 48]⟩ 881, .str ⟨#[61, 53, 49]⟩ 885, .str ⟨#[61, 53, 50]⟩ 889, .str ⟨#[61, 53, 51]⟩ 893, .str ⟨#[61, 53, 52]⟩ 897, .str ⟨#[61, 53, 53]⟩ 901, .str ⟨#[61, 53, 54]⟩ 905, .str ⟨#[61, 53, 55]⟩ 909, .str ⟨#[61, 53, 56]⟩ 913, .str ⟨#[61, 53, 57]⟩ 917, .str ⟨#[61, 53, 65]⟩ 921, .str ⟨#[61, 53, 66]⟩ 925, .str ⟨#[61, 53, 67]⟩ 929, .str ⟨#[61, 53, 68]⟩ 933, .str ⟨#[61, 53, 69]⟩ 937, .str ⟨#[61, 53, 70]⟩ 941, .str ⟨#[61, 54, 48]⟩ 945, .str ⟨#[61, 54, 49]⟩ 949, .str ⟨#[61, 54, 50]⟩ 953, .str ⟨#[61, 54, 51]⟩ 957, .str ⟨#[61, 54, 52]⟩ 961, .str ⟨#[61, 54, 53]⟩ 965, .str ⟨#[61, 54, 54]⟩ 969, .str ⟨#[61, 54, 55]⟩ 973, .str ⟨#[61, 54, 56]⟩ 977, .str ⟨#[61, 54, 57]⟩ 981, .str ⟨#[61, 54, 65]⟩ 985, .str ⟨#[61, 54, 66]⟩ 989, .str ⟨#[61, 54, 67]⟩ 993, .str ⟨#[61, 54, 68]⟩ 997, .str ⟨#[61, 54, 69]⟩ 1001, .str ⟨#[61, 54, 70]⟩ 1005, .str ⟨#[61, 55, 48]⟩ 1009, .str ⟨#[61, 55, 49]⟩ 1013, .str ⟨#[61, 55, 50]⟩ 1017, .str ⟨#[61, 55, 51]⟩ 1021, .str ⟨#[61, 55, 52]⟩ 1025, .str ⟨#[61, 55, 53]⟩ 1029, .str ⟨#[61, 55, 54]⟩ 1033, .str ⟨#[61, 55, 55]⟩ 1037, .str ⟨#[61, 55, 56]⟩ 1041, .str ⟨#[61, 55, 57]⟩ 1045, .str ⟨#[61, 55, 65]⟩ 1049, .str ⟨#[61, 55, 66]⟩ 1053, .str ⟨#[61, 55, 67]⟩ 1057, .str ⟨#[61, 55, 68]⟩ 1061, .str ⟨#[61, 55, 69]⟩ 1065, .str ⟨#[61, 55, 70]⟩ 1069, .str ⟨#[61, 56, 48]⟩ 1073, .str ⟨#[61, 56, 49]⟩ 1077, .str ⟨#[61, 56, 50]⟩ 1081, .str ⟨#[61, 56, 51]⟩ 1085, .str ⟨#[61, 56, 52]⟩ 1089, .str ⟨#[61, 56, 53]⟩ 1093, .str ⟨#[61, 56, 54]⟩ 1097, .str ⟨#[61, 56, 55]⟩ 1101, .str ⟨#[61, 56, 56]⟩ 1105, .str ⟨#[61, 56, 57]⟩ 1109, .str ⟨#[61, 56, 65]⟩ 1113, .str ⟨#[61, 56, 66]⟩ 1117, .str ⟨#[61, 56, 67]⟩ 1121, .str ⟨#[61, 56, 68]⟩ 1125, .str ⟨#[61, 56, 69]⟩ 1129, .str ⟨#[61, 56, 70]⟩ 1133, .str ⟨#[61, 57, 48]⟩ 1137, .str ⟨#[61, 57, 49]⟩ 1141, .str ⟨#[61, 57, 50]⟩ 1145, .str ⟨#[61, 57, 51]⟩ 1149, .str ⟨#[61, 57, 52]⟩ 1153, .str ⟨#[61, 57, 53]⟩ 1157, .str ⟨#[61, 57, 54]⟩ 1161, .str ⟨#[61, 57, 55]⟩ 1165, .str ⟨#[61, 57, 56]⟩ 1169, .str ⟨#[61, 57, 57]⟩ 1173, .str ⟨#[61, 57, 65]⟩ 1177, .str ⟨#[61, 57, 66]⟩ 1181, .str ⟨#[61, 57, 67]⟩ 1185, .str ⟨#[61, 57, 68]⟩ 1189, .str ⟨#[61, 57, 69]⟩ 1193, .str ⟨#[61, 57, 70]⟩ 1197, .str ⟨#[61, 65, 48]⟩ 1201, .str ⟨#[61, 65, 49]⟩ 1205, .str ⟨#[61, 65, 50]⟩ 1209, .str ⟨#[61, 65, 51]⟩ 1213, .str ⟨#[61, 65, 52]⟩ 1217, .str ⟨#[61, 65, 53]⟩ 1221, .str ⟨#[61, 65, 54]⟩ 1225, .str ⟨#[61, 65, 55]⟩ 1229, .str ⟨#[61, 65, 56]⟩ 1233, .str ⟨#[61, 65, 57]⟩ 1237, .str ⟨#[61, 65, 65]⟩ 1241, .str ⟨#[61, 65, 66]⟩ 1245, .str ⟨#[61, 65, 67]⟩ 1249, .str ⟨#[61, 65, 68]⟩ 1253, .str ⟨#[61, 65, 69]⟩ 1257, .str ⟨#[61, 65, 70]⟩ 1261, .str ⟨#[61, 66, 48]⟩ 1265, .str ⟨#[61, 66, 49]⟩ 1269, .str ⟨#[61, 66, 50]⟩ 1273, .str ⟨#[61, 66, 51]⟩ 1277, .str ⟨#[61, 66, 52]⟩ 1281, .str ⟨#[61, 66, 53]⟩ 1285, .str ⟨#[61, 66, 54]⟩ 1289, .str ⟨#[61, 66, 55]⟩ 1293, .str ⟨#[61, 66, 56]⟩ 1297, .str ⟨#[61, 66, 57]⟩ 1301, .str ⟨#[61, 66, 65]⟩ 1305, .str ⟨#[61, 66, 66]⟩ 1309, .str ⟨#[61, 66, 67]⟩ 1313, .str ⟨#[61, 66, 68]⟩ 1317, .str ⟨#[61, 66, 69]⟩ 1321, .str ⟨#[61, 66, 70]⟩ 1325, .str ⟨#[61, 67, 48]⟩ 1329, .str ⟨#[61, 67, 49]⟩ 1333, .str ⟨#[61, 67, 50]⟩ 1337, .str ⟨#[61, 67, 51]⟩ 1341, .str ⟨#[61, 67, 52]⟩ 1345, .str ⟨#[61, 67, 53]⟩ 1349, .str ⟨#[61, 67, 54]⟩ 1353, .str ⟨#[61, 67, 55]⟩ 1357, .str ⟨#[61, 67, 56]⟩ 1361, .str ⟨#[61, 67, 57]⟩ 1365, .str ⟨#[61, 67, 65]⟩ 1369, .str ⟨#[61, 67, 66]⟩ 1373, .str ⟨#[61, 67, 67]⟩ 1377, .str ⟨#[61, 67, 68]⟩ 1381, .str ⟨#[61, 67, 69]⟩ 1385, .str ⟨#[61, 67, 70]⟩ 1389, .str ⟨#[61, 68, 48]⟩ 1393, .str ⟨#[61, 68, 49]⟩ 1397, .str ⟨#[61, 68, 50]⟩ 1401, .str ⟨#[61, 68, 51]⟩ 1405, .str ⟨#[61, 68, 52]⟩ 1409, .str ⟨#[61, 68, 53]⟩ 1413, .str ⟨#[61, 68, 54]⟩ 1417, .str ⟨#[61, 68, 55]⟩ 1421, .str ⟨#[61, 68, 56]⟩ 1425, .str ⟨#[61, 68, 57]⟩ 1429, .str ⟨#[61, 68, 65]⟩ 1433, .str ⟨#[61, 68, 66]⟩ 1437, .str ⟨#[61, 68, 67]⟩ 1441, .str ⟨#[61, 68, 68]⟩ 1445, .str ⟨#[61, 68, 69]⟩ 1449, .str ⟨#[61, 68, 70]⟩ 1453, .str ⟨#[61, 69, 48]⟩ 1457, .str ⟨#[61, 69, 49]⟩ 1461, .str ⟨#[61, 69, 50]⟩ 1465, .str ⟨#[61, 69, 51]⟩ 1469, .str ⟨#[61, 69, 52]⟩ 1473, .str ⟨#[61, 69, 53]⟩ 1477, .str ⟨#[61, 69, 54]⟩ 1481, .str ⟨#[61, 69, 55]⟩ 1485, .str ⟨#[61, 69, 56]⟩ 1489, .str ⟨#[61, 69, 57]⟩ 1493, .str ⟨#[61, 69, 65]⟩ 1497, .str ⟨#[61, 69, 66]⟩ 1501, .str ⟨#[61, 69, 67]⟩ 1505, .str ⟨#[61, 69, 68]⟩ 1509, .str ⟨#[61, 69, 69]⟩ 1513, .str ⟨#[61, 69, 70]⟩ 1517, .str ⟨#[61, 70, 48]⟩ 1521, .str ⟨#[61, 70, 49]⟩ 1525, .str ⟨#[61, 70, 50]⟩ 1529, .str ⟨#[61, 70, 51]⟩ 1533, .str ⟨#[61, 70, 52]⟩ 1537, .str ⟨#[61, 70, 53]⟩ 1541, .str ⟨#[61, 70, 54]⟩ 1545, .str ⟨#[61, 70, 55]⟩ 1549, .str ⟨#[61, 70, 56]⟩ 1553, .str ⟨#[61, 70, 57]⟩ 1557, .str ⟨#[61, 70, 65]⟩ 1561, .str ⟨#[61, 70, 66]⟩ 1565, .str ⟨#[61, 70, 67]⟩ 1569, .str ⟨#[61, 70, 68]⟩ 1573, .str ⟨#[61, 70, 69]⟩ 1577, .str ⟨#[61, 70, 70]⟩ 1581] 0, #[]⟩
noncomputable def o85 (P : Params) : Obj := ⟨.type "bytes_iterator", none, .fields #[.none, .int 67 0], #[]⟩
noncomputable def o86 (P : Params) : Obj := ⟨.type "tuple", none, .seq #[] 0, #[]⟩
noncomputable def o87 (P : Params) : Obj := ⟨.type "StopIteration", none, .fields #[.ref 86, .none, .none, .none, .bool false, .none], #[]⟩
noncomputable def treeC (P : Params) : BT := .node (boot_o_0 P) (.node (o1 P) (.node (o3v4 P) (.node (boot_o_7 P) (.node (o15 P) (.node (o31 P) (.node (o63 P) (.nil) (.nil)) (.nil)) (.node (o47 P) (.node (o79 P) (.nil) (.nil)) (.nil))) (.node (o23 P) (.node (o39 P) (.node (o71 P) (.nil) (.nil)) (.nil)) (.node (o55 P) (.node (o87 P) (.nil) (.nil)) (.nil)))) (.node (o11v1 P) (.node (o19 P) (.node (o35 P) (.node (o67 P) (.nil) (.nil)) (.nil)) (.node (o51 P) (.node (o83 P) (.nil) (.nil)) (.nil))) (.node (o27 P) (.node (o43 P) (.node (o75 P) (.nil) (.nil)) (.nil)) (.node (o59 P) (.nil) (.nil))))) (.node (boot_o_5 P) (.node (boot_o_9 P) (.node (o17 P) (.node (o33 P) (.node (o65 P) (.nil) (.nil)) (.nil)) (.node (o49 P) (.node (o81 P) (.nil) (.nil)) (.nil))) (.node (o25 P) (.node (o41 P) (.node (o73 P) (.nil) (.nil)) (.nil)) (.node (o57 P) (.nil) (.nil)))) (.node (o13 P) (.node (o21 P) (.node (o37 P) (.node (o69 P) (.nil) (.nil)) (.nil)) (.node (o53 P) (.node (o85 P) (.nil) (.nil)) (.nil))) (.node (o29v2 P) (.node (o45 P) (.node (o77 P) (.nil) (.nil)) (.nil)) (.node (o61 P) (.nil) (.nil)))))) (.node (o2 P) (.node (boot_o_4 P) (.node (boot_o_8 P) (.node (o16 P) (.node (o32 P) (.node (o64 P) (.nil) (.nil)) (.nil)) (.node (o48 P) (.node (o80 P) (.nil) (.nil)) (.nil))) (.node (o24 P) (.node (o40 P) (.node (o72 P) (.nil) (.nil)) (.nil)) (.node (o56 P) (.nil) (.nil)))) (.node (o12 P) (.node (o20 P) (.node (o36 P) (.node (o68 P) (.nil) (.nil)) (.nil)) (.node (o52 P) (.node (o84 P) (.nil) (.nil)) (.nil))) (.node (o28 P) (.node (o44 P) (.node (o76 P) (.nil) (.nil)) (.nil)) (.node (o60 P) (.nil) (.nil))))) (.node (boot_o_6 P) (.node (boot_o_10 P) (.node (o18 P) (.node (o34 P) (.node (o66 P) (.nil) (.nil)) (.nil)) (.node (o50 P) (.node (o82 P) (.nil) (.nil)) (.nil))) (.node (o26 P) (.node (o42 P) (.node (o74 P) (.nil) (.nil)) (.nil)) (.node (o58 P) (.nil) (.nil)))) (.node (o14 P) (.node (o22 P) (.node (o38 P) (.node (o70 P) (.nil) (.nil)) (.nil)) (.node (o54 P) (.node (o86 P) (.nil) (.nil)) (.nil))) (.node (o30 P) (.node (o46 P) (.node (o78 P) (.nil) (.nil)) (.nil)) (.node (o62 P) (.nil) (.nil))))))
noncomputable def o3v5 (P : Params) : Obj := ⟨.type "dict", none, .dict #[en P (sn "__name__") 165 (.str (sn "cpy313.email.quoprimime") 1593), en P (sn "__doc__") 166 (.none), en P (sn "__package__") 167 (.none), en P (sn "__loader__") 168 (.builtin "__main__.__loader__#opaque"), en P (sn "__spec__") 169 (.none), en P (sn "__annotations__") 170 (.ref 6), en P (sn "__builtins__") 171 (.ref 4), en P (sn "__file__") 173 (.str (sn "/claim/cut.py") 172), en P (sn "__cached__") 174 (.none), en P (sn "_sre") 275 (.ref 12), en P (sn "twin_re_1_fnmatch") 321 (.ref 36), en P (sn "translate") 330 (.ref 43), en P (sn "_special_chars_map") 478 (.ref 45), en P (sn "escape") 485 (.ref 55), en P (sn "_translate") 506 (.ref 62), en P (sn "_join_translated_parts") 519 (.ref 69), en P (sn "twin_re_1_quoprimime") 554 (.ref 74), en P (sn "_QUOPRI_MAP") 1582 (.ref 77), en P (sn "_QUOPRI_HEADER_MAP") 1583 (.ref 82), en P (sn "_QUOPRI_BODY_MAP") 1584 (.ref 84), en P (sn "ascii_lowercase") 1586 (.str (sn "abcdefghijklmnopqrstuvwxyz") 1585), en P (sn "ascii_uppercase") 1588 (.str (sn "ABCDEFGHIJKLMNOPQRSTUVWXYZ") 1587), en P (sn "ascii_letters") 1590 (.str (sn "abcdefghijklmnopqrstuvwxyzABCDEFGHIJKLMNOPQRSTUVWXYZ") 1589), en P (sn "digits") 1592 (.str (sn "0123456789") 1591), en P ⟨#[99]⟩ 1603 (.int 9 2089)] 25, #[]⟩
noncomputable def o82v1 (P : Params) : Obj := ⟨.type "list", none, .seq #[.str ⟨#[61, 48, 48]⟩ 561, .str ⟨#[61, 48, 49]⟩ 565, .str ⟨#[61, 48, 50]⟩ 569, .str ⟨#[61, 48, 51]⟩ 573, .str ⟨#[61, 48, 52]⟩ 577, .str ⟨#[61, 48, 53]⟩ 581, .str ⟨#[61, 48, 54]⟩ 585, .str ⟨#[61, 48, 55]⟩ 589, .str ⟨#[61, 48, 56]⟩ 593, .str ⟨#[61, 48, 57]⟩ 597, .str ⟨#[61, 48, 65]⟩ 601, .str ⟨#[61, 48, 66]⟩ 605, .str ⟨#[61, 48, 67]⟩ 609, .str ⟨#[61, 48, 68]⟩ 613, .str ⟨#[61, 48, 69]⟩ 617, .str ⟨#[61, 48, 70]⟩ 621, .str ⟨#[61, 49, 48]⟩ 625, .str ⟨#[61, 49, 49]⟩ 629, .str ⟨#[61, 49, 50]⟩ 633, .str ⟨#[61, 49, 51]⟩ 637, .str ⟨#[61, 49, 52]⟩ 641, .str ⟨#[61, 49, 53]⟩ 645, .str ⟨#[61, 49, 54]⟩ 649, .str ⟨#[61, 49, 55]⟩ 653, .str ⟨#[61, 49, 56]⟩ 657, .str ⟨#[61, 49, 57]⟩ 661, .str ⟨#[61, 49, 65]⟩ 665, .str ⟨#[61, 49, 66]⟩ 669, .str ⟨#[61, 49, 67]⟩ 673, .str ⟨#[61, 49, 68]⟩ 677, .str ⟨#[61, 49, 69]⟩ 681, .str ⟨#[61, 49, 70]⟩ 685, .str ⟨#[95]⟩ 1803, .str ⟨#[33]⟩ 1607, .str ⟨#[61, 50, 50]⟩ 697, .str ⟨#[61, 50, 51]⟩ 701, .str ⟨#[61, 50, 52]⟩ 705, .str ⟨#[61, 50, 53]⟩ 709, .str ⟨#[61, 50, 54]⟩ 713, .str ⟨#[61, 50, 55]⟩ 717, .str ⟨#[61, 50, 56]⟩ 721, .str ⟨#[61, 50, 57]⟩ 725, .str ⟨#[42]⟩ 1610, .str ⟨#[43]⟩ 1613, .str ⟨#[61, 50, 67]⟩ 737, .str ⟨#[45]⟩ 1604, .str ⟨#[61, 50, 69]⟩ 745, .str ⟨#[47]⟩ 1616, .str ⟨#[48]⟩ 1775, .str ⟨#[49]⟩ 1778, .str ⟨#[50]⟩ 1781, .str ⟨#[51]⟩ 1784, .str ⟨#[52]⟩ 1787, .str ⟨#[53]⟩ 1790, .str ⟨#[54]⟩ 1793, .str ⟨#[55]⟩ 1796, .str ⟨#[56]⟩ 1799, .str ⟨#[57]⟩ 1802, .str ⟨#[61, 51, 65]⟩ 793, .str ⟨#[61, 51, 66]⟩ 797, .str ⟨#[61, 51, 67]⟩ 801, .str ⟨#[61, 51, 68]⟩ 805, .str ⟨#[61, 51, 69]⟩ 809, .str ⟨#[61, 51, 70]⟩ 813, .str ⟨#[61, 52, 48]⟩ 817, .str ⟨#[65]⟩ 1697, .str ⟨#[66]⟩ 1700, .str ⟨#[67]⟩ 1703, .str ⟨#[68]⟩ 1706, .str ⟨#[69]⟩ 1709, .str ⟨#[70]⟩ 1712, .str ⟨#[71]⟩ 1715, .str ⟨#[72]⟩ 1718, .str ⟨#[73]⟩ 1721, .str ⟨#[74]⟩ 1724, .str ⟨#[75]⟩ 1727, .str ⟨#[76]⟩ 1730, .str ⟨#[77]⟩ 1733, .str ⟨#[78]⟩ 1736, .str ⟨#[79]⟩ 1739, .str ⟨#[80]⟩ 1742, .str ⟨#[81]⟩ 1745, .str ⟨#[82]⟩ 1748, .str ⟨#[83]⟩ 1751, .str ⟨#[84]⟩ 1754, .str ⟨#[85]⟩ 1757, .str ⟨#[86]⟩ 1760, .str ⟨#[87]⟩ 1763, .str ⟨#[88]⟩ 1766, .str ⟨#[89]⟩ 1769, .str ⟨#[90]⟩ 1772, .str ⟨#[61, 53, 66]⟩ 925, .str ⟨#[61, 53, 67]⟩ 929, .str ⟨#[61, 53, 68]⟩ 933, .str ⟨#[61, 53, 69]⟩ 937, .str ⟨#[61, 53, 70]⟩ 941, .str ⟨#[61, 54, 48]⟩ 945, .str ⟨#[97]⟩ 1619, .str ⟨#[98]⟩ 1622, .str ⟨#[99]⟩ 1625, .str ⟨#[100]⟩ 1628, .str ⟨#[101]⟩ 1631, .str ⟨#[102]⟩ 1634, .str ⟨#[103]⟩ 1637, .str ⟨#[104]⟩ 1640, .str ⟨#[105]⟩ 1643, .str ⟨#[106]⟩ 1646, .str ⟨#[107]⟩ 1649, .str ⟨#[108]⟩ 1652, .str ⟨#[109]⟩ 1655, .str ⟨#[110]⟩ 1658, .str ⟨#[111]⟩ 1661, .str ⟨#[112]⟩ 1664, .str ⟨#[113]⟩ 1667, .str ⟨#[114]⟩ 1670, .str ⟨#[115]⟩ 1673, .str ⟨#[116]⟩ 1676, .str ⟨#[117]⟩ 1679, .str ⟨#[118]⟩ 1682, .str ⟨#[119]⟩ 1685, .str ⟨#[120]⟩ 1688, .str ⟨#[121]⟩ 1691, .str ⟨#[122]⟩ 1694, .str ⟨#[61, 55, 66]⟩ 1053, .str ⟨#[61, 55, 67]⟩ 1057, .str ⟨#[61, 55, 68]⟩ 1061, .str ⟨#[61, 55, 69]⟩ 1065, .str ⟨#[61, 55, 70]⟩ 1069, .str ⟨#[61, 56, 48]⟩ 1073, .str ⟨#[61, 56, 49]⟩ 1077, .str ⟨#[61, 56, 50]⟩ 1081, .str ⟨#[61, 56, 51]⟩ 1085, .str ⟨#[61, 56, 52]⟩ 1089, .str ⟨#[61, 56, 53]⟩ 1093, .str ⟨#[61, 56, 54]⟩ 1097, .str ⟨#[61, 56, 55]⟩ 1101, .str ⟨#[61, 56, 56]⟩ 1105, .str ⟨#[61, 56, 57]⟩ 1109, .str ⟨#[61, 56, 65]⟩ 1113, .str ⟨#[61, 56, 66]⟩ 1117, .str ⟨#[61, 56, 67]⟩ 1121, .str ⟨#[61, 56, 68]⟩ 1125, .str ⟨#[61, 56, 69]⟩ 1129, .str ⟨#[61, 56, 70]⟩ 1133, .str ⟨#[61, 57, 48]⟩ 1137, .str ⟨#[61, 57, 49]⟩ 1141, .str ⟨#[61, 57, 50]⟩ 1145, .str ⟨#[61, 57, 51]⟩ 1149, .str ⟨#[61, 57, 52]⟩ 1153, .str ⟨#[61, 57, 53]⟩ 1157, .str ⟨#[61, 57, 54]⟩ 1161, .str ⟨#[61, 57, 55]⟩ 1165, .str ⟨#[61, 57, 56]⟩ 1169, .str ⟨#[61, 57, 57]⟩ 1173, .str ⟨#[61, 57, 65]⟩ 1177, .str ⟨#[61, 57, 66]⟩ 1181, .str ⟨#[61, 57, 67]⟩ 1185, .str ⟨#[61, 57, 68]⟩ 1189, .str ⟨#[61, 57, 69]⟩ 1193, .str ⟨#[61, 57, 70]⟩ 1197, .str ⟨#[61, 65, 48]⟩ 1201, .str ⟨#[61, 65, 49]⟩ 1205, .str ⟨#[61, 65, 50]⟩ 1209, .str ⟨#[61, 65, 51]⟩ 1213, .str ⟨#[61, 65, 52]⟩ 1217, .str ⟨#[61, 65, 53]⟩ 1221, .str ⟨#[61, 65, 54]⟩ 1225, .str ⟨#[61, 65, 55]⟩ 1229, .str ⟨#[61, 65, 56]⟩ 1233, .str ⟨#[61, 65, 57]⟩ 1237, .str ⟨#[61, 65, 65]⟩ 1241, .str ⟨#[61, 65, 66]⟩ 1245, .str ⟨#[61, 65, 67]⟩ 1249, .str ⟨#[61, 65, 68]⟩ 1253, .str ⟨#[61, 65, 69]⟩ 1257, .str ⟨#[61, 65, 70]⟩ 1261, .str ⟨#[61, 66, 48]⟩ 1265, .str ⟨#[61, 66, 49]⟩ 1269, .str ⟨#[61, 66, 50]⟩ 1273, .str ⟨#[61, 66, 51]⟩ 1277, .str ⟨#[61, 66, 52]⟩ 1281, .str ⟨#[61, 66, 53]⟩ 1285, .str ⟨#[61, 66, 54]⟩ 1289, .str ⟨#[61, 66, 55]⟩ 1293, .str ⟨#[61, 66, 56]⟩ 1297, .str ⟨#[61, 66, 57]⟩ 1301, .str ⟨#[61, 66, 65]⟩ 1305, .str ⟨#[61, 66, 66]⟩ 1309, .str ⟨#[61, 66, 67]⟩ 1313, .str ⟨#[61, 66, 68]⟩ 1317, .str ⟨#[61, 66, 69]⟩ 1321, .str ⟨#[61, 66, 70]⟩ 1325, .str ⟨#[61, 67, 48]⟩ 1329, .str ⟨#[61, 67, 49]⟩ 1333, .str ⟨#[61, 67, 50]⟩ 1337, .str ⟨#[61, 67, 51]⟩ 1341, .str ⟨#[61, 67, 52]⟩ 1345, .str ⟨#[61, 67, 53]⟩ 1349, .str ⟨#[61, 67, 54]⟩ 1353, .str ⟨#[61, 67, 55]⟩ 1357, .str ⟨#[61, 67, 56]⟩ 1361, .str ⟨#[61, 67, 57]⟩ 1365, .str ⟨#[61, 67, 65]⟩ 1369, .str ⟨#[61, 67, 66]⟩ 1373, .str ⟨#[61, 67, 67]⟩ 1377, .str ⟨#[61, 67, 68]⟩ 1381, .str ⟨#[61, 67, 69]⟩ 1385, .str ⟨#[61, 67, 70]⟩ 1389, .str ⟨#[61, 68, 48]⟩ 1393, .str ⟨#[61, 68, 49]⟩ 1397, .str ⟨#[61, 68, 50]⟩ 1401, .str ⟨#[61, 68, 51]⟩ 1405, .str ⟨#[61, 68, 52]⟩ 1409, .str ⟨#[61, 68, 53]⟩ 1413, .str ⟨#[61, 68, 54]⟩ 1417, .str ⟨#[61, 68, 55]⟩ 1421, .str ⟨#[61, 68, 56]⟩ 1425, .str ⟨#[61, 68, 57]⟩ 1429, .str ⟨#[61, 68, 65]⟩ 1433, .str ⟨#[61, 68, 66]⟩ 1437, .str ⟨#[61, 68, 67]⟩ 1441, .str ⟨#[61, 68, 68]⟩ 1445, .str ⟨#[61, 68, 69]⟩ 1449, .str ⟨#[61, 68, 70]⟩ 1453, .str ⟨#[61, 69, 48]⟩ 1457, .str ⟨#[61, 69, 49]⟩ 1461, .str ⟨#[61, 69, 50]⟩ 1465, .str ⟨#[61, 69, 51]⟩ 1469, .str ⟨#[61, 69, 52]⟩ 1473, .str ⟨#[61, 69, 53]⟩ 1477, .str ⟨#[61, 69, 54]⟩ 1481, .str ⟨#[61, 69, 55]⟩ 1485, .str ⟨#[61, 69, 56]⟩ 1489, .str ⟨#[61, 69, 57]⟩ 1493, .str ⟨#[61, 69, 65]⟩ 1497, .str ⟨#[61, 69, 66]⟩ 1501, .str ⟨#[61, 69, 67]⟩ 1505, .str ⟨#[61, 69, 68]⟩ 1509, .str ⟨#[61, 69, 69]⟩ 1513, .str ⟨#[61, 69, 70]⟩ 1517, .str ⟨#[61, 70, 48]⟩ 1521, .str ⟨#[61, 70, 49]⟩ 1525, .str ⟨#[61, 70, 50]⟩ 1529, .str ⟨#[61, 70, 51]⟩ 1533, .str ⟨#[61, 70, 52]⟩ 1537, .str ⟨#[61, 70, 53]⟩ 1541, .str ⟨#[61, 70, 54]⟩ 1545, .str ⟨#[61, 70, 55]⟩ 1549, .str ⟨#[61, 70, 56]⟩ 1553, .str ⟨#[61, 70, 57]⟩ 1557, .str ⟨#[61, 70, 65]⟩ 1561, .str ⟨#[61, 70, 66]⟩ 1565, .str ⟨#[61, 70, 67]⟩ 1569, .str ⟨#[61, 70, 68]⟩ 1573, .str ⟨#[61, 70, 69]⟩ 1577, .str ⟨#[61, 70, 70]⟩ 1581] 0, #[]⟩
noncomputable def o84v1 (P : Params) : Obj := ⟨.type "list", none, .seq #[.str ⟨#[61, 48, 48]⟩ 561, .str ⟨#[61, 48, 49]⟩ 565, .str ⟨#[61, 48, 50]⟩ 569, .str ⟨#[61, 48, 51]⟩ 573, .str ⟨#[61, 48, 52]⟩ 577, .str ⟨#[61, 48, 53]⟩ 581, .str ⟨#[61, 48, 54]⟩ 585, .str ⟨#[61, 48, 55]⟩ 589, .str ⟨#[61, 48, 56]⟩ 593, .str ⟨#[9]⟩ 2091, .str ⟨#[61, 48, 65]⟩ 601, .str ⟨#[61, 48, 66]⟩ 605, .str ⟨#[61, 48, 67]⟩ 609, .str ⟨#[61, 48, 68]⟩ 613, .str ⟨#[61, 48, 69]⟩ 617, .str ⟨#[61, 48, 70]⟩ 621, .str ⟨#[61, 49, 48]⟩ 625, .str ⟨#[61, 49, 49]⟩ 629, .str ⟨#[61, 49, 50]⟩ 633, .str ⟨#[61, 49, 51]⟩ 637, .str ⟨#[61, 49, 52]⟩ 641, .str ⟨#[61, 49, 53]⟩ 645, .str ⟨#[61, 49, 54]⟩ 649, .str ⟨#[61, 49, 55]⟩ 653, .str ⟨#[61, 49, 56]⟩ 657, .str ⟨#[61, 49, 57]⟩ 661, .str ⟨#[61, 49, 65]⟩ 665, .str ⟨#[61, 49, 66]⟩ 669, .str ⟨#[61, 49, 67]⟩ 673, .str ⟨#[61, 49, 68]⟩ 677, .str ⟨#[61, 49, 69]⟩ 681, .str ⟨#[61, 49, 70]⟩ 685, .str ⟨#[32]⟩ 1809, .str ⟨#[33]⟩ 1812, .str ⟨#[34]⟩ 1815, .str ⟨#[35]⟩ 1818, .str ⟨#[36]⟩ 1821, .str ⟨#[37]⟩ 1824, .str ⟨#[38]⟩ 1827, .str ⟨#[39]⟩ 1830, .str ⟨#[40]⟩ 1833, .str ⟨#[41]⟩ 1836, .str ⟨#[42]⟩ 1839, .str ⟨#[43]⟩ 1842, .str ⟨#[44]⟩ 1845, .str ⟨#[45]⟩ 1848, .str ⟨#[46]⟩ 1851, .str ⟨#[47]⟩ 1854, .str ⟨#[48]⟩ 1857, .str ⟨#[49]⟩ 1860, .str ⟨#[50]⟩ 1863, .str ⟨#[51]⟩ 1866, .str ⟨#[52]⟩ 1869, .str ⟨#[53]⟩ 1872, .str ⟨#[54]⟩ 1875, .str ⟨#[55]⟩ 1878, .str ⟨#[56]⟩ 1881, .str ⟨#[57]⟩ 1884, .str ⟨#[58]⟩ 1887, .str ⟨#[59]⟩ 1890, .str ⟨#[60]⟩ 1893, .str ⟨#[61, 51, 68]⟩ 805, .str ⟨#[62]⟩ 1896, .str ⟨#[63]⟩ 1899, .str ⟨#[64]⟩ 1902, .str ⟨#[65]⟩ 1905, .str ⟨#[66]⟩ 1908, .str ⟨#[67]⟩ 1911, .str ⟨#[68]⟩ 1914, .str ⟨#[69]⟩ 1917, .str ⟨#[70]⟩ 1920, .str ⟨#[71]⟩ 1923, .str ⟨#[72]⟩ 1926, .str ⟨#[73]⟩ 1929, .str ⟨#[74]⟩ 1932, .str ⟨#[75]⟩ 1935, .str ⟨#[76]⟩ 1938, .str ⟨#[77]⟩ 1941, .str ⟨#[78]⟩ 1944, .str ⟨#[79]⟩ 1947, .str ⟨#[80]⟩ 1950, .str ⟨#[81]⟩ 1953, .str ⟨#[82]⟩ 1956, .str ⟨#[83]⟩ 1959, .str ⟨#[84]⟩ 1962, .str ⟨#[85]⟩ 1965, .str ⟨#[86]⟩ 1968, .str ⟨#[87]⟩ 1971, .str ⟨#[88]⟩ 1974, .str ⟨#[89]⟩ 1977, .str ⟨#[90]⟩ 1980, .str ⟨#[91]⟩ 1983, .str ⟨#[92]⟩ 1986, .str ⟨#[93]⟩ 1989, .str ⟨#[94]⟩ 1992, .str ⟨#[95]⟩ 1995, .str ⟨#[96]⟩ 1998, .str ⟨#[97]⟩ 2001, .str ⟨#[98]⟩ 2004, .str ⟨#[99]⟩ 2007, .str ⟨#[100]⟩ 2010, .str ⟨#[101]⟩ 2013, .str ⟨#[102]⟩ 2016, .str ⟨#[103]⟩ 2019, .str ⟨#[104]⟩ 2022, .str ⟨#[105]⟩ 2025, .str ⟨#[106]⟩ 2028, .str ⟨#[107]⟩ 2031, .str ⟨#[108]⟩ 2034, .str ⟨#[109]⟩ 2037, .str ⟨#[110]⟩ 2040, .str ⟨#[111]⟩ 2043, .str ⟨#[112]⟩ 2046, .str ⟨#[113]⟩ 2049, .str ⟨#[114]⟩ 2052, .str ⟨#[115]⟩ 2055, .str ⟨#[116]⟩ 2058, .str ⟨#[117]⟩ 2061, .str ⟨#[118]⟩ 2064, .str ⟨#[119]⟩ 2067, .str ⟨#[120]⟩ 2070, .str ⟨#[121]⟩ 2073, .str ⟨#[122]⟩ 2076, .str ⟨#[123]⟩ 2079, .str ⟨#[124]⟩ 2082, .str ⟨#[125]⟩ 2085, .str ⟨#[126]⟩ 2088, .str ⟨#[61, 55, 70]⟩ 1069, .str ⟨#[61, 56, 48]⟩ 1073, .str ⟨#[61, 56, 49]⟩ 1077, .str ⟨#[61, 56, 50]⟩ 1081, .str ⟨#[61, 56, 51]⟩ 1085, .str ⟨#[61, 56, 52]⟩ 1089, .str ⟨#[61, 56, 53]⟩ 1093, .str ⟨#[61, 56, 54]⟩ 1097, .str ⟨#[61, 56, 55]⟩ 1101, .str ⟨#[61, 56, 56]⟩ 1105, .str ⟨#[61, 56, 57]⟩ 1109, .str ⟨#[61, 56, 65]⟩ 1113, .str ⟨#[61, 56, 66]⟩ 1117, .str ⟨#[61, 56, 67]⟩ 1121, .str ⟨#[61, 56, 68]⟩ 1125, .str ⟨#[61, 56, 69]⟩ 1129, .str ⟨#[61, 56, 70]⟩ 1133, .str ⟨#[61, 57, 48]⟩ 1137, .str ⟨#[61, 57, 49]⟩ 1141, .str ⟨#[61, 57, 50]⟩ 1145, .str ⟨#[61, 57, 51]⟩ 1149, .str ⟨#[61, 57, 52]⟩ 1153, .str ⟨#[61, 57, 53]⟩ 1157, .str ⟨#[61, 57, 54]⟩ 1161, .str ⟨#[61, 57, 55]⟩ 1165, .str ⟨#[61, 57, 56]⟩ 1169, .str ⟨#[61, 57, 57]⟩ 1173, .str ⟨#[61, 57, 65]⟩ 1177, .str ⟨#[61, 57, 66]⟩ 1181, .str ⟨#[61, 57, 67]⟩ 1185, .str ⟨#[61, 57, 68]⟩ 1189, .str ⟨#[61, 57, 69]⟩ 1193, .str ⟨#[61, 57, 70]⟩ 1197, .str ⟨#[61, 65, 48]⟩ 1201, .str ⟨#[61, 65, 49]⟩ 1205, .str ⟨#[61, 65, 50]⟩ 1209, .str ⟨#[61, 65, 51]⟩ 1213, .str ⟨#[61, 65, 52]⟩ 1217, .str ⟨#[61, 65, 53]⟩ 1221, .str ⟨#[61, 65, 54]⟩ 1225, .str ⟨#[61, 65, 55]⟩ 1229, .str ⟨#[61, 65, 56]⟩ 1233, .str ⟨#[61, 65, 57]⟩ 1237, .str ⟨#[61, 65, 65]⟩ 1241, .str ⟨#[61, 65, 66]⟩ 1245, .str ⟨#[61, 65, 67]⟩ 1249, .str ⟨#[61, 65, 68]⟩ 1253, .str ⟨#[61, 65, 69]⟩ 1257, .str ⟨#[61, 65, 70]⟩ 1261, .str ⟨#[61, 66, 48]⟩ 1265, .str ⟨#[61, 66, 49]⟩ 1269, .str ⟨#[61, 66, 50]⟩ 1273, .str ⟨#[61, 66, 51]⟩ 1277, .str ⟨#[61, 66, 52]⟩ 1281, .str ⟨#[61, 66, 53]⟩ 1285, .str ⟨#[61, 66, 54]⟩ 1289, .str ⟨#[61, 66, 55]⟩ 1293, .str ⟨#[61, 66, 56]⟩ 1297, .str ⟨#[61, 66, 57]⟩ 1301, .str ⟨#[61, 66, 65]⟩ 1305, .str ⟨#[61, 66, 66]⟩ 1309, .str ⟨#[61, 66, 67]⟩ 1313, .str ⟨#[61, 66, 68]⟩ 1317, .str ⟨#[61, 66, 69]⟩ 1321, .str ⟨#[61, 66, 70]⟩ 1325, .str ⟨#[61, 67, 48]⟩ 1329, .str ⟨#[61, 67, 49]⟩ 1333, .str ⟨#[61, 67, 50]⟩ 1337, .str ⟨#[61, 67, 51]⟩ 1341, .str ⟨#[61, 67, 52]⟩ 1345, .str ⟨#[61, 67, 53]⟩ 1349, .str ⟨#[61, 67, 54]⟩ 1353, .str ⟨#[61, 67, 55]⟩ 1357, .str ⟨#[61, 67, 56]⟩ 1361, .str ⟨#[61, 67, 57]⟩ 1365, .str ⟨#[61, 67, 65]⟩ 1369, .str ⟨#[61, 67, 66]⟩ 1373, .str ⟨#[61, 67, 67]⟩ 1377, .str ⟨#[61, 67, 68]⟩ 1381, .str ⟨#[61, 67, 69]⟩ 1385, .str ⟨#[61, 67, 70]⟩ 1389, .str ⟨#[61, 68, 48]⟩ 1393, .str ⟨#[61, 68, 49]⟩ 1397, .str ⟨#[61, 68, 50]⟩ 1401, .str ⟨#[61, 68, 51]⟩ 1405, .str ⟨#[61, 68, 52]⟩ 1409, .str ⟨#[61, 68, 53]⟩ 1413, .str ⟨#[61, 68, 54]⟩ 1417, .str ⟨#[61, 68, 55]⟩ 1421, .str ⟨#[61, 68, 56]⟩ 1425, .str ⟨#[61, 68, 57]⟩ 1429, .str ⟨#[61, 68, 65]⟩ 1433, .str ⟨#[61, 68, 66]⟩ 1437, .str ⟨#[61, 68, 67]⟩ 1441, .str ⟨#[61, 68, 68]⟩ 1445, .str ⟨#[61, 68, 69]⟩ 1449, .str ⟨#[61, 68, 70]⟩ 1453, .str ⟨#[61, 69, 48]⟩ 1457, .str ⟨#[61, 69, 49]⟩ 1461, .str ⟨#[61, 69, 50]⟩ 1465, .str ⟨#[61, 69, 51]⟩ 1469, .str ⟨#[61, 69, 52]⟩ 1473, .str ⟨#[61, 69, 53]⟩ 1477, .str ⟨#[61, 69, 54]⟩ 1481, .str ⟨#[61, 69, 55]⟩ 1485, .str ⟨#[61, 69, 56]⟩ 1489, .str ⟨#[61, 69, 57]⟩ 1493, .str ⟨#[61, 69, 65]⟩ 1497, .str ⟨#[61, 69, 66]⟩ 1501, .str ⟨#[61, 69, 67]⟩ 1505, .str ⟨#[61, 69, 68]⟩ 1509, .str ⟨#[61, 69, 69]⟩ 1513, .str ⟨#[61, 69, 70]⟩ 1517, .str ⟨#[61, 70, 48]⟩ 1521, .str ⟨#[61, 70, 49]⟩ 1525, .str ⟨#[61, 70, 50]⟩ 1529, .str ⟨#[61, 70, 51]⟩ 1533, .str ⟨#[61, 70, 52]⟩ 1537, .str ⟨#[61, 70, 53]⟩ 1541, .str ⟨#[61, 70, 54]⟩ 1545, .str ⟨#[61, 70, 55]⟩ 1549, .str ⟨#[61, 70, 56]⟩ 1553, .str ⟨#[61, 70, 57]⟩ 1557, .str ⟨#[61, 70, 65]⟩ 1561, .str ⟨#[61, 70, 66]⟩ 1565, .str ⟨#[61, 70, 67]⟩ 1569, .str ⟨#[61, 70, 68]⟩ 1573, .str ⟨#[61, 70, 69]⟩ 1577, .str ⟨#[61, 70, 70]⟩ 1581] 0, #[]⟩
noncomputable def o88 (P : Params) : Obj := ⟨.type "bytes_iterator", none, .fields #[.none, .int 95 0], #[]⟩
noncomputable def o89 (P : Params) : Obj := ⟨.type "tuple", none, .seq #[] 0, #[]⟩
noncomputable def o90 (P : Params) : Obj := ⟨.type "StopIteration", none, .fields #[.ref 89, .none, .none, .none, .bool false, .none], #[]⟩
noncomputable def treeD (P : Params) : BT := .node (boot_o_0 P) (.node (o1 P) (.node (o3v5 P) (.node (boot_o_7 P) (.node (o15 P) (.node (o31 P) (.node (o63 P) (.nil) (.nil)) (.nil)) (.node (o47 P) (.node (o79 P) (.nil) (.nil)) (.nil))) (.node (o23 P) (.node (o39 P) (.node (o71 P) (.nil) (.nil)) (.nil)) (.node (o55 P) (.node (o87 P) (.nil) (.nil)) (.nil)))) (.node (o11v1 P) (.node (o19 P) (.node (o35 P) (.node (o67 P) (.nil) (.nil)) (.nil)) (.node (o51 P) (.node (o83 P) (.nil) (.nil)) (.nil))) (.node (o27 P) (.node (o43 P) (.node (o75 P) (.nil) (.nil)) (.nil)) (.node (o59 P) (.nil) (.nil))))) (.node (boot_o_5 P) (.node (boot_o_9 P) (.node (o17 P) (.node (o33 P) (.node (o65 P) (.nil) (.nil)) (.nil)) (.node (o49 P) (.node (o81 P) (.nil) (.nil)) (.nil))) (.node (o25 P) (.node (o41 P) (.node (o73 P) (.nil) (.nil)) (.nil)) (.node (o57 P) (.node (o89 P) (.nil) (.nil)) (.nil)))) (.node (o13 P) (.node (o21 P) (.node (o37 P) (.node (o69 P) (.nil) (.nil)) (.nil)) (.node (o53 P) (.node (o85 P) (.nil) (.nil)) (.nil))) (.node (o29v2 P) (.node (o45 P) (.node (o77 P) (.nil) (.nil)) (.nil)) (.node (o61 P) (.nil) (.nil)))))) (.node (o2 P) (.node (boot_o_4 P) (.node (boot_o_8 P) (.node (o16 P) (.node (o32 P) (.node (o64 P) (.nil) (.nil)) (.nil)) (.node (o48 P) (.node (o80 P) (.nil) (.nil)) (.nil))) (.node (o24 P) (.node (o40 P) (.node (o72 P) (.nil) (.nil)) (.nil)) (.node (o56 P) (.node (o88 P) (.nil) (.nil)) (.nil)))) (.node (o12 P) (.node (o20 P) (.node (o36 P) (.node (o68 P) (.nil) (.nil)) (.nil)) (.node (o52 P) (.node (o84v1 P) (.nil) (.nil)) (.nil))) (.node (o28 P) (.node (o44 P) (.node (o76 P) (.nil) (.nil)) (.nil)) (.node (o60 P) (.nil) (.nil))))) (.node (boot_o_6 P) (.node (boot_o_10 P) (.node (o18 P) (.node (o34 P) (.node (o66 P) (.nil) (.nil)) (.nil)) (.node (o50 P) (.node (o82v1 P) (.nil) (.nil)) (.nil))) (.node (o26 P) (.node (o42 P) (.node (o74 P) (.nil) (.nil)) (.nil)) (.node (o58 P) (.node (o90 P) (.nil) (.nil)) (.nil)))) (.node (o14 P) (.node (o22 P) (.node (o38 P) (.node (o70 P) (.nil) (.nil)) (.nil)) (.node (o54 P) (.node (o86 P) (.nil) (.nil)) (.nil))) (.node (o30 P) (.node (o46 P) (.node (o78 P) (.nil) (.nil)) (.nil)) (.node (o62 P) (.nil) (.nil))))))
noncomputable def o3v6 (P : Params) : Obj := ⟨.type "dict", none, .dict #[en P (sn "__name__") 165 (.str (sn "law_in0170_01") 2217), en P (sn "__doc__") 166 (.none), en P (sn "__package__") 167 (.none), en P (sn "__loader__") 168 (.builtin "__main__.__loader__#opaque"), en P (sn "__spec__") 169 (.none), en P (sn "__annotations__") 170 (.ref 6), en P (sn "__builtins__") 171 (.ref 4), en P (sn "__file__") 173 (.str (sn "/claim/cut.py") 172), en P (sn "__cached__") 174 (.none), en P (sn "_sre") 275 (.ref 12), en P (sn "twin_re_1_fnmatch") 321 (.ref 36), en P (sn "translate") 330 (.ref 43), en P (sn "_special_chars_map") 478 (.ref 45), en P (sn "escape") 485 (.ref 55), en P (sn "_translate") 506 (.ref 62), en P (sn "_join_translated_parts") 519 (.ref 69), en P (sn "twin_re_1_quoprimime") 554 (.ref 74), en P (sn "_QUOPRI_MAP") 1582 (.ref 77), en P (sn "_QUOPRI_HEADER_MAP") 1583 (.ref 82), en P (sn "_QUOPRI_BODY_MAP") 1584 (.ref 84), en P (sn "ascii_lowercase") 1586 (.str (sn "abcdefghijklmnopqrstuvwxyz") 1585), en P (sn "ascii_uppercase") 1588 (.str (sn "ABCDEFGHIJKLMNOPQRSTUVWXYZ") 1587), en P (sn "ascii_letters") 1590 (.str (sn "abcdefghijklmnopqrstuvwxyzABCDEFGHIJKLMNOPQRSTUVWXYZ") 1589), en P (sn "digits") 1592 (.str (sn "0123456789") 1591), en P (sn "unquote") 2098 (.ref 97), en P (sn "header_encode") 2108 (.ref 105), en P (sn "_QUOPRI_BODY_ENCODE_MAP") 2109 (.ref 107), en P (sn "_unquote_match") 2124 (.ref 117), en P (sn "header_decode") 2131 (.ref 124), en P (sn "S_IFMT") 2140 (.ref 131), en P (sn "S_IFDIR") 2142 (.int 16384 2141), en P (sn "S_IFCHR") 2144 (.int 8192 2143), en P (sn "S_IFBLK") 2146 (.int 24576 2145), en P (sn "S_IFREG") 2148 (.int 32768 2147), en P (sn "S_IFIFO") 2150 (.int 4096 2149), en P (sn "S_IFLNK") 2152 (.int 40960 2151), en P (sn "S_IFSOCK") 2154 (.int 49152 2153), en P (sn "S_ISUID") 2156 (.int 2048 2155), en P (sn "S_ISGID") 2158 (.int 1024 2157), en P (sn "S_ISVTX") 2160 (.int 512 2159), en P (sn "S_IRUSR") 2162 (.int 256 2161), en P (sn "S_IWUSR") 2164 (.int 128 2163), en P (sn "S_IXUSR") 2166 (.int 64 2165), en P (sn "S_IRGRP") 2168 (.int 32 2167), en P (sn "S_IWGRP") 2170 (.int 16 2169), en P (sn "S_IXGRP") 2172 (.int 8 2171), en P (sn "S_IROTH") 2174 (.int 4 2173), en P (sn "S_IWOTH") 2176 (.int 2 2175), en P (sn "S_IXOTH") 2178 (.int 1 2177), en P (sn "_filemode_table") 2204 (.ref 164), en P (sn "filemode") 2216 (.ref 171), en P (sn "_law_listed") 2230 (.ref 178), en P (sn "_law_read") 2236 (.ref 183), en P (sn "_law_fits") 2246 (.ref 190), en P (sn "_law_takes") 2257 (.ref 197), en P (sn "_law_runs") 2263 (.ref 202), en P (sn "_law_told") 2275 (.ref 209), en P (sn "_law_p") 2281 (.ref 214), en P (sn "_law_q") 2294 (.ref 221), en P (sn "_law_word") 2300 (.ref 226), en P (sn "_law_run") 2313 (.ref 233), en P (sn "law") 2319 (.ref 238)] 64, #[]⟩
noncomputable def o29v3 (P : Params) : Obj := ⟨.none, none, .fields #[.int 4 0, .int 0 0, .ref 42, .int 10 0, .int 0 0, .ref 54, .int 17 0, .int 0 0, .ref 61, .int 79 0, .int 0 0, .ref 68, .int 120 0, .int 0 0, .ref 96, .int 122 0, .int 0 0, .ref 104, .int 131 0, .int 0 0, .ref 116, .int 134 0, .int 0 0, .ref 123, .int 138 0, .int 0 0, .ref 130, .int 160 0, .int 0 0, .ref 170, .int 178 0, .int 0 0, .ref 177, .int 185 0, .int 0 0, .ref 182, .int 213 0, .int 0 0, .ref 189, .int 220 0, .int 0 0, .ref 196, .int 232 0, .int 0 0, .ref 201, .int 235 0, .int 0 0, .ref 208, .int 250 0, .int 0 0, .ref 213, .int 252 0, .int 0 0, .ref 220, .int 263 0, .int 0 0, .ref 225, .int 271 0, .int 0 0, .ref 232, .int 281 0, .int 0 0, .ref 237], #[]⟩
noncomputable def o91 (P : Params) : Obj := ⟨.type "tuple", none, .seq #[] 0, #[]⟩
noncomputable def o92 (P : Params) : Obj := ⟨.none, none, .fields #[], #[]⟩
noncomputable def o93 (P : Params) : Obj := ⟨.type "tuple", none, .seq #[.str ⟨#[115]⟩ 2095] 0, #[]⟩
noncomputable def o94 (P : Params) : Obj := ⟨.type "tuple", none, .seq #[] 0, #[]⟩
noncomputable def o95 (P : Params) : Obj := ⟨.none, none, .func (fnT 22 0 0), #[]⟩
noncomputable def o96 (P : Params) : Obj := ⟨.type "code", none, .fields #[.str (sn "unquote") 2092, .str (sn "unquote") 2093, .str (sn "/claim/cut.py") 2094, .int 120 0, .int 1 0, .int 0 0, .int 0 0, .int 3 0, .ref 91, .bool true, .int 276 0, .ref 92, .none, .ref 93, .ref 94, .ref 95, .int 2096 0, .int 120 0, .str (sn "/claim/cut.py") 2097], #[]⟩
noncomputable def o97 (P : Params) : Obj := ⟨.type "function", none, .func (fnD 22 (.none) (.str (sn "cpy313.email.quoprimime") 1593) (.ref 96)), #[]⟩
noncomputable def o98 (P : Params) : Obj := ⟨.type "tuple", none, .seq #[.str (sn "iso-8859-1") 2099] 0, #[]⟩
noncomputable def o99 (P : Params) : Obj := ⟨.type "tuple", none, .seq #[] 0, #[]⟩
noncomputable def o100 (P : Params) : Obj := ⟨.none, none, .fields #[], #[]⟩
noncomputable def o101 (P : Params) : Obj := ⟨.type "tuple", none, .seq #[.str (sn "header_bytes") 2103, .str (sn "charset") 2104, .str (sn "encoded") 2105] 0, #[]⟩
noncomputable def o102 (P : Params) : Obj := ⟨.type "tuple", none, .seq #[] 0, #[]⟩
noncomputable def o103 (P : Params) : Obj := ⟨.none, none, .func (fnT 23 0 0), #[]⟩
noncomputable def o104 (P : Params) : Obj := ⟨.type "code", none, .fields #[.str (sn "header_encode") 2100, .str (sn "header_encode") 2101, .str (sn "/claim/cut.py") 2102, .int 122 0, .int 2 0, .int 0 0, .int 0 0, .int 3 0, .ref 99, .bool true, .int 276 0, .ref 100, .none, .ref 101, .ref 102, .ref 103, .int 2106 0, .int 122 0, .str (sn "/claim/cut.py") 2107], #[]⟩
noncomputable def o105 (P : Params) : Obj := ⟨.type "function", none, .func (fnD 23 (.ref 98) (.str (sn "cpy313.email.quoprimime") 1593) (.ref 104)), #[]⟩
noncomputable def o106 (P : Params) : Obj := ⟨.type "slice", none, .fields #[.none, .none, .none], #[]⟩
noncomputable def o107 (P : Params) : Obj := ⟨.type "list", none, .seq #[.str ⟨#[61, 48, 48]⟩ 561, .str ⟨#[61, 48, 49]⟩ 565, .str ⟨#[61, 48, 50]⟩ 569, .str ⟨#[61, 48, 51]⟩ 573, .str ⟨#[61, 48, 52]⟩ 577, .str ⟨#[61, 48, 53]⟩ 581, .str ⟨#[61, 48, 54]⟩ 585, .str ⟨#[61, 48, 55]⟩ 589, .str ⟨#[61, 48, 56]⟩ 593, .str ⟨#[9]⟩ 2091, .str ⟨#[10]⟩ 2116, .str ⟨#[61, 48, 66]⟩ 605, .str ⟨#[61, 48, 67]⟩ 609, .str ⟨#[13]⟩ 2113, .str ⟨#[61, 48, 69]⟩ 617, .str ⟨#[61, 48, 70]⟩ 621, .str ⟨#[61, 49, 48]⟩ 625, .str ⟨#[61, 49, 49]⟩ 629, .str ⟨#[61, 49, 50]⟩ 633, .str ⟨#[61, 49, 51]⟩ 637, .str ⟨#[61, 49, 52]⟩ 641, .str ⟨#[61, 49, 53]⟩ 645, .str ⟨#[61, 49, 54]⟩ 649, .str ⟨#[61, 49, 55]⟩ 653, .str ⟨#[61, 49, 56]⟩ 657, .str ⟨#[61, 49, 57]⟩ 661, .str ⟨#[61, 49, 65]⟩ 665, .str ⟨#[61, 49, 66]⟩ 669, .str ⟨#[61, 49, 67]⟩ 673, .str ⟨#[61, 49, 68]⟩ 677, .str ⟨#[61, 49, 69]⟩ 681, .str ⟨#[61, 49, 70]⟩ 685, .str ⟨#[32]⟩ 1809, .str ⟨#[33]⟩ 1812, .str ⟨#[34]⟩ 1815, .str ⟨#[35]⟩ 1818, .str ⟨#[36]⟩ 1821, .str ⟨#[37]⟩ 1824, .str ⟨#[38]⟩ 1827, .str ⟨#[39]⟩ 1830, .str ⟨#[40]⟩ 1833, .str ⟨#[41]⟩ 1836, .str ⟨#[42]⟩ 1839, .str ⟨#[43]⟩ 1842, .str ⟨#[44]⟩ 1845, .str ⟨#[45]⟩ 1848, .str ⟨#[46]⟩ 1851, .str ⟨#[47]⟩ 1854, .str ⟨#[48]⟩ 1857, .str ⟨#[49]⟩ 1860, .str ⟨#[50]⟩ 1863, .str ⟨#[51]⟩ 1866, .str ⟨#[52]⟩ 1869, .str ⟨#[53]⟩ 1872, .str ⟨#[54]⟩ 1875, .str ⟨#[55]⟩ 1878, .str ⟨#[56]⟩ 1881, .str ⟨#[57]⟩ 1884, .str ⟨#[58]⟩ 1887, .str ⟨#[59]⟩ 1890, .str ⟨#[60]⟩ 1893, .str ⟨#[61, 51, 68]⟩ 805, .str ⟨#[62]⟩ 1896, .str ⟨#[63]⟩ 1899, .str ⟨#[64]⟩ 1902, .str ⟨#[65]⟩ 1905, .str ⟨#[66]⟩ 1908, .str ⟨#[67]⟩ 1911, .str ⟨#[68]⟩ 1914, .str ⟨#[69]⟩ 1917, .str ⟨#[70]⟩ 1920, .str ⟨#[71]⟩ 1923, .str ⟨#[72]⟩ 1926, .str ⟨#[73]⟩ 1929, .str ⟨#[74]⟩ 1932, .str ⟨#[75]⟩ 1935, .str ⟨#[76]⟩ 1938, .str ⟨#[77]⟩ 1941, .str ⟨#[78]⟩ 1944, .str ⟨#[79]⟩ 1947, .str ⟨#[80]⟩ 1950, .str ⟨#[81]⟩ 1953, .str ⟨#[82]⟩ 1956, .str ⟨#[83]⟩ 1959, .str ⟨#[84]⟩ 1962, .str ⟨#[85]⟩ 1965, .str ⟨#[86]⟩ 1968, .str ⟨#[87]⟩ 1971, .str ⟨#[88]⟩ 1974, .str ⟨#[89]⟩ 1977, .str ⟨#[90]⟩ 1980, .str ⟨#[91]⟩ 1983, .str ⟨#[92]⟩ 1986, .str ⟨#[93]⟩ 1989, .str ⟨#[94]⟩ 1992, .str ⟨#[95]⟩ 1995, .str ⟨#[96]⟩ 1998, .str ⟨#[97]⟩ 2001, .str ⟨#[98]⟩ 2004, .str ⟨#[99]⟩ 2007, .str ⟨#[100]⟩ 2010, .str ⟨#[101]⟩ 2013, .str ⟨#[102]⟩ 2016, .str ⟨#[103]⟩ 2019, .str ⟨#[104]⟩ 2022, .str ⟨#[105]⟩ 2025, .str ⟨#[106]⟩ 2028, .str ⟨#[107]⟩ 2031, .str ⟨#[108]⟩ 2034, .str ⟨#[109]⟩ 2037, .str ⟨#[110]⟩ 2040, .str ⟨#[111]⟩ 2043, .str ⟨#[112]⟩ 2046, .str ⟨#[113]⟩ 2049, .str ⟨#[114]⟩ 2052, .str ⟨#[115]⟩ 2055, .str ⟨#[116]⟩ 2058, .str ⟨#[117]⟩ 2061, .str ⟨#[118]⟩ 2064, .str ⟨#[119]⟩ 2067, .str ⟨#[120]⟩ 2070, .str ⟨#[121]⟩ 2073, .str ⟨#[122]⟩ 2076, .str ⟨#[123]⟩ 2079, .str ⟨#[124]⟩ 2082, .str ⟨#[125]⟩ 2085, .str ⟨#[126]⟩ 2088, .str ⟨#[61, 55, 70]⟩ 1069, .str ⟨#[61, 56, 48]⟩ 1073, .str ⟨#[61, 56, 49]⟩ 1077, .str ⟨#[61, 56, 50]⟩ 1081, .str ⟨#[61, 56, 51]⟩ 1085, .str ⟨#[61, 56, 52]⟩ 1089, .str ⟨#[61, 56, 53]⟩ 1093, .str ⟨#[61, 56, 54]⟩ 1097, .str ⟨#[61, 56, 55]⟩ 1101, .str ⟨#[61, 56, 56]⟩ 1105, .str ⟨#[61, 56, 57]⟩ 1109, .str ⟨#[61, 56, 65]⟩ 1113, .str ⟨#[61, 56, 66]⟩ 1117, .str ⟨#[61, 56, 67]⟩ 1121, .str ⟨#[61, 56, 68]⟩ 1125, .str ⟨#[61, 56, 69]⟩ 1129, .str ⟨#[61, 56, 70]⟩ 1133, .str ⟨#[61, 57, 48]⟩ 1137, .str ⟨#[61, 57, 49]⟩ 1141, .str ⟨#[61, 57, 50]⟩ 1145, .str ⟨#[61, 57, 51]⟩ 1149, .str ⟨#[61, 57, 52]⟩ 1153, .str ⟨#[61, 57, 53]⟩ 1157, .str ⟨#[61, 57, 54]⟩ 1161, .str ⟨#[61, 57, 55]⟩ 1165, .str ⟨#[61, 57, 56]⟩ 1169, .str ⟨#[61, 57, 57]⟩ 1173, .str ⟨#[61, 57, 65]⟩ 1177, .str ⟨#[61, 57, 66]⟩ 1181, .str ⟨#[61, 57, 67]⟩ 1185, .str ⟨#[61, 57, 68]⟩ 1189, .str ⟨#[61, 57, 69]⟩ 1193, .str ⟨#[61, 57, 70]⟩ 1197, .str ⟨#[61, 65, 48]⟩ 1201, .str ⟨#[61, 65, 49]⟩ 1205, .str ⟨#[61, 65, 50]⟩ 1209, .str ⟨#[61, 65, 51]⟩ 1213, .str ⟨#[61, 65, 52]⟩ 1217, .str ⟨#[61, 65, 53]⟩ 1221, .str ⟨#[61, 65, 54]⟩ 1225, .str ⟨#[61, 65, 55]⟩ 1229, .str ⟨#[61, 65, 56]⟩ 1233, .str ⟨#[61, 65, 57]⟩ 1237, .str ⟨#[61, 65, 65]⟩ 1241, .str ⟨#[61, 65, 66]⟩ 1245, .str ⟨#[61, 65, 67]⟩ 1249, .str ⟨#[61, 65, 68]⟩ 1253, .str ⟨#[61, 65, 69]⟩ 1257, .str ⟨#[61, 65, 70]⟩ 1261, .str ⟨#[61, 66, 48]⟩ 1265, .str ⟨#[61, 66, 49]⟩ 1269, .str ⟨#[61, 66, 50]⟩ 1273, .str ⟨#[61, 66, 51]⟩ 1277, .str ⟨#[61, 66, 52]⟩ 1281, .str ⟨#[61, 66, 53]⟩ 1285, .str ⟨#[61, 66, 54]⟩ 1289, .str ⟨#[61, 66, 55]⟩ 1293, .str ⟨#[61, 66, 56]⟩ 1297, .str ⟨#[61, 66, 57]⟩ 1301, .str ⟨#[61, 66, 65]⟩ 1305, .str ⟨#[61, 66, 66]⟩ 1309, .str ⟨#[61, 66, 67]⟩ 1313, .str ⟨#[61, 66, 68]⟩ 1317, .str ⟨#[61, 66, 69]⟩ 1321, .str ⟨#[61, 66, 70]⟩ 1325, .str ⟨#[61, 67, 48]⟩ 1329, .str ⟨#[61, 67, 49]⟩ 1333, .str ⟨#[61, 67, 50]⟩ 1337, .str ⟨#[61, 67, 51]⟩ 1341, .str ⟨#[61, 67, 52]⟩ 1345, .str ⟨#[61, 67, 53]⟩ 1349, .str ⟨#[61, 67, 54]⟩ 1353, .str ⟨#[61, 67, 55]⟩ 1357, .str ⟨#[61, 67, 56]⟩ 1361, .str ⟨#[61, 67, 57]⟩ 1365, .str ⟨#[61, 67, 65]⟩ 1369, .str ⟨#[61, 67, 66]⟩ 1373, .str ⟨#[61, 67, 67]⟩ 1377, .str ⟨#[61, 67, 68]⟩ 1381, .str ⟨#[61, 67, 69]⟩ 1385, .str ⟨#[61, 67, 70]⟩ 1389, .str ⟨#[61, 68, 48]⟩ 1393, .str ⟨#[61, 68, 49]⟩ 1397, .str ⟨#[61, 68, 50]⟩ 1401, .str ⟨#[61, 68, 51]⟩ 1405, .str ⟨#[61, 68, 52]⟩ 1409, .str ⟨#[61, 68, 53]⟩ 1413, .str ⟨#[61, 68, 54]⟩ 1417, .str ⟨#[61, 68, 55]⟩ 1421, .str ⟨#[61, 68, 56]⟩ 1425, .str ⟨#[61, 68, 57]⟩ 1429, .str ⟨#[61, 68, 65]⟩ 1433, .str ⟨#[61, 68, 66]⟩ 1437, .str ⟨#[61, 68, 67]⟩ 1441, .str ⟨#[61, 68, 68]⟩ 1445, .str ⟨#[61, 68, 69]⟩ 1449, .str ⟨#[61, 68, 70]⟩ 1453, .str ⟨#[61, 69, 48]⟩ 1457, .str ⟨#[61, 69, 49]⟩ 1461, .str ⟨#[61, 69, 50]⟩ 1465, .str ⟨#[61, 69, 51]⟩ 1469, .str ⟨#[61, 69, 52]⟩ 1473, .str ⟨#[61, 69, 53]⟩ 1477, .str ⟨#[61, 69, 54]⟩ 1481, .str ⟨#[61, 69, 55]⟩ 1485, .str ⟨#[61, 69, 56]⟩ 1489, .str ⟨#[61, 69, 57]⟩ 1493, .str ⟨#[61, 69, 65]⟩ 1497, .str ⟨#[61, 69, 66]⟩ 1501, .str ⟨#[61, 69, 67]⟩ 1505, .str ⟨#[61, 69, 68]⟩ 1509, .str ⟨#[61, 69, 69]⟩ 1513, .str ⟨#[61, 69, 70]⟩ 1517, .str ⟨#[61, 70, 48]⟩ 1521, .str ⟨#[61, 70, 49]⟩ 1525, .str ⟨#[61, 70, 50]⟩ 1529, .str ⟨#[61, 70, 51]⟩ 1533, .str ⟨#[61, 70, 52]⟩ 1537, .str ⟨#[61, 70, 53]⟩ 1541, .str ⟨#[61, 70, 54]⟩ 1545, .str ⟨#[61, 70, 55]⟩ 1549, .str ⟨#[61, 70, 56]⟩ 1553, .str ⟨#[61, 70, 57]⟩ 1557, .str ⟨#[61, 70, 65]⟩ 1561, .str ⟨#[61, 70, 66]⟩ 1565, .str ⟨#[61, 70, 67]⟩ 1569, .str ⟨#[61, 70, 68]⟩ 1573, .str ⟨#[61, 70, 69]⟩ 1577, .str ⟨#[61, 70, 70]⟩ 1581] 0, #[]⟩
noncomputable def o108 (P : Params) : Obj := ⟨.type "bytes_iterator", none, .fields #[.none, .int 2 0], #[]⟩
noncomputable def o109 (P : Params) : Obj := ⟨.type "tuple", none, .seq #[] 0, #[]⟩
noncomputable def o110 (P : Params) : Obj := ⟨.type "StopIteration", none, .fields #[.ref 109, .none, .none, .none, .bool false, .none], #[]⟩
noncomputable def o111 (P : Params) : Obj := ⟨.type "tuple", none, .seq #[] 0, #[]⟩
noncomputable def o112 (P : Params) : Obj := ⟨.none, none, .fields #[], #[]⟩
noncomputable def o113 (P : Params) : Obj := ⟨.type "tuple", none, .seq #[.str (sn "match") 2120, .str ⟨#[115]⟩ 2121] 0, #[]⟩
noncomputable def o114 (P : Params) : Obj := ⟨.type "tuple", none, .seq #[] 0, #[]⟩
noncomputable def o115 (P : Params) : Obj := ⟨.none, none, .func (fnT 27 0 0), #[]⟩
noncomputable def o116 (P : Params) : Obj := ⟨.type "code", none, .fields #[.str (sn "_unquote_match") 2117, .str (sn "_unquote_match") 2118, .str (sn "/claim/cut.py") 2119, .int 131 0, .int 1 0, .int 0 0, .int 0 0, .int 3 0, .ref 111, .bool true, .int 276 0, .ref 112, .none, .ref 113, .ref 114, .ref 115, .int 2122 0, .int 131 0, .str (sn "/claim/cut.py") 2123], #[]⟩
noncomputable def o117 (P : Params) : Obj := ⟨.type "function", none, .func (fnD 27 (.none) (.str (sn "cpy313.email.quoprimime") 1593) (.ref 116)), #[]⟩
noncomputable def o118 (P : Params) : Obj := ⟨.type "tuple", none, .seq #[] 0, #[]⟩
noncomputable def o119 (P : Params) : Obj := ⟨.none, none, .fields #[], #[]⟩
noncomputable def o120 (P : Params) : Obj := ⟨.type "tuple", none, .seq #[.str ⟨#[115]⟩ 2128] 0, #[]⟩
noncomputable def o121 (P : Params) : Obj := ⟨.type "tuple", none, .seq #[] 0, #[]⟩
noncomputable def o122 (P : Params) : Obj := ⟨.none, none, .func (fnT 28 0 0), #[]⟩
noncomputable def o123 (P : Params) : Obj := ⟨.type "code", none, .fields #[.str (sn "header_decode") 2125, .str (sn "header_decode") 2126, .str (sn "/claim/cut.py") 2127, .int 134 0, .int 1 0, .int 0 0, .int 0 0, .int 3 0, .ref 118, .bool true, .int 276 0, .ref 119, .none, .ref 120, .ref 121, .ref 122, .int 2129 0, .int 134 0, .str (sn "/claim/cut.py") 2130], #[]⟩
noncomputable def o124 (P : Params) : Obj := ⟨.type "function", none, .func (fnD 28 (.none) (.str (sn "cpy313.email.quoprimime") 1593) (.ref 123)), #[]⟩
noncomputable def o125 (P : Params) : Obj := ⟨.type "tuple", none, .seq #[] 0, #[]⟩
noncomputable def o126 (P : Params) : Obj := ⟨.none, none, .fields #[], #[]⟩
noncomputable def o127 (P : Params) : Obj := ⟨.type "tuple", none, .seq #[.str (sn "mode") 2137] 0, #[]⟩
noncomputable def o128 (P : Params) : Obj := ⟨.type "tuple", none, .seq #[] 0, #[]⟩
noncomputable def o129 (P : Params) : Obj := ⟨.none, none, .func (fnT 30 0 0), #[]⟩
noncomputable def o130 (P : Params) : Obj := ⟨.type "code", none, .fields #[.str (sn "S_IFMT") 2134, .str (sn "S_IFMT") 2135, .str (sn "/claim/cut.py") 2136, .int 138 0, .int 1 0, .int 0 0, .int 0 0, .int 3 0, .ref 125, .bool true, .int 276 0, .ref 126, .none, .ref 127, .ref 128, .ref 129, .int 2138 0, .int 138 0, .str (sn "/claim/cut.py") 2139], #[]⟩
noncomputable def o131 (P : Params) : Obj := ⟨.type "function", none, .func (fnD 30 (.none) (.str (sn "cpy313.stat") 2132) (.ref 130)), #[]⟩
noncomputable def o132 (P : Params) : Obj := ⟨.type "tuple", none, .seq #[.int 40960 2151, .str ⟨#[108]⟩ 2179] 0, #[]⟩
noncomputable def o133 (P : Params) : Obj := ⟨.type "tuple", none, .seq #[.int 49152 2153, .str ⟨#[115]⟩ 2180] 0, #[]⟩
noncomputable def o134 (P : Params) : Obj := ⟨.type "tuple", none, .seq #[.int 32768 2147, .str ⟨#[45]⟩ 2181] 0, #[]⟩
noncomputable def o135 (P : Params) : Obj := ⟨.type "tuple", none, .seq #[.int 24576 2145, .str ⟨#[98]⟩ 2182] 0, #[]⟩
noncomputable def o136 (P : Params) : Obj := ⟨.type "tuple", none, .seq #[.int 16384 2141, .str ⟨#[100]⟩ 2183] 0, #[]⟩
noncomputable def o137 (P : Params) : Obj := ⟨.type "tuple", none, .seq #[.int 8192 2143, .str ⟨#[99]⟩ 2184] 0, #[]⟩
noncomputable def o138 (P : Params) : Obj := ⟨.type "tuple", none, .seq #[.int 4096 2149, .str ⟨#[112]⟩ 2185] 0, #[]⟩
noncomputable def o139 (P : Params) : Obj := ⟨.type "tuple", none, .seq #[.ref 132, .ref 133, .ref 134, .ref 135, .ref 136, .ref 137, .ref 138] 0, #[]⟩
noncomputable def o140 (P : Params) : Obj := ⟨.type "tuple", none, .seq #[.int 256 2161, .str ⟨#[114]⟩ 2186] 0, #[]⟩
noncomputable def o141 (P : Params) : Obj := ⟨.type "tuple", none, .seq #[.ref 140] 0, #[]⟩
noncomputable def o142 (P : Params) : Obj := ⟨.type "tuple", none, .seq #[.int 128 2163, .str ⟨#[119]⟩ 2187] 0, #[]⟩
noncomputable def o143 (P : Params) : Obj := ⟨.type "tuple", none, .seq #[.ref 142] 0, #[]⟩
noncomputable def o144 (P : Params) : Obj := ⟨.type "tuple", none, .seq #[.int 2112 2188, .str ⟨#[115]⟩ 2189] 0, #[]⟩
noncomputable def o145 (P : Params) : Obj := ⟨.type "tuple", none, .seq #[.int 2048 2155, .str ⟨#[83]⟩ 2190] 0, #[]⟩
noncomputable def o146 (P : Params) : Obj := ⟨.type "tuple", none, .seq #[.int 64 2165, .str ⟨#[120]⟩ 2191] 0, #[]⟩
noncomputable def o147 (P : Params) : Obj := ⟨.type "tuple", none, .seq #[.ref 144, .ref 145, .ref 146] 0, #[]⟩
noncomputable def o148 (P : Params) : Obj := ⟨.type "tuple", none, .seq #[.int 32 2167, .str ⟨#[114]⟩ 2192] 0, #[]⟩
noncomputable def o149 (P : Params) : Obj := ⟨.type "tuple", none, .seq #[.ref 148] 0, #[]⟩
noncomputable def o150 (P : Params) : Obj := ⟨.type "tuple", none, .seq #[.int 16 2169, .str ⟨#[119]⟩ 2193] 0, #[]⟩
noncomputable def o151 (P : Params) : Obj := ⟨.type "tuple", none, .seq #[.ref 150] 0, #[]⟩
noncomputable def o152 (P : Params) : Obj := ⟨.type "tuple", none, .seq #[.int 1032 2194, .str ⟨#[115]⟩ 2195] 0, #[]⟩
noncomputable def o153 (P : Params) : Obj := ⟨.type "tuple", none, .seq #[.int 1024 2157, .str ⟨#[83]⟩ 2196] 0, #[]⟩
noncomputable def o154 (P : Params) : Obj := ⟨.type "tuple", none, .seq #[.int 8 2171, .str ⟨#[120]⟩ 2197] 0, #[]⟩
noncomputable def o155 (P : Params) : Obj := ⟨.type "tuple", none, .seq #[.ref 152, .ref 153, .ref 154] 0, #[]⟩
noncomputable def o156 (P : Params) : Obj := ⟨.type "tuple", none, .seq #[.int 4 2173, .str ⟨#[114]⟩ 2198] 0, #[]⟩
noncomputable def o157 (P : Params) : Obj := ⟨.type "tuple", none, .seq #[.ref 156] 0, #[]⟩
noncomputable def o158 (P : Params) : Obj := ⟨.type "tuple", none, .seq #[.int 2 2175, .str ⟨#[119]⟩ 2199] 0, #[]⟩
noncomputable def o159 (P : Params) : Obj := ⟨.type "tuple", none, .seq #[.ref 158] 0, #[]⟩
noncomputable def o160 (P : Params) : Obj := ⟨.type "tuple", none, .seq #[.int 513 2200, .str ⟨#[116]⟩ 2201] 0, #[]⟩
noncomputable def o161 (P : Params) : Obj := ⟨.type "tuple", none, .seq #[.int 512 2159, .str ⟨#[84]⟩ 2202] 0, #[]⟩
noncomputable def o162 (P : Params) : Obj := ⟨.type "tuple", none, .seq #[.int 1 2177, .str ⟨#[120]⟩ 2203] 0, #[]⟩
noncomputable def o163 (P : Params) : Obj := ⟨.type "tuple", none, .seq #[.ref 160, .ref 161, .ref 162] 0, #[]⟩
noncomputable def o164 (P : Params) : Obj := ⟨.type "tuple", none, .seq #[.ref 139, .ref 141, .ref 143, .ref 147, .ref 149, .ref 151, .ref 155, .ref 157, .ref 159, .ref 163] 0, #[]⟩
noncomputable def o165 (P : Params) : Obj := ⟨.type "tuple", none, .seq #[] 0, #[]⟩
noncomputable def o166 (P : Params) : Obj := ⟨.none, none, .fields #[], #[]⟩
noncomputable def o167 (P : Params) : Obj := ⟨.type "tuple", none, .seq #[.str (sn "mode") 2208, .str (sn "perm") 2209, .str (sn "index") 2210, .str (sn "table") 2211, .str (sn "bit") 2212, .str (sn "char") 2213] 0, #[]⟩
noncomputable def o168 (P : Params) : Obj := ⟨.type "tuple", none, .seq #[] 0, #[]⟩
noncomputable def o169 (P : Params) : Obj := ⟨.none, none, .func (fnT 51 0 0), #[]⟩
noncomputable def o170 (P : Params) : Obj := ⟨.type "code", none, .fields #[.str (sn "filemode") 2205, .str (sn "filemode") 2206, .str (sn "/claim/cut.py") 2207, .int 160 0, .int 1 0, .int 0 0, .int 0 0, .int 3 0, .ref 165, .bool true, .int 276 0, .ref 166, .none, .ref 167, .ref 168, .ref 169, .int 2214 0, .int 160 0, .str (sn "/claim/cut.py") 2215], #[]⟩
noncomputable def o171 (P : Params) : Obj := ⟨.type "function", none, .func (fnD 51 (.none) (.str (sn "cpy313.stat") 2132) (.ref 170)), #[]⟩
noncomputable def o172 (P : Params) : Obj := ⟨.type "tuple", none, .seq #[] 0, #[]⟩
noncomputable def o173 (P : Params) : Obj := ⟨.none, none, .fields #[], #[]⟩
noncomputable def o174 (P : Params) : Obj := ⟨.type "tuple", none, .seq #[.str (sn "mode") 2222, .str (sn "told") 2223, .str ⟨#[107]⟩ 2224, .str (sn "figure") 2225, .str (sn "above") 2226, .str (sn "ends") 2227] 0, #[]⟩
noncomputable def o175 (P : Params) : Obj := ⟨.type "tuple", none, .seq #[] 0, #[]⟩
noncomputable def o176 (P : Params) : Obj := ⟨.none, none, .func (fnT 53 0 0), #[]⟩
noncomputable def o177 (P : Params) : Obj := ⟨.type "code", none, .fields #[.str (sn "_law_listed") 2219, .str (sn "_law_listed") 2220, .str (sn "/claim/cut.py") 2221, .int 178 0, .int 1 0, .int 0 0, .int 0 0, .int 3 0, .ref 172, .bool true, .int 276 0, .ref 173, .none, .ref 174, .ref 175, .ref 176, .int 2228 0, .int 178 0, .str (sn "/claim/cut.py") 2229], #[]⟩
noncomputable def o178 (P : Params) : Obj := ⟨.type "function", none, .func (fnD 53 (.none) (.str (sn "law_in0170_01") 2217) (.ref 177)), #[]⟩
noncomputable def o179 (P : Params) : Obj := ⟨.type "tuple", none, .seq #[] 0, #[]⟩
noncomputable def o180 (P : Params) : Obj := ⟨.none, none, .fields #[], #[]⟩
noncomputable def o181 (P : Params) : Obj := ⟨.none, none, .func (fnT 54 0 0), #[]⟩
noncomputable def o182 (P : Params) : Obj := ⟨.type "code", none, .fields #[.str (sn "_law_read") 2231, .str (sn "_law_read") 2232, .str (sn "/claim/cut.py") 2233, .int 185 0, .int 1 0, .int 0 0, .int 0 0, .int 3 0, .ref 179, .bool true, .int 276 0, .ref 180, .none, .none, .none, .ref 181, .int 2234 0, .int 185 0, .str (sn "/claim/cut.py") 2235], #[]⟩
noncomputable def o183 (P : Params) : Obj := ⟨.type "function", none, .func (fnD 54 (.none) (.str (sn "law_in0170_01") 2217) (.ref 182)), #[]⟩
noncomputable def o184 (P : Params) : Obj := ⟨.type "tuple", none, .seq #[] 0, #[]⟩
noncomputable def o185 (P : Params) : Obj := ⟨.none, none, .fields #[], #[]⟩
noncomputable def o186 (P : Params) : Obj := ⟨.type "tuple", none, .seq #[.str (sn "atoms") 2240, .str (sn "name") 2241, .str (sn "at") 2242, .str ⟨#[107]⟩ 2243] 0, #[]⟩
noncomputable def o187 (P : Params) : Obj := ⟨.type "tuple", none, .seq #[] 0, #[]⟩
noncomputable def o188 (P : Params) : Obj := ⟨.none, none, .func (fnT 55 0 0), #[]⟩
noncomputable def o189 (P : Params) : Obj := ⟨.type "code", none, .fields #[.str (sn "_law_fits") 2237, .str (sn "_law_fits") 2238, .str (sn "/claim/cut.py") 2239, .int 213 0, .int 3 0, .int 0 0, .int 0 0, .int 3 0, .ref 184, .bool true, .int 276 0, .ref 185, .none, .ref 186, .ref 187, .ref 188, .int 2244 0, .int 213 0, .str (sn "/claim/cut.py") 2245], #[]⟩
noncomputable def o190 (P : Params) : Obj := ⟨.type "function", none, .func (fnD 55 (.none) (.str (sn "law_in0170_01") 2217) (.ref 189)), #[]⟩
noncomputable def o191 (P : Params) : Obj := ⟨.type "tuple", none, .seq #[] 0, #[]⟩
noncomputable def o192 (P : Params) : Obj := ⟨.none, none, .fields #[], #[]⟩
noncomputable def o193 (P : Params) : Obj := ⟨.type "tuple", none, .seq #[.str (sn "parts") 2250, .str (sn "name") 2251, .str (sn "at") 2252, .str (sn "kind") 2253, .str (sn "atoms") 2254] 0, #[]⟩
noncomputable def o194 (P : Params) : Obj := ⟨.type "tuple", none, .seq #[] 0, #[]⟩
noncomputable def o195 (P : Params) : Obj := ⟨.none, none, .func (fnT 56 0 0), #[]⟩
noncomputable def o196 (P : Params) : Obj := ⟨.type "code", none, .fields #[.str (sn "_law_takes") 2247, .str (sn "_law_takes") 2248, .str (sn "/claim/cut.py") 2249, .int 220 0, .int 2 0, .int 0 0, .int 0 0, .int 3 0, .ref 191, .bool true, .int 276 0, .ref 192, .none, .ref 193, .ref 194, .ref 195, .int 2255 0, .int 220 0, .str (sn "/claim/cut.py") 2256], #[]⟩
noncomputable def o197 (P : Params) : Obj := ⟨.type "function", none, .func (fnD 56 (.none) (.str (sn "law_in0170_01") 2217) (.ref 196)), #[]⟩
noncomputable def o198 (P : Params) : Obj := ⟨.type "tuple", none, .seq #[] 0, #[]⟩
noncomputable def o199 (P : Params) : Obj := ⟨.none, none, .fields #[], #[]⟩
noncomputable def o200 (P : Params) : Obj := ⟨.none, none, .func (fnT 57 0 0), #[]⟩
noncomputable def o201 (P : Params) : Obj := ⟨.type "code", none, .fields #[.str (sn "_law_runs") 2258, .str (sn "_law_runs") 2259, .str (sn "/claim/cut.py") 2260, .int 232 0, .int 1 0, .int 0 0, .int 0 0, .int 3 0, .ref 198, .bool true, .int 276 0, .ref 199, .none, .none, .none, .ref 200, .int 2261 0, .int 232 0, .str (sn "/claim/cut.py") 2262], #[]⟩
noncomputable def o202 (P : Params) : Obj := ⟨.type "function", none, .func (fnD 57 (.none) (.str (sn "law_in0170_01") 2217) (.ref 201)), #[]⟩
noncomputable def o203 (P : Params) : Obj := ⟨.type "tuple", none, .seq #[] 0, #[]⟩
noncomputable def o204 (P : Params) : Obj := ⟨.none, none, .fields #[], #[]⟩
noncomputable def o205 (P : Params) : Obj := ⟨.type "tuple", none, .seq #[.str ⟨#[112]⟩ 2267, .str ⟨#[113]⟩ 2268, .str (sn "very") 2269, .str (sn "behind") 2270, .str (sn "left") 2271, .str (sn "run") 2272] 0, #[]⟩
noncomputable def o206 (P : Params) : Obj := ⟨.type "tuple", none, .seq #[] 0, #[]⟩
noncomputable def o207 (P : Params) : Obj := ⟨.none, none, .func (fnT 58 0 0), #[]⟩
noncomputable def o208 (P : Params) : Obj := ⟨.type "code", none, .fields #[.str (sn "_law_told") 2264, .str (sn "_law_told") 2265, .str (sn "/claim/cut.py") 2266, .int 235 0, .int 3 0, .int 0 0, .int 0 0, .int 3 0, .ref 203, .bool true, .int 276 0, .ref 204, .none, .ref 205, .ref 206, .ref 207, .int 2273 0, .int 235 0, .str (sn "/claim/cut.py") 2274], #[]⟩
noncomputable def o209 (P : Params) : Obj := ⟨.type "function", none, .func (fnD 58 (.none) (.str (sn "law_in0170_01") 2217) (.ref 208)), #[]⟩
noncomputable def o210 (P : Params) : Obj := ⟨.type "tuple", none, .seq #[] 0, #[]⟩
noncomputable def o211 (P : Params) : Obj := ⟨.none, none, .fields #[], #[]⟩
noncomputable def o212 (P : Params) : Obj := ⟨.none, none, .func (fnT 59 0 0), #[]⟩
noncomputable def o213 (P : Params) : Obj := ⟨.type "code", none, .fields #[.str (sn "_law_p") 2276, .str (sn "_law_p") 2277, .str (sn "/claim/cut.py") 2278, .int 250 0, .int 2 0, .int 0 0, .int 0 0, .int 3 0, .ref 210, .bool true, .int 276 0, .ref 211, .none, .none, .none, .ref 212, .int 2279 0, .int 250 0, .str (sn "/claim/cut.py") 2280], #[]⟩
noncomputable def o214 (P : Params) : Obj := ⟨.type "function", none, .func (fnD 59 (.none) (.str (sn "law_in0170_01") 2217) (.ref 213)), #[]⟩
noncomputable def o215 (P : Params) : Obj := ⟨.type "tuple", none, .seq #[] 0, #[]⟩
noncomputable def o216 (P : Params) : Obj := ⟨.none, none, .fields #[], #[]⟩
noncomputable def o217 (P : Params) : Obj := ⟨.type "tuple", none, .seq #[.str (sn "columns") 2285, .str (sn "mine") 2286, .str ⟨#[120]⟩ 2287, .str (sn "told") 2288, .str ⟨#[107]⟩ 2289, .str (sn "sign") 2290, .str ⟨#[100]⟩ 2291] 0, #[]⟩
noncomputable def o218 (P : Params) : Obj := ⟨.type "tuple", none, .seq #[] 0, #[]⟩
noncomputable def o219 (P : Params) : Obj := ⟨.none, none, .func (fnT 60 0 0), #[]⟩
noncomputable def o220 (P : Params) : Obj := ⟨.type "code", none, .fields #[.str (sn "_law_q") 2282, .str (sn "_law_q") 2283, .str (sn "/claim/cut.py") 2284, .int 252 0, .int 3 0, .int 0 0, .int 0 0, .int 3 0, .ref 215, .bool true, .int 276 0, .ref 216, .none, .ref 217, .ref 218, .ref 219, .int 2292 0, .int 252 0, .str (sn "/claim/cut.py") 2293], #[]⟩
noncomputable def o221 (P : Params) : Obj := ⟨.type "function", none, .func (fnD 60 (.none) (.str (sn "law_in0170_01") 2217) (.ref 220)), #[]⟩
noncomputable def o222 (P : Params) : Obj := ⟨.type "tuple", none, .seq #[] 0, #[]⟩
noncomputable def o223 (P : Params) : Obj := ⟨.none, none, .fields #[], #[]⟩
noncomputable def o224 (P : Params) : Obj := ⟨.none, none, .func (fnT 61 0 0), #[]⟩
noncomputable def o225 (P : Params) : Obj := ⟨.type "code", none, .fields #[.str (sn "_law_word") 2295, .str (sn "_law_word") 2296, .str (sn "/claim/cut.py") 2297, .int 263 0, .int 1 0, .int 0 0, .int 0 0, .int 3 0, .ref 222, .bool true, .int 276 0, .ref 223, .none, .none, .none, .ref 224, .int 2298 0, .int 263 0, .str (sn "/claim/cut.py") 2299], #[]⟩
noncomputable def o226 (P : Params) : Obj := ⟨.type "function", none, .func (fnD 61 (.none) (.str (sn "law_in0170_01") 2217) (.ref 225)), #[]⟩
noncomputable def o227 (P : Params) : Obj := ⟨.type "tuple", none, .seq #[] 0, #[]⟩
noncomputable def o228 (P : Params) : Obj := ⟨.none, none, .fields #[], #[]⟩
noncomputable def o229 (P : Params) : Obj := ⟨.type "tuple", none, .seq #[.str ⟨#[112]⟩ 2304, .str (sn "others") 2305, .str (sn "told") 2306, .str (sn "plain") 2307, .str (sn "coded") 2308, .str ⟨#[113]⟩ 2309, .str (sn "name") 2310] 0, #[]⟩
noncomputable def o230 (P : Params) : Obj := ⟨.type "tuple", none, .seq #[] 0, #[]⟩
noncomputable def o231 (P : Params) : Obj := ⟨.none, none, .func (fnT 62 0 0), #[]⟩
noncomputable def o232 (P : Params) : Obj := ⟨.type "code", none, .fields #[.str (sn "_law_run") 2301, .str (sn "_law_run") 2302, .str (sn "/claim/cut.py") 2303, .int 271 0, .int 2 0, .int 0 0, .int 0 0, .int 3 0, .ref 227, .bool true, .int 276 0, .ref 228, .none, .ref 229, .ref 230, .ref 231, .int 2311 0, .int 271 0, .str (sn "/claim/cut.py") 2312], #[]⟩
noncomputable def o233 (P : Params) : Obj := ⟨.type "function", none, .func (fnD 62 (.none) (.str (sn "law_in0170_01") 2217) (.ref 232)), #[]⟩
noncomputable def o234 (P : Params) : Obj := ⟨.type "tuple", none, .seq #[] 0, #[]⟩
noncomputable def o235 (P : Params) : Obj := ⟨.none, none, .fields #[], #[]⟩
noncomputable def o236 (P : Params) : Obj := ⟨.none, none, .func (fnT 63 0 0), #[]⟩
noncomputable def o237 (P : Params) : Obj := ⟨.type "code", none, .fields #[.str (sn "law") 2314, .str (sn "law") 2315, .str (sn "/claim/cut.py") 2316, .int 281 0, .int 1 0, .int 0 0, .int 0 0, .int 3 0, .ref 234, .bool true, .int 276 0, .ref 235, .none, .none, .none, .ref 236, .int 2317 0, .int 281 0, .str (sn "/claim/cut.py") 2318], #[]⟩
noncomputable def o238 (P : Params) : Obj := ⟨.type "function", none, .func (fnD 63 (.none) (.str (sn "law_in0170_01") 2217) (.ref 237)), #[]⟩
noncomputable def treeF (P : Params) : BT := .node (boot_o_0 P) (.node (o1 P) (.node (o3v6 P) (.node (boot_o_7 P) (.node (o15 P) (.node (o31 P) (.node (o63 P) (.node (o127 P) (.nil) (.nil)) (.node (o191 P) (.nil) (.nil))) (.node (o95 P) (.node (o159 P) (.nil) (.nil)) (.node (o223 P) (.nil) (.nil)))) (.node (o47 P) (.node (o79 P) (.node (o143 P) (.nil) (.nil)) (.node (o207 P) (.nil) (.nil))) (.node (o111 P) (.node (o175 P) (.nil) (.nil)) (.nil)))) (.node (o23 P) (.node (o39 P) (.node (o71 P) (.node (o135 P) (.nil) (.nil)) (.node (o199 P) (.nil) (.nil))) (.node (o103 P) (.node (o167 P) (.nil) (.nil)) (.node (o231 P) (.nil) (.nil)))) (.node (o55 P) (.node (o87 P) (.node (o151 P) (.nil) (.nil)) (.node (o215 P) (.nil) (.nil))) (.node (o119 P) (.node (o183 P) (.nil) (.nil)) (.nil))))) (.node (o11v1 P) (.node (o19 P) (.node (o35 P) (.node (o67 P) (.node (o131 P) (.nil) (.nil)) (.node (o195 P) (.nil) (.nil))) (.node (o99 P) (.node (o163 P) (.nil) (.nil)) (.node (o227 P) (.nil) (.nil)))) (.node (o51 P) (.node (o83 P) (.node (o147 P) (.nil) (.nil)) (.node (o211 P) (.nil) (.nil))) (.node (o115 P) (.node (o179 P) (.nil) (.nil)) (.nil)))) (.node (o27 P) (.node (o43 P) (.node (o75 P) (.node (o139 P) (.nil) (.nil)) (.node (o203 P) (.nil) (.nil))) (.node (o107 P) (.node (o171 P) (.nil) (.nil)) (.node (o235 P) (.nil) (.nil)))) (.node (o59 P) (.node (o91 P) (.node (o155 P) (.nil) (.nil)) (.node (o219 P) (.nil) (.nil))) (.node (o123 P) (.node (o187 P) (.nil) (.nil)) (.nil)))))) (.node (boot_o_5 P) (.node (boot_o_9 P) (.node (o17 P) (.node (o33 P) (.node (o65 P) (.node (o129 P) (.nil) (.nil)) (.node (o193 P) (.nil) (.nil))) (.node (o97 P) (.node (o161 P) (.nil) (.nil)) (.node (o225 P) (.nil) (.nil)))) (.node (o49 P) (.node (o81 P) (.node (o145 P) (.nil) (.nil)) (.node (o209 P) (.nil) (.nil))) (.node (o113 P) (.node (o177 P) (.nil) (.nil)) (.nil)))) (.node (o25 P) (.node (o41 P) (.node (o73 P) (.node (o137 P) (.nil) (.nil)) (.node (o201 P) (.nil) (.nil))) (.node (o105 P) (.node (o169 P) (.nil) (.nil)) (.node (o233 P) (.nil) (.nil)))) (.node (o57 P) (.node (o89 P) (.node (o153 P) (.nil) (.nil)) (.node (o217 P) (.nil) (.nil))) (.node (o121 P) (.node (o185 P) (.nil) (.nil)) (.nil))))) (.node (o13 P) (.node (o21 P) (.node (o37 P) (.node (o69 P) (.node (o133 P) (.nil) (.nil)) (.node (o197 P) (.nil) (.nil))) (.node (o101 P) (.node (o165 P) (.nil) (.nil)) (.node (o229 P) (.nil) (.nil)))) (.node (o53 P) (.node (o85 P) (.node (o149 P) (.nil) (.nil)) (.node (o213 P) (.nil) (.nil))) (.node (o117 P) (.node (o181 P) (.nil) (.nil)) (.nil)))) (.node (o29v3 P) (.node (o45 P) (.node (o77 P) (.node (o141 P) (.nil) (.nil)) (.node (o205 P) (.nil) (.nil))) (.node (o109 P) (.node (o173 P) (.nil) (.nil)) (.node (o237 P) (.nil) (.nil)))) (.node (o61 P) (.node (o93 P) (.node (o157 P) (.nil) (.nil)) (.node (o221 P) (.nil) (.nil))) (.node (o125 P) (.node (o189 P) (.nil) (.nil)) (.nil))))))) (.node (o2 P) (.node (boot_o_4 P) (.node (boot_o_8 P) (.node (o16 P) (.node (o32 P) (.node (o64 P) (.node (o128 P) (.nil) (.nil)) (.node (o192 P) (.nil) (.nil))) (.node (o96 P) (.node (o160 P) (.nil) (.nil)) (.node (o224 P) (.nil) (.nil)))) (.node (o48 P) (.node (o80 P) (.node (o144 P) (.nil) (.nil)) (.node (o208 P) (.nil) (.nil))) (.node (o112 P) (.node (o176 P) (.nil) (.nil)) (.nil)))) (.node (o24 P) (.node (o40 P) (.node (o72 P) (.node (o136 P) (.nil) (.nil)) (.node (o200 P) (.nil) (.nil))) (.node (o104 P) (.node (o168 P) (.nil) (.nil)) (.node (o232 P) (.nil) (.nil)))) (.node (o56 P) (.node (o88 P) (.node (o152 P) (.nil) (.nil)) (.node (o216 P) (.nil) (.nil))) (.node (o120 P) (.node (o184 P) (.nil) (.nil)) (.nil))))) (.node (o12 P) (.node (o20 P) (.node (o36 P) (.node (o68 P) (.node (o132 P) (.nil) (.nil)) (.node (o196 P) (.nil) (.nil))) (.node (o100 P) (.node (o164 P) (.nil) (.nil)) (.node (o228 P) (.nil) (.nil)))) (.node (o52 P) (.node (o84v1 P) (.node (o148 P) (.nil) (.nil)) (.node (o212 P) (.nil) (.nil))) (.node (o116 P) (.node (o180 P) (.nil) (.nil)) (.nil)))) (.node (o28 P) (.node (o44 P) (.node (o76 P) (.node (o140 P) (.nil) (.nil)) (.node (o204 P) (.nil) (.nil))) (.node (o108 P) (.node (o172 P) (.nil) (.nil)) (.node (o236 P) (.nil) (.nil)))) (.node (o60 P) (.node (o92 P) (.node (o156 P) (.nil) (.nil)) (.node (o220 P) (.nil) (.nil))) (.node (o124 P) (.node (o188 P) (.nil) (.nil)) (.nil)))))) (.node (boot_o_6 P) (.node (boot_o_10 P) (.node (o18 P) (.node (o34 P) (.node (o66 P) (.node (o130 P) (.nil) (.nil)) (.node (o194 P) (.nil) (.nil))) (.node (o98 P) (.node (o162 P) (.nil) (.nil)) (.node (o226 P) (.nil) (.nil)))) (.node (o50 P) (.node (o82v1 P) (.node (o146 P) (.nil) (.nil)) (.node (o210 P) (.nil) (.nil))) (.node (o114 P) (.node (o178 P) (.nil) (.nil)) (.nil)))) (.node (o26 P) (.node (o42 P) (.node (o74 P) (.node (o138 P) (.nil) (.nil)) (.node (o202 P) (.nil) (.nil))) (.node (o106 P) (.node (o170 P) (.nil) (.nil)) (.node (o234 P) (.nil) (.nil)))) (.node (o58 P) (.node (o90 P) (.node (o154 P) (.nil) (.nil)) (.node (o218 P) (.nil) (.nil))) (.node (o122 P) (.node (o186 P) (.nil) (.nil)) (.nil))))) (.node (o14 P) (.node (o22 P) (.node (o38 P) (.node (o70 P) (.node (o134 P) (.nil) (.nil)) (.node (o198 P) (.nil) (.nil))) (.node (o102 P) (.node (o166 P) (.nil) (.nil)) (.node (o230 P) (.nil) (.nil)))) (.node (o54 P) (.node (o86 P) (.node (o150 P) (.nil) (.nil)) (.node (o214 P) (.nil) (.nil))) (.node (o118 P) (.node (o182 P) (.nil) (.nil)) (.nil)))) (.node (o30 P) (.node (o46 P) (.node (o78 P) (.node (o142 P) (.nil) (.nil)) (.node (o206 P) (.nil) (.nil))) (.node (o110 P) (.node (o174 P) (.nil) (.nil)) (.node (o238 P) (.nil) (.nil)))) (.node (o62 P) (.node (o94 P) (.node (o158 P) (.nil) (.nil)) (.node (o222 P) (.nil) (.nil))) (.node (o126 P) (.node (o190 P) (.nil) (.nil)) (.nil)))))))
noncomputable abbrev bsT : List Stmt := behindTheImports pT
noncomputable def envT : Env := { scope := pT.main.scope, locals := mainNs, globals := mainNs, cells := [], code := .ref 30, frame := some 31 }
noncomputable abbrev cdT : Code := .body bsT envT
abbrev fB : List Frame := [topFrame ⟨0, 0, 0, 0⟩]
abbrev ann : Option Value := some (.ref 6)
noncomputable abbrev SP (P : Params) (os : OsState) : SharedT := ⟨treeP P, 32, {}, #[], {}, 282, os⟩
noncomputable abbrev SA (P : Params) (os : OsState) : SharedT := ⟨treeA P, 49, {}, #[], {}, 479, os⟩
noncomputable abbrev SE (P : Params) (os : OsState) : SharedT := ⟨treeE P, 75, {}, #[], {}, 555, os⟩
noncomputable abbrev SB (P : Params) (os : OsState) : SharedT := ⟨treeB P, 81, {}, #[], {}, 1583, os⟩
noncomputable abbrev SC (P : Params) (os : OsState) : SharedT := ⟨treeC P, 88, {}, #[], {}, 1803, os⟩
noncomputable abbrev SD (P : Params) (os : OsState) : SharedT := ⟨treeD P, 91, {}, #[], {}, 2092, os⟩
noncomputable abbrev SF (P : Params) (os : OsState) : SharedT := ⟨treeF P, 239, {}, #[], {}, 2320, os⟩
noncomputable abbrev SS (P : Params) (os : OsState) : SharedT := ⟨treeS P, 28, {}, #[], {}, 276, os⟩
noncomputable abbrev SI (P : Params) (os : OsState) : SharedT := ⟨treeI P, 28, {}, #[], {}, 276, os⟩
noncomputable abbrev tTree := PySem.W.Fast.tw14364793385576792824
noncomputable abbrev tGo := @PySem.W.Fast.tw10295753902157049106
noncomputable abbrev tRun := @PySem.W.Fast.tw10110043849684766642
noncomputable abbrev tImp := @PySem.W.Fast.tw14789777615569096658
noncomputable abbrev tStart := PySem.W.Fast.tw1435165496053646825
theorem eGo : segGoT treeTable = tGo tTree := congr PySem.W.Fast.te10295753902157049106 PySem.W.Fast.te14364793385576792824
theorem eRun : segRunT treeTable = tRun tTree := congr PySem.W.Fast.te10110043849684766642 PySem.W.Fast.te14364793385576792824
theorem eImp : impGoT treeTable = tImp tTree := congr PySem.W.Fast.te14789777615569096658 PySem.W.Fast.te14364793385576792824
theorem segRun_mono {tb : String → Option Builtin} {p : Program} {w : World} {n₀ : Nat} {an : Option Value} {b : Nat} (k : Nat) : ∀ (n : Nat) (s : Shared) (t : Thread) (r : Flow × Shared × Code × Pos), segRun tb p w n₀ an b n s t = some r → segRun tb p w n₀ an b (n + k) s t = some r
  | 0, _, _, _, h => by simp [segRun] at h
  | n + 1, s, t, r, h => by
    rw [show n + 1 + k = n + k + 1 by omega]
    unfold segRun at h ⊢
    cases he : endAt b t with
    | some f => rw [he] at h; exact h
    | none =>
      rw [he] at h
      cases hk : stepOk n₀ an t with
      | false => rw [hk] at h; cases h
      | true =>
        rw [hk] at h
        cases hs : step (denote tb) p w s t with
        | halt o s' => rw [hs] at h; cases h
        | go s' t' => rw [hs] at h; exact segRun_mono k n s' t' r h
def pick {α : Type} (o : Option α) (d : α) : α := match o with
  | some x => x
  | none => d
theorem two_rows {r1 r2 : String} {P : World → Prop} (h00 : ∀ w : World, P ((w.withFollow r1 false).withFollow r2 false)) (h01 : ∀ w : World, P ((w.withFollow r1 false).withFollow r2 true))
    (h10 : ∀ w : World, P ((w.withFollow r1 true).withFollow r2 false)) (h11 : ∀ w : World, P ((w.withFollow r1 true).withFollow r2 true)) (w : World) : P w :=
  byRow2 r1 (P := P) (fun w => by
    have h : ∀ b : Bool, P ((w.withFollow r1 false).withFollow r2 b) := fun b => by cases b; exact h00 w; exact h01 w
    have := h ((w.withFollow r1 false).params.followText r2); rwa [World.withFollow_self] at this) (fun w => by
    have h : ∀ b : Bool, P ((w.withFollow r1 true).withFollow r2 b) := fun b => by cases b; exact h10 w; exact h11 w
    have := h ((w.withFollow r1 true).params.followText r2); rwa [World.withFollow_self] at this) w
abbrev rS : String := "special-get-raises"
abbrev rC : String := "comprehension-iter-twice"
noncomputable abbrev lA : List Stmt := (bsT.drop 0).take 5
noncomputable abbrev thA : Thread := piecesOf lA envT cdT ⟨0, 0, 0, 0⟩ fB
set_option maxHeartbeats 0 in
theorem directAff (w : World) : (fun os => tRun tTree pT ((w.withFollow rS false).withFollow rC false) 28 ann 1 20155 (SP ((w.withFollow rS false).withFollow rC false).params os) thA) = fun os => some (.next, SA ((w.withFollow rS false).withFollow rC false).params os, cdT, ⟨9, 0, 9, 18⟩) := by kernel_rfl
set_option maxHeartbeats 0 in
theorem directAft (w : World) : (fun os => tRun tTree pT ((w.withFollow rS false).withFollow rC true) 28 ann 1 20155 (SP ((w.withFollow rS false).withFollow rC true).params os) thA) = fun os => some (.next, SA ((w.withFollow rS false).withFollow rC true).params os, cdT, ⟨9, 0, 9, 18⟩) := by kernel_rfl
set_option maxHeartbeats 0 in
theorem directAtf (w : World) : (fun os => tRun tTree pT ((w.withFollow rS true).withFollow rC false) 28 ann 1 20155 (SP ((w.withFollow rS true).withFollow rC false).params os) thA) = fun os => some (.next, SA ((w.withFollow rS true).withFollow rC false).params os, cdT, ⟨9, 0, 9, 18⟩) := by kernel_rfl
set_option maxHeartbeats 0 in
theorem directAtt (w : World) : (fun os => tRun tTree pT ((w.withFollow rS true).withFollow rC true) 28 ann 1 20155 (SP ((w.withFollow rS true).withFollow rC true).params os) thA) = fun os => some (.next, SA ((w.withFollow rS true).withFollow rC true).params os, cdT, ⟨9, 0, 9, 18⟩) := by kernel_rfl
theorem wayA {w : World} (h : (fun os => tRun tTree pT w 28 ann 1 20155 (SP w.params os) thA) = fun os => some (.next, SA w.params os, cdT, ⟨9, 0, 9, 18⟩)) (os : OsState) :
    segRun treeTable pT w 28 ann 1 20155 (SP w.params os).abs thA = some (.next, (SA w.params os).abs, cdT, ⟨9, 0, 9, 18⟩) := by
  have e2 := congrFun h os
  rw [← eRun] at e2
  exact segRun_of e2
theorem segA (w : World) : ∀ os, segRun treeTable pT w 28 ann 1 20155 (SP w.params os).abs thA = some (.next, (SA w.params os).abs, cdT, ⟨9, 0, 9, 18⟩) :=
  two_rows (r1 := rS) (r2 := rC) (P := fun w => ∀ os, segRun treeTable pT w 28 ann 1 20155 (SP w.params os).abs thA = some (.next, (SA w.params os).abs, cdT, ⟨9, 0, 9, 18⟩))
    (fun w => wayA (directAff w)) (fun w => wayA (directAft w)) (fun w => wayA (directAtf w)) (fun w => wayA (directAtt w)) w
noncomputable abbrev lE : List Stmt := (bsT.drop 5).take 5
noncomputable abbrev thE : Thread := piecesOf lE envT cdT ⟨9, 0, 9, 18⟩ fB
set_option maxHeartbeats 0 in
theorem directE (w : World) : (fun os => tRun tTree pT w 28 ann 1 20000 (SA w.params os) thE) = fun os => some (.next, SE w.params os, cdT, ⟨106, 0, 106, 20⟩) := by kernel_rfl
theorem segE (w : World) (os : OsState) : segRun treeTable pT w 28 ann 1 20000 (SA w.params os).abs thE = some (.next, (SE w.params os).abs, cdT, ⟨106, 0, 106, 20⟩) := by
  have e2 := congrFun (directE w) os
  rw [← eRun] at e2
  exact segRun_of e2
noncomputable abbrev lB : List Stmt := (bsT.drop 10).take 1
noncomputable abbrev thB : Thread := piecesOf lB envT cdT ⟨106, 0, 106, 20⟩ fB
noncomputable def midB (w : World) (os : OsState) : SharedT × Thread := pick (tGo tTree pT ((w.withFollow rS false).withFollow rC false) 28 ann 1 53 (SE w.params os) thB) (SE w.params os, thB)
set_option maxHeartbeats 0 in
theorem preBff (w : World) : (fun os => tGo tTree pT ((w.withFollow rS false).withFollow rC false) 28 ann 1 53 (SE ((w.withFollow rS false).withFollow rC false).params os) thB) = fun os => some (midB ((w.withFollow rS false).withFollow rC false) os) := by kernel_rfl
set_option maxHeartbeats 0 in
theorem preBft (w : World) : (fun os => tGo tTree pT ((w.withFollow rS false).withFollow rC true) 28 ann 1 43 (SE ((w.withFollow rS false).withFollow rC true).params os) thB) = fun os => some (midB ((w.withFollow rS false).withFollow rC true) os) := by kernel_rfl
set_option maxHeartbeats 0 in
theorem preBtf (w : World) : (fun os => tGo tTree pT ((w.withFollow rS true).withFollow rC false) 28 ann 1 53 (SE ((w.withFollow rS true).withFollow rC false).params os) thB) = fun os => some (midB ((w.withFollow rS true).withFollow rC false) os) := by kernel_rfl
set_option maxHeartbeats 0 in
theorem preBtt (w : World) : (fun os => tGo tTree pT ((w.withFollow rS true).withFollow rC true) 28 ann 1 43 (SE ((w.withFollow rS true).withFollow rC true).params os) thB) = fun os => some (midB ((w.withFollow rS true).withFollow rC true) os) := by kernel_rfl
set_option maxHeartbeats 0 in
theorem restB (w : World) : (fun os => tRun tTree pT w 28 ann 1 20000 (midB w os).1 (midB w os).2) = fun os => some (.next, SB w.params os, cdT, ⟨107, 0, 107, 11⟩) := by kernel_rfl
theorem wayB {w : World} {k : Nat} (hk : k ≤ 53) (h : (fun os => tGo tTree pT w 28 ann 1 k (SE w.params os) thB) = fun os => some (midB w os)) (os : OsState) :
    segRun treeTable pT w 28 ann 1 20053 (SE w.params os).abs thB = some (.next, (SB w.params os).abs, cdT, ⟨107, 0, 107, 11⟩) := by
  have e1 := congrFun h os
  have e2 := congrFun (restB w) os
  rw [← eGo] at e1
  rw [← eRun] at e2
  revert e1 e2
  generalize midB w os = m
  obtain ⟨s', t'⟩ := m
  intro e1 e2
  dsimp only at e2
  have q := seg_go (segGo_of e1) (segRun_of e2)
  have m := segRun_mono (53 - k) _ _ _ _ q
  rwa [show k + 20000 + (53 - k) = 20053 by omega] at m
theorem segB (w : World) : ∀ os, segRun treeTable pT w 28 ann 1 20053 (SE w.params os).abs thB = some (.next, (SB w.params os).abs, cdT, ⟨107, 0, 107, 11⟩) :=
  two_rows (r1 := rS) (r2 := rC) (P := fun w => ∀ os, segRun treeTable pT w 28 ann 1 20053 (SE w.params os).abs thB = some (.next, (SB w.params os).abs, cdT, ⟨107, 0, 107, 11⟩))
    (fun w => wayB (by decide) (preBff w)) (fun w => wayB (by decide) (preBft w)) (fun w => wayB (by decide) (preBtf w)) (fun w => wayB (by decide) (preBtt w)) w
noncomputable abbrev lC : List Stmt := (bsT.drop 11).take 8
noncomputable abbrev thC : Thread := piecesOf lC envT cdT ⟨107, 0, 107, 11⟩ fB
noncomputable def midC (w : World) (os : OsState) : SharedT × Thread := pick (tGo tTree pT (w.withFollow rS false) 28 ann 1 153 (SB w.params os) thC) (SB w.params os, thC)
set_option maxHeartbeats 0 in
theorem preCf (w : World) : (fun os => tGo tTree pT (w.withFollow rS false) 28 ann 1 153 (SB (w.withFollow rS false).params os) thC) = fun os => some (midC (w.withFollow rS false) os) := by kernel_rfl
set_option maxHeartbeats 0 in
theorem preCt (w : World) : (fun os => tGo tTree pT (w.withFollow rS true) 28 ann 1 153 (SB (w.withFollow rS true).params os) thC) = fun os => some (midC (w.withFollow rS true) os) := by kernel_rfl
set_option maxHeartbeats 0 in
theorem restC (w : World) : (fun os => tRun tTree pT w 28 ann 1 20000 (midC w os).1 (midC w os).2) = fun os => some (.next, SC w.params os, cdT, ⟨115, 9, 115, 74⟩) := by kernel_rfl
theorem wayC {w : World} {k : Nat} (hk : k ≤ 153) (h : (fun os => tGo tTree pT w 28 ann 1 k (SB w.params os) thC) = fun os => some (midC w os)) (os : OsState) :
    segRun treeTable pT w 28 ann 1 20153 (SB w.params os).abs thC = some (.next, (SC w.params os).abs, cdT, ⟨115, 9, 115, 74⟩) := by
  have e1 := congrFun h os
  have e2 := congrFun (restC w) os
  rw [← eGo] at e1
  rw [← eRun] at e2
  revert e1 e2
  generalize midC w os = m
  obtain ⟨s', t'⟩ := m
  intro e1 e2
  dsimp only at e2
  have q := seg_go (segGo_of e1) (segRun_of e2)
  have m := segRun_mono (153 - k) _ _ _ _ q
  rwa [show k + 20000 + (153 - k) = 20153 by omega] at m
theorem segC (w : World) : ∀ os, segRun treeTable pT w 28 ann 1 20153 (SB w.params os).abs thC = some (.next, (SC w.params os).abs, cdT, ⟨115, 9, 115, 74⟩) :=
  byRow2 rS (P := fun w => ∀ os, segRun treeTable pT w 28 ann 1 20153 (SB w.params os).abs thC = some (.next, (SC w.params os).abs, cdT, ⟨115, 9, 115, 74⟩))
    (fun w => wayC (by decide) (preCf w)) (fun w => wayC (by decide) (preCt w)) w
noncomputable abbrev lD : List Stmt := (bsT.drop 19).take 2
noncomputable abbrev thD : Thread := piecesOf lD envT cdT ⟨115, 9, 115, 74⟩ fB
noncomputable def midD (w : World) (os : OsState) : SharedT × Thread := pick (tGo tTree pT (w.withFollow rS false) 28 ann 1 35 (SC w.params os) thD) (SC w.params os, thD)
set_option maxHeartbeats 0 in
theorem preDf (w : World) : (fun os => tGo tTree pT (w.withFollow rS false) 28 ann 1 35 (SC (w.withFollow rS false).params os) thD) = fun os => some (midD (w.withFollow rS false) os) := by kernel_rfl
set_option maxHeartbeats 0 in
theorem preDt (w : World) : (fun os => tGo tTree pT (w.withFollow rS true) 28 ann 1 35 (SC (w.withFollow rS true).params os) thD) = fun os => some (midD (w.withFollow rS true) os) := by kernel_rfl
set_option maxHeartbeats 0 in
theorem restD (w : World) : (fun os => tRun tTree pT w 28 ann 1 20000 (midD w os).1 (midD w os).2) = fun os => some (.next, SD w.params os, cdT, ⟨118, 9, 118, 110⟩) := by kernel_rfl
theorem wayD {w : World} {k : Nat} (hk : k ≤ 35) (h : (fun os => tGo tTree pT w 28 ann 1 k (SC w.params os) thD) = fun os => some (midD w os)) (os : OsState) :
    segRun treeTable pT w 28 ann 1 20035 (SC w.params os).abs thD = some (.next, (SD w.params os).abs, cdT, ⟨118, 9, 118, 110⟩) := by
  have e1 := congrFun h os
  have e2 := congrFun (restD w) os
  rw [← eGo] at e1
  rw [← eRun] at e2
  revert e1 e2
  generalize midD w os = m
  obtain ⟨s', t'⟩ := m
  intro e1 e2
  dsimp only at e2
  have q := seg_go (segGo_of e1) (segRun_of e2)
  have m := segRun_mono (35 - k) _ _ _ _ q
  rwa [show k + 20000 + (35 - k) = 20035 by omega] at m
theorem segD (w : World) : ∀ os, segRun treeTable pT w 28 ann 1 20035 (SC w.params os).abs thD = some (.next, (SD w.params os).abs, cdT, ⟨118, 9, 118, 110⟩) :=
  byRow2 rS (P := fun w => ∀ os, segRun treeTable pT w 28 ann 1 20035 (SC w.params os).abs thD = some (.next, (SD w.params os).abs, cdT, ⟨118, 9, 118, 110⟩))
    (fun w => wayD (by decide) (preDf w)) (fun w => wayD (by decide) (preDt w)) w
noncomputable abbrev lF : List Stmt := (bsT.drop 21).take 42
noncomputable abbrev thF : Thread := piecesOf lF envT cdT ⟨118, 9, 118, 110⟩ fB
noncomputable def midF (w : World) (os : OsState) : SharedT × Thread := pick (tGo tTree pT (w.withFollow rS false) 28 ann 1 100 (SD w.params os) thF) (SD w.params os, thF)
set_option maxHeartbeats 0 in
theorem preFf (w : World) : (fun os => tGo tTree pT (w.withFollow rS false) 28 ann 1 100 (SD (w.withFollow rS false).params os) thF) = fun os => some (midF (w.withFollow rS false) os) := by kernel_rfl
set_option maxHeartbeats 0 in
theorem preFt (w : World) : (fun os => tGo tTree pT (w.withFollow rS true) 28 ann 1 100 (SD (w.withFollow rS true).params os) thF) = fun os => some (midF (w.withFollow rS true) os) := by kernel_rfl
set_option maxHeartbeats 0 in
theorem restF (w : World) : (fun os => tRun tTree pT w 28 ann 1 20000 (midF w os).1 (midF w os).2) = fun os => some (.next, SF w.params os, cdT, ⟨281, 0, 292, 20⟩) := by kernel_rfl
theorem wayF {w : World} {k : Nat} (hk : k ≤ 100) (h : (fun os => tGo tTree pT w 28 ann 1 k (SD w.params os) thF) = fun os => some (midF w os)) (os : OsState) :
    segRun treeTable pT w 28 ann 1 20100 (SD w.params os).abs thF = some (.next, (SF w.params os).abs, cdT, ⟨281, 0, 292, 20⟩) := by
  have e1 := congrFun h os
  have e2 := congrFun (restF w) os
  rw [← eGo] at e1
  rw [← eRun] at e2
  revert e1 e2
  generalize midF w os = m
  obtain ⟨s', t'⟩ := m
  intro e1 e2
  dsimp only at e2
  have q := seg_go (segGo_of e1) (segRun_of e2)
  have m := segRun_mono (100 - k) _ _ _ _ q
  rwa [show k + 20000 + (100 - k) = 20100 by omega] at m
theorem segF (w : World) : ∀ os, segRun treeTable pT w 28 ann 1 20100 (SD w.params os).abs thF = some (.next, (SF w.params os).abs, cdT, ⟨281, 0, 292, 20⟩) :=
  byRow2 rS (P := fun w => ∀ os, segRun treeTable pT w 28 ann 1 20100 (SD w.params os).abs thF = some (.next, (SF w.params os).abs, cdT, ⟨281, 0, 292, 20⟩))
    (fun w => wayF (by decide) (preFf w)) (fun w => wayF (by decide) (preFt w)) w
end
section
noncomputable abbrev qO : Program := opening pT
noncomputable abbrev osO : OsState := (start qO).1.os
noncomputable abbrev sZ : SharedT := ⟨.nil, 0, {}, #[], {}, 1, osO⟩
def ended (r : SharedT × Thread) : Option SharedT := match r.2.atExitBegin with
  | some [] => some r.1
  | _ => none
set_option maxHeartbeats 0 in
theorem impRun (w : World) : (tImp tTree qO w 798 sZ (start qO).2).bind ended = some (SI w.params osO) := by kernel_rfl
theorem impEnds (w : World) : importEnds treeTable qO w 799 (start qO).1 (start qO).2 = some (SI w.params osO).abs := by
  obtain ⟨⟨s, t⟩, e1, e2⟩ := Option.bind_eq_some_iff.mp (impRun w)
  rw [← eImp] at e1
  have hs : (start qO).1 = sZ.abs := by rfl
  have ht : t.atExitBegin = some [] ∧ s = SI w.params osO := by
    unfold ended at e2
    dsimp only at e2
    split at e2
    · rename_i h; exact ⟨h, Option.some.inj e2⟩
    · cases e2
  rw [hs]
  have k : importEnds treeTable qO w 1 s.abs t = some s.abs := by
    unfold importEnds
    rw [ht.1]
  have := imp_go (impGo_of e1) k
  rw [ht.2] at this
  exact this
set_option maxHeartbeats 0 in
theorem fence (w : World) : (fun os => (fenceModules? pT ⟨absHeap (treeI w.params) 28 {}, #[], {}, 276, os⟩).map (fun s => (s.heap, s.gens, s.drawn, s.toks))) = fun _ => some (absHeap (treeS w.params) 28 {}, #[], {}, 276) := by kernel_rfl
theorem opened (N : Nat) (le : Nat.ble 799 N = true) : ∀ w : World, (fencedOpening treeTable pT w N).map (fun s => (s.heap, s.gens, s.drawn, s.toks)) = some (absHeap (treeS w.params) 28 {}, #[], {}, 276) :=
  open_cut (He := fun P => absHeap (treeI P) 28 {}) (H₀ := fun P => absHeap (treeS P) 28 {}) (fun w => impEnds w) le fence
set_option maxHeartbeats 0 in
theorem preT (w : World) : (fun os => topGo treeTable pT w 28 ann 12 (SS w.params os).abs (topStub pT)) = fun os => some ((SP w.params os).abs, ⟨denote treeTable cdT, cdT, ⟨0, 0, 0, 0⟩, fB⟩) := by kernel_rfl
set_option maxHeartbeats 0 in
theorem blkT (w : World) : (fun os => segRun treeTable pT w 28 ann 1 1 (SP w.params os).abs (blockOf bsT envT cdT ⟨0, 0, 0, 0⟩ fB)) = fun os => some (.next, (SP w.params os).abs, cdT, ⟨0, 0, 0, 0⟩) := by kernel_rfl
set_option maxHeartbeats 0 in
theorem finT (w : World) : (fun os => topRun treeTable pT w 28 ann 3 (SF w.params os).abs ⟨doneF .next, cdT, ⟨281, 0, 292, 20⟩, fB⟩) = fun os => some (SF w.params os).abs := by kernel_rfl
theorem cutB : bsT = lA ++ (lE ++ (lB ++ (lC ++ (lD ++ (lF ++ []))))) := by
  have d (i k : Nat) : bsT.drop i = (bsT.drop i).take k ++ bsT.drop (i + k) := by
    have := (List.take_append_drop k (bsT.drop i)).symm
    rwa [List.drop_drop] at this
  have e0 := d 0 5
  have e1 := d 5 5
  have e1b := d 10 1
  have e2 := d 11 8
  have e3 := d 19 2
  have e4 := d 21 42
  have e5 : bsT.drop (21 + 42) = [] := by kernel_rfl
  rw [e5] at e4
  rw [show 0 + 5 = 5 from rfl, e1, show 5 + 5 = 10 from rfl, e1b, show 10 + 1 = 11 from rfl, e2, show 11 + 8 = 19 from rfl, e3, show 19 + 2 = 21 from rfl, e4] at e0
  exact e0
theorem ranT (w : World) (os : OsState) : topRun treeTable pT w 28 ann (12 + (1 + (20155 + (20000 + (20053 + (20153 + (20035 + (20100 + 3))))))))
    (SS w.params os).abs (topStub pT) = some (SF w.params os).abs := by
  refine go_top (congrFun (preT w) os) ?_
  refine piece_block (congrFun (blkT w) os) ?_
  rw [cutB]
  refine piece_app (segA w os) ?_
  refine piece_app (segE w os) ?_
  refine piece_app (segB w os) ?_
  refine piece_app (segC w os) ?_
  refine piece_app (segD w os) ?_
  refine piece_app (segF w os) ?_
  exact piece_nil (congrFun (finT w) os)
end
section
noncomputable def KF (P : Params) : Frag := (nat_lit 2, o2 P) :: (nat_lit 3, o3v6 P) :: (nat_lit 35, o35 P) :: (nat_lit 36, o36 P) :: (nat_lit 37, o37 P) :: (nat_lit 39, o39 P) :: (nat_lit 40, o40 P) :: (nat_lit 42, o42 P) :: (nat_lit 43, o43 P) :: (nat_lit 45, o45 P) :: (nat_lit 49, o49 P) :: (nat_lit 51, o51 P) :: (nat_lit 52, o52 P) :: (nat_lit 54, o54 P) :: (nat_lit 55, o55 P) :: (nat_lit 56, o56 P) :: (nat_lit 58, o58 P) :: (nat_lit 59, o59 P) :: (nat_lit 61, o61 P) :: (nat_lit 62, o62 P) :: (nat_lit 63, o63 P) :: (nat_lit 65, o65 P) :: (nat_lit 66, o66 P) :: (nat_lit 68, o68 P) :: (nat_lit 69, o69 P) :: (nat_lit 73, o73 P) :: (nat_lit 74, o74 P) :: (nat_lit 82, o82v1 P) :: (nat_lit 91, o91 P) :: (nat_lit 93, o93 P) :: (nat_lit 94, o94 P) :: (nat_lit 96, o96 P) :: (nat_lit 97, o97 P) :: (nat_lit 98, o98 P) :: (nat_lit 99, o99 P) :: (nat_lit 101, o101 P) :: (nat_lit 102, o102 P) :: (nat_lit 104, o104 P) :: (nat_lit 105, o105 P) :: (nat_lit 111, o111 P) :: (nat_lit 113, o113 P) :: (nat_lit 114, o114 P) :: (nat_lit 116, o116 P) :: (nat_lit 117, o117 P) :: (nat_lit 118, o118 P) :: (nat_lit 120, o120 P) :: (nat_lit 121, o121 P) :: (nat_lit 123, o123 P) :: (nat_lit 124, o124 P) :: (nat_lit 125, o125 P) :: (nat_lit 127, o127 P) :: (nat_lit 128, o128 P) :: (nat_lit 130, o130 P) :: (nat_lit 131, o131 P) :: (nat_lit 132, o132 P) :: (nat_lit 133, o133 P) :: (nat_lit 134, o134 P) :: (nat_lit 135, o135 P) :: (nat_lit 136, o136 P) :: (nat_lit 137, o137 P) :: (nat_lit 138, o138 P) :: (nat_lit 139, o139 P) :: (nat_lit 140, o140 P) :: (nat_lit 141, o141 P) :: (nat_lit 142, o142 P) :: (nat_lit 143, o143 P) :: (nat_lit 144, o144 P) :: (nat_lit 145, o145 P) :: (nat_lit 146, o146 P) :: (nat_lit 147, o147 P) :: (nat_lit 148, o148 P) :: (nat_lit 149, o149 P) :: (nat_lit 150, o150 P) :: (nat_lit 151, o151 P) :: (nat_lit 152, o152 P) :: (nat_lit 153, o153 P) :: (nat_lit 154, o154 P) :: (nat_lit 155, o155 P) :: (nat_lit 156, o156 P) :: (nat_lit 157, o157 P) :: (nat_lit 158, o158 P) :: (nat_lit 159, o159 P) :: (nat_lit 160, o160 P) :: (nat_lit 161, o161 P) :: (nat_lit 162, o162 P) :: (nat_lit 163, o163 P) :: (nat_lit 164, o164 P) :: (nat_lit 165, o165 P) :: (nat_lit 167, o167 P) :: (nat_lit 168, o168 P) :: (nat_lit 170, o170 P) :: (nat_lit 171, o171 P) :: (nat_lit 172, o172 P) :: (nat_lit 174, o174 P) :: (nat_lit 175, o175 P) :: (nat_lit 177, o177 P) :: (nat_lit 178, o178 P) :: (nat_lit 179, o179 P) :: (nat_lit 182, o182 P) :: (nat_lit 183, o183 P) :: (nat_lit 184, o184 P) :: (nat_lit 186, o186 P) :: (nat_lit 187, o187 P) :: (nat_lit 189, o189 P) :: (nat_lit 190, o190 P) :: (nat_lit 191, o191 P) :: (nat_lit 193, o193 P) :: (nat_lit 194, o194 P) :: (nat_lit 196, o196 P) :: (nat_lit 197, o197 P) :: (nat_lit 198, o198 P) :: (nat_lit 201, o201 P) :: (nat_lit 202, o202 P) :: (nat_lit 203, o203 P) :: (nat_lit 205, o205 P) :: (nat_lit 206, o206 P) :: (nat_lit 208, o208 P) :: (nat_lit 209, o209 P) :: (nat_lit 210, o210 P) :: (nat_lit 213, o213 P) :: (nat_lit 214, o214 P) :: (nat_lit 215, o215 P) :: (nat_lit 217, o217 P) :: (nat_lit 218, o218 P) :: (nat_lit 220, o220 P) :: (nat_lit 221, o221 P) :: (nat_lit 222, o222 P) :: (nat_lit 225, o225 P) :: (nat_lit 226, o226 P) :: (nat_lit 227, o227 P) :: (nat_lit 229, o229 P) :: (nat_lit 230, o230 P) :: (nat_lit 232, o232 P) :: (nat_lit 233, o233 P) :: (nat_lit 234, o234 P) :: (nat_lit 237, o237 P) :: (nat_lit 238, o238 P) :: []
def asF : List Addr := [2, 3, 35, 36, 37, 39, 40, 42, 43, 45, 49, 51, 52, 54, 55, 56, 58, 59, 61, 62, 63, 65, 66, 68, 69, 73, 74, 82, 91, 93, 94, 96, 97, 98, 99, 101, 102, 104, 105, 111, 113, 114, 116, 117, 118, 120, 121, 123, 124, 125, 127, 128, 130, 131, 132, 133, 134, 135, 136, 137, 138, 139, 140, 141, 142, 143, 144, 145, 146, 147, 148, 149, 150, 151, 152, 153, 154, 155, 156, 157, 158, 159, 160, 161, 162, 163, 164, 165, 167, 168, 170, 171, 172, 174, 175, 177, 178, 179, 182, 183, 184, 186, 187, 189, 190, 191, 193, 194, 196, 197, 198, 201, 202, 203, 205, 206, 208, 209, 210, 213, 214, 215, 217, 218, 220, 221, 222, 225, 226, 227, 229, 230, 232, 233, 234, 237, 238]
noncomputable def qV : Program := { pT with main := { pT.main with body := [stAt 0, stAt 63] } }
def lsV : List Str := [Str.ofString "twin_re_1_fnmatch", Str.ofString "translate", Str.ofString "_special_chars_map", Str.ofString "escape", Str.ofString "_translate", Str.ofString "_join_translated_parts", Str.ofString "twin_re_1_quoprimime", Str.ofString "_QUOPRI_MAP", Str.ofString "_QUOPRI_HEADER_MAP", Str.ofString "_QUOPRI_BODY_MAP", Str.ofString "ascii_lowercase", Str.ofString "ascii_uppercase", Str.ofString "ascii_letters", Str.ofString "digits", Str.ofString "unquote", Str.ofString "header_encode", Str.ofString "_QUOPRI_BODY_ENCODE_MAP", Str.ofString "_unquote_match", Str.ofString "header_decode", Str.ofString "S_IFMT", Str.ofString "S_IFDIR", Str.ofString "S_IFCHR", Str.ofString "S_IFBLK", Str.ofString "S_IFREG", Str.ofString "S_IFIFO", Str.ofString "S_IFLNK", Str.ofString "S_IFSOCK", Str.ofString "S_ISUID", Str.ofString "S_ISGID", Str.ofString "S_ISVTX", Str.ofString "S_IRUSR", Str.ofString "S_IWUSR", Str.ofString "S_IXUSR", Str.ofString "S_IRGRP", Str.ofString "S_IWGRP", Str.ofString "S_IXGRP", Str.ofString "S_IROTH", Str.ofString "S_IWOTH", Str.ofString "S_IXOTH", Str.ofString "_filemode_table", Str.ofString "filemode", Str.ofString "_law_listed", Str.ofString "_law_read", Str.ofString "_law_fits", Str.ofString "_law_takes", Str.ofString "_law_runs", Str.ofString "_law_told", Str.ofString "_law_p", Str.ofString "_law_q", Str.ofString "_law_word", Str.ofString "_law_run"]
noncomputable abbrev H₀ (P : Params) : Heap := absHeap (treeS P) 28 {}
noncomputable abbrev H₁ (P : Params) : Heap := absHeap (treeF P) 239 {}
noncomputable abbrev modsT : List Str := importedModules pT.main.body
set_option maxHeartbeats 0 in
theorem size0 (w : World) : ((H₀ w.params).isNs mainGlobals && (#[] : Array GenState).size == 0, (H₀ w.params).objs.size, (H₀ w.params).nsMap mainGlobals "__annotations__") = (true, 28, ann) := by kernel_rfl
set_option maxHeartbeats 0 in
theorem look1 (w : World) : (fun os => (staticsOk modsT (H₀ w.params) (H₁ w.params) && namesBound pT (H₁ w.params) && gensDone ⟨H₁ w.params, #[], {}, 2320, os⟩ && laidKept (H₀ w.params) (H₁ w.params))) = fun _ => true := by kernel_rfl
noncomputable abbrev tSeen := PySem.W.Fast.tw4187177175401517315
theorem eSeen : openSeen = tSeen := PySem.W.Fast.te4187177175401517315
set_option maxHeartbeats 0 in
theorem look2 (w : World) : (fun os => tSeen qV lsV modsT (fun _ => true) true ⟨H₁ w.params, #[], {}, 2320, os⟩) = fun _ => openGood qV lsV := by kernel_rfl
theorem asF_K (P : Params) : asF = (KF P).map (·.1) := by kernel_rfl
noncomputable abbrev HK : Hook := kHook KF asF asF_K
set_option maxHeartbeats 0 in
theorem look3 (w : World) : (fun os => HK.obs ⟨H₁ w.params, #[], {}, 2320, os⟩) = fun _ => HK.val w := by kernel_rfl
theorem leftT : LeftO pT qV lsV (fun _ => true) HK.obs HK.val 200000 := by
  refine LeftO.of_pieces (H₀ := H₀) (H₁ := H₁) (gs₀ := #[]) (gs₁ := #[]) (d₀ := {}) (d₁ := {}) (k₀ := 276) (k₁ := 2320) (m₀ := 28) (ann := ann) (opened 200000 rfl) size0 (fun w os => ranT w os) rfl fun w => ?_
  funext os
  have a := congrFun (look1 w) os
  have b := congrFun (look2 w) os
  have c := congrFun (look3 w) os
  rw [← eSeen] at b
  exact Prod.ext a (Prod.ext b c)
end
section
abbrev prT : Program := PySem.Challenge.rw_in0170_01.row.prog
noncomputable abbrev LV : List Str := looseW qV lsV
theorem enter {prog : Program} {w : World} {K : Frag} {p : Program} {loose : List Str} {mean : ExcName → Option Value} {mg mb : Str → Option Value}
    {A : Around} {s : Shared} {Q E : Value → Shared → Prop} {f : Addr} {vs : List Value} {kw : List (Str × Value)}
    {name qual : Str} {params : Arguments} {body : List Stmt} {scope : Scope} {dV kV doc pm cdv ct oc : Value} {an od : Option Addr} {osl : Array (Option Value)} (binds : List (Str × Value))
    (X : K.In s.heap) (T : Top p loose mean mg mb s.heap) (hroom : A.depth < recursionLimit)
    (ho : K.lookup f = some ⟨oc, od, .func (fnOf name qual params body scope dV kV doc pm an cdv ct), osl⟩) (hcd : codeIn K cdv qual = true)
    (hbind : BindsTo s (fnOf name qual params body scope dV kV doc pm an cdv ct) ⟨vs, kw⟩ binds) (hloc : ∀ y ∈ binds, scope.names.lookup y.1 = some .local)
    (h : ∀ L h₁, Fr s.heap L h₁ (fun y => binds.reverse.lookup y) → News s.heap L h₁ [] →
      wpAny (model prog w) (A.deeper (envOf qual scope L f cdv)) (execs body (envOf qual scope L f cdv))
        (fun fl s' => Q (match fl with | .ret v => v | _ => .none) s') (fun _ _ => False)
        { s with heap := h₁, toks := s.toks + binds.length })
    (hco : scope.isCoroutine = false) (hgen : scope.isGenerator = false) (hk : scope.kind = .function)
    (hcell : ∀ x ∈ scope.names, x.2 ≠ .cell) : wpAny (model prog w) A (call (.ref f) vs kw) Q E s := by
  refine wpAny_call ?_
  refine codeAny_call_def (fd := fnOf name qual params body scope dV kV doc pm an cdv ct) (body := body) (binds := binds) hroom (X _ _ ho) rfl T.nolimit (codeRec_of X hcd) rfl hbind hcell hloc (fun h₁ hns hk₁ => ?_) hco hgen hk
  exact wpAny_mono (h _ h₁ ⟨hns, hk₁, Nat.le_refl _⟩ News.nil) (fun _ _ q => q) (fun _ _ q => q.elim)
end
section
abbrev L := List Nat
def specials : L := [40,41,91,93,123,125,63,42,43,45,124,94,36,92,46,38,126,35,32,9,10,13,11,12]
def esc (c : Nat) : L := if specials.contains c then [92, c] else [c]
def one (c : Nat) : L := if c = 63 then [46] else esc c
def cod (r : L) : L := r.flatMap one
def runs : L → L × List L
  | [] => ([], [])
  | c :: r => if c = 42 then ([], if (runs r).1 = [] ∧ (runs r).2 ≠ [] then (runs r).2 else (runs r).1 :: (runs r).2) else (c :: (runs r).1, (runs r).2)
def tjT : List L → L
  | [] => []
  | [X] => 46 :: 42 :: cod X
  | X :: Y :: r => 40 :: 63 :: 62 :: 46 :: 42 :: 63 :: (cod X ++ 41 :: tjT (Y :: r))
def told (x : L) : L := 40 :: 63 :: 115 :: 58 :: (cod (runs x).1 ++ (tjT (runs x).2 ++ [41, 92, 90]))
def fit : L → L → Bool
  | [], _ => true
  | _ :: _, [] => false
  | a :: x, b :: t => (a == 63 || a == b) && fit x t
def find (X : L) : L → Option L
  | [] => if fit X [] then some [] else none
  | b :: t => if fit X (b :: t) then some ((b :: t).drop X.length) else find X t
def takesT : List L → L → Bool
  | [], t => t.isEmpty
  | [X], t => decide (X.length ≤ t.length) && fit X (t.drop (t.length - X.length))
  | X :: Y :: r, t => match find X t with
    | none => false
    | some t' => takesT (Y :: r) t'
def takes (p : L × List L) (name : L) : Bool := fit p.1 name && takesT p.2 (name.drop p.1.length)
def ends (a b : L) : Bool := b.isSuffixOf a
def lcmp (very : Bool) (run l : L) : Bool := if very then run == l else ends run l
def lstep (very : Bool) (left : List L) (run : L) : List L := match left with
  | a :: b :: r => if lcmp very run a then b :: r else left
  | _ => left
def lawTold (very : Bool) (p q : L × List L) : Bool :=
  match p.2 with
  | [] => decide (p = q)
  | [Pm] => match q.2 with
    | [] => (p.1 ++ [63]).isPrefixOf q.1 && ends (q.1.drop (p.1.length + 1)) Pm
    | [Qm] => if q.1 = p.1 then ends Qm Pm else (p.1 ++ [63]).isPrefixOf q.1 && ends Qm Pm
    | Q1 :: Q2 :: r => (p.1 ++ [63]).isPrefixOf q.1 && ends ((Q2 :: r).getLast (by simp)) Pm
  | P1 :: P2 :: pr => match q.2 with
    | Q1 :: Q2 :: r =>
      if q.1 ≠ p.1 ∨ ends ((Q2 :: r).getLast (by simp)) ((P2 :: pr).getLast (by simp)) = false then false else
      match ((Q1 :: Q2 :: r).dropLast.dropLast.foldl (lstep very) (P1 :: P2 :: pr).dropLast) with
      | [a] => lcmp very ((Q1 :: Q2 :: r).dropLast.getLastD []) a
      | _ => false
    | _ => false
def signs : L := [112, 99, 100, 98, 45, 108, 115, 114, 119, 120, 83, 84, 116, 63]
def okr (X : L) : Prop := ∀ c ∈ X, c ∈ signs
def okt (x : L) : Prop := ∀ c ∈ x, c = 42 ∨ c ∈ signs
def csig : L := [112, 99, 100, 98, 45, 108, 115, 114, 119, 120, 83, 84, 116, 92, 46]
theorem one_csig {c : Nat} (h : c ∈ signs) : ∀ d ∈ one c, d ∈ csig := by
  revert c
  decide
theorem cod_csig {X : L} (h : okr X) : ∀ d ∈ cod X, d ∈ csig := by
  intro d hd
  obtain ⟨c, hc, hcd⟩ := List.mem_flatMap.mp hd
  exact one_csig (h c hc) d hcd
theorem cod_no {X : L} (h : okr X) {d : Nat} (hd : d ∉ csig) : d ∉ cod X := fun q => hd (cod_csig h d q)
theorem cod_nil : cod [] = [] := rfl
theorem cod_cons (c : Nat) (X : L) : cod (c :: X) = one c ++ cod X := rfl
theorem cod_app (X Y : L) : cod (X ++ Y) = cod X ++ cod Y := by simp [cod, List.flatMap_append]
theorem okr_tail {c : Nat} {X : L} (h : okr (c :: X)) : okr X := fun d hd => h d (.tail _ hd)
theorem okr_head {c : Nat} {X : L} (h : okr (c :: X)) : c ∈ signs := h c (.head _)
def hd1 (c : Nat) : Nat := if c = 63 then 46 else if c = 45 then 92 else c
theorem one_form {c : Nat} (h : c ∈ signs) : one c = if c = 45 then [92, 45] else [hd1 c] := by
  revert c; decide
theorem hd1_inj {c d : Nat} (hc : c ∈ signs) (hd : d ∈ signs) (h : hd1 c = hd1 d) : c = d := by
  exact (by decide : ∀ c ∈ signs, ∀ d ∈ signs, hd1 c = hd1 d → c = d) c hc d hd h
theorem hd1_csig {c : Nat} (h : c ∈ signs) : hd1 c ∈ csig := by revert c; decide
theorem one_cons {c : Nat} (h : c ∈ signs) (t : L) : ∃ u, one c ++ t = hd1 c :: u ∧ (c = 45 → u = 45 :: t) ∧ (c ≠ 45 → u = t) := by
  rw [one_form h]
  by_cases e : c = 45
  · subst e; exact ⟨45 :: t, rfl, fun _ => rfl, fun q => absurd rfl q⟩
  · rw [if_neg e]; exact ⟨t, rfl, fun q => absurd q e, fun _ => rfl⟩
theorem fit_nil (t : L) : fit [] t = true := rfl
theorem fit_app (X Z t : L) : fit (X ++ Z) t = (fit X t && fit Z (t.drop X.length)) := by
  induction X generalizing t with
  | nil => simp [fit]
  | cons a X ih =>
    cases t with
    | nil => simp [fit]
    | cons b t => simp only [List.cons_append, fit, ih, List.length_cons, List.drop_succ_cons, Bool.and_assoc]
theorem fit_lit {a : Nat} (h : a ≠ 63) (x t : L) : fit (a :: x) t = match t with | [] => false | b :: r => (a == b && fit x r) := by
  cases t with
  | nil => rfl
  | cons b r => rw [show fit (a :: x) (b :: r) = ((a == 63 || a == b) && fit x r) from rfl, beq_false_of_ne h]; rfl
theorem fit_len {X t : L} (h : fit X t = true) : X.length ≤ t.length := by
  induction X generalizing t with
  | nil => exact Nat.zero_le _
  | cons a X ih =>
    cases t with
    | nil => cases h
    | cons b t => simp only [fit, Bool.and_eq_true] at h; simp only [List.length_cons]; exact Nat.succ_le_succ (ih h.2)
theorem fit_pre {X : L} (h : 63 ∉ X) (t : L) : fit X t = X.isPrefixOf t := by
  induction X generalizing t with
  | nil => simp [fit]
  | cons a X ih =>
    have ha : a ≠ 63 := fun q => h (q ▸ .head _)
    cases t with
    | nil => rfl
    | cons b t =>
      rw [show fit (a :: X) (b :: t) = ((a == 63 || a == b) && fit X t) from rfl, beq_false_of_ne ha, ih fun q => h (.tail _ q)]
      rfl
theorem fit_false_of {X t : L} {a b : Nat} (k : Nat) (hX : X[k]? = some a) (ht : t[k]? = some b) (h1 : a ≠ 63) (h2 : a ≠ b) : fit X t = false := by
  induction k generalizing X t with
  | zero =>
    cases X with
    | nil => cases hX
    | cons x X =>
      cases t with
      | nil => cases ht
      | cons y t =>
        simp only [List.getElem?_cons_zero, Option.some.injEq] at hX ht
        subst hX ht
        rw [show fit (x :: X) (y :: t) = ((x == 63 || x == y) && fit X t) from rfl, beq_false_of_ne h1, beq_false_of_ne h2]; rfl
  | succ k ih =>
    cases X with
    | nil => cases hX
    | cons x X =>
      cases t with
      | nil => cases ht
      | cons y t =>
        simp only [List.getElem?_cons_succ] at hX ht
        rw [show fit (x :: X) (y :: t) = ((x == 63 || x == y) && fit X t) from rfl, ih hX ht, Bool.and_false]
theorem runs_star (a b : L) (h : 42 ∉ a) : runs (a ++ 42 :: b) = (a, if (runs b).1 = [] ∧ (runs b).2 ≠ [] then (runs b).2 else (runs b).1 :: (runs b).2) := by
  induction a with
  | nil => simp [runs]
  | cons c a ih =>
    have hc : c ≠ 42 := fun q => h (q ▸ .head _)
    simp only [List.cons_append, runs, if_neg hc, ih fun q => h (.tail _ q)]
theorem runs_plain (a : L) (h : 42 ∉ a) : runs a = (a, []) := by
  induction a with
  | nil => rfl
  | cons c a ih =>
    have hc : c ≠ 42 := fun q => h (q ▸ .head _)
    simp only [runs, if_neg hc, ih fun q => h (.tail _ q)]
theorem runs_star' (a b : L) (h : 42 ∉ a) (hb : (runs b).1 ≠ []) : runs (a ++ 42 :: b) = (a, (runs b).1 :: (runs b).2) := by
  rw [runs_star a b h, if_neg fun q => hb q.1]
theorem runs_mem (x : L) : (∀ c ∈ (runs x).1, c ∈ x ∧ c ≠ 42) ∧ ∀ r ∈ (runs x).2, ∀ c ∈ r, c ∈ x ∧ c ≠ 42 := by
  induction x with
  | nil => simp [runs]
  | cons d x ih =>
    obtain ⟨i1, i2⟩ := ih
    by_cases e : d = 42
    · subst e
      have q : ∀ r ∈ (runs x).2, ∀ c ∈ r, c ∈ 42 :: x ∧ c ≠ 42 := fun r hr c hc => ⟨.tail _ (i2 r hr c hc).1, (i2 r hr c hc).2⟩
      simp only [runs, if_true]
      refine ⟨fun c hc => (nomatch hc), fun r hr c hc => ?_⟩
      split at hr
      · exact q r hr c hc
      · rcases List.mem_cons.mp hr with rfl | hr
        · exact ⟨.tail _ (i1 c hc).1, (i1 c hc).2⟩
        · exact q r hr c hc
    · simp only [runs, if_neg e]
      refine ⟨fun c hc => ?_, fun r hr c hc => ⟨.tail _ (i2 r hr c hc).1, (i2 r hr c hc).2⟩⟩
      rcases List.mem_cons.mp hc with rfl | hc
      · exact ⟨.head _, e⟩
      · exact ⟨.tail _ (i1 c hc).1, (i1 c hc).2⟩
theorem runs_okr {x : L} (h : okt x) : okr (runs x).1 ∧ ∀ r ∈ (runs x).2, okr r := by
  obtain ⟨a, b⟩ := runs_mem x
  exact ⟨fun c hc => (h c (a c hc).1).resolve_left (a c hc).2, fun r hr c hc => (h c (b r hr c hc).1).resolve_left (b r hr c hc).2⟩
def tr (A : L) (E : L) : List L → L × List L
  | [] => (A ++ E, [])
  | [X] => (A ++ [46], [cod X ++ E])
  | X :: Y :: r => (A ++ [40, 63, 62, 46], (tr (63 :: (cod X ++ [41])) E (Y :: r)).1 :: (tr (63 :: (cod X ++ [41])) E (Y :: r)).2)
theorem tr_ne (A E : L) (l : List L) (h : A ≠ []) : (tr A E l).1 ≠ [] := by
  cases l with
  | nil => simp [tr, h]
  | cons X r => cases r <;> simp [tr]
theorem runs_tr (A E : L) (l : List L) (hA : 42 ∉ A) (hE : 42 ∉ E) (hEn : E ≠ []) (hl : ∀ X ∈ l, okr X) : runs (A ++ (tjT l ++ E)) = tr A E l := by
  induction l generalizing A with
  | nil =>
    simp only [tjT, List.nil_append, tr]
    exact runs_plain _ fun q => (List.mem_append.mp q).elim hA hE
  | cons X r ih =>
    have no := cod_no (hl X (.head _)) (d := 42) (by decide)
    cases r with
    | nil =>
      have e : A ++ (tjT [X] ++ E) = (A ++ [46]) ++ 42 :: (cod X ++ E) := by simp [tjT]
      have p := runs_plain (cod X ++ E) fun q => (List.mem_append.mp q).elim no hE
      rw [e, runs_star' _ _ (fun q => (List.mem_append.mp q).elim hA (by decide)) (by rw [p]; simp [hEn]), p]
      rfl
    | cons Y r =>
      have e : A ++ (tjT (X :: Y :: r) ++ E) = (A ++ [40, 63, 62, 46]) ++ 42 :: ((63 :: (cod X ++ [41])) ++ (tjT (Y :: r) ++ E)) := by simp [tjT]
      have hA' : 42 ∉ 63 :: (cod X ++ [41]) := by
        intro q
        rcases List.mem_cons.mp q with q | q
        · cases q
        · exact (List.mem_append.mp q).elim no (by decide)
      have k := ih (63 :: (cod X ++ [41])) hA' (fun Z hZ => hl Z (.tail _ hZ))
      rw [e, runs_star' _ _ (fun q => (List.mem_append.mp q).elim hA (by decide)) (by rw [k]; exact tr_ne _ _ _ (by simp)), k]
      rfl
abbrev EE : L := [41, 92, 90]
theorem fit_self (U P T : L) : fit (U ++ P) (U ++ T) = fit P T := by
  induction U with
  | nil => rfl
  | cons a U ih => rw [List.cons_append, List.cons_append, show fit (a :: (U ++ P)) (a :: (U ++ T)) = ((a == 63 || a == a) && fit (U ++ P) (U ++ T)) from rfl, ih]; simp
theorem fit_ne {a b : Nat} (h1 : a ≠ 63) (h2 : a ≠ b) (x t : L) : fit (a :: x) (b :: t) = false := by
  rw [show fit (a :: x) (b :: t) = ((a == 63 || a == b) && fit x t) from rfl, beq_false_of_ne h1, beq_false_of_ne h2]; rfl
theorem csig_ne {c d : Nat} (h : c ∈ csig) (hd : d ∉ csig) : c ≠ d := fun q => hd (q ▸ h)
theorem fitA {X Y S R : L} (hX : okr X) (hY : okr Y) (hR : ∀ x X', okr (x :: X') → fit (cod (x :: X') ++ S) R = false) (h : ¬ X <+: Y) : fit (cod X ++ S) (cod Y ++ R) = false := by
  induction X generalizing Y with
  | nil => exact absurd (List.nil_prefix) h
  | cons x X ih =>
    cases Y with
    | nil => exact hR x X hX
    | cons y Y =>
      by_cases e : x = y
      · subst e
        rw [cod_cons, cod_cons, List.append_assoc, List.append_assoc, fit_self]
        exact ih (okr_tail hX) (okr_tail hY) fun q => h ((List.prefix_cons_inj x).mpr q)
      · rw [cod_cons, cod_cons, List.append_assoc, List.append_assoc]
        obtain ⟨u, hu, _⟩ := one_cons (okr_head hX) (cod X ++ S)
        obtain ⟨v, hv, _⟩ := one_cons (okr_head hY) (cod Y ++ R)
        rw [hu, hv]
        exact fit_ne (csig_ne (hd1_csig (okr_head hX)) (by decide)) (fun q => e (hd1_inj (okr_head hX) (okr_head hY) q)) _ _
theorem cod_head {X : L} (hX : okr X) {S : L} {b : Nat} {t : L} (hb : b ∉ csig) (hS : ∀ s S', S = s :: S' → s ≠ 63 ∧ s ≠ b) (hn : S ≠ []) : fit (cod X ++ S) (b :: t) = false := by
  cases X with
  | nil =>
    cases S with
    | nil => exact absurd rfl hn
    | cons s S => exact fit_ne (hS s S rfl).1 (hS s S rfl).2 _ _
  | cons x X =>
    rw [cod_cons, List.append_assoc]
    obtain ⟨u, hu, _⟩ := one_cons (okr_head hX) (cod X ++ S)
    rw [hu]
    exact fit_ne (csig_ne (hd1_csig (okr_head hX)) (by decide)) (csig_ne (hd1_csig (okr_head hX)) hb) _ _
theorem fitR {S : L} (hS : ∀ s S', S = s :: S' → s ≠ 63 ∧ s ≠ 42) (hn : S ≠ []) (l : List L) (x : Nat) (X : L) (h : okr (x :: X)) : fit (cod (x :: X) ++ S) (tjT l ++ EE) = false := by
  rw [cod_cons, List.append_assoc]
  obtain ⟨u, hu, h45, hne⟩ := one_cons (okr_head h) (cod X ++ S)
  have c := hd1_csig (okr_head h)
  rw [hu]
  match l with
  | [] => exact fit_ne (csig_ne c (by decide)) (csig_ne c (by decide)) _ _
  | _ :: _ :: _ => exact fit_ne (csig_ne c (by decide)) (csig_ne c (by decide)) _ _
  | [Y] =>
    show fit (hd1 x :: u) (46 :: 42 :: (cod Y ++ EE)) = false
    by_cases e : hd1 x = 46
    · have x63 : x ≠ 45 := fun q => by rw [q] at e; exact absurd e (by decide)
      rw [hne x63, show fit (hd1 x :: (cod X ++ S)) (46 :: 42 :: (cod Y ++ EE)) = ((hd1 x == 63 || hd1 x == 46) && fit (cod X ++ S) (42 :: (cod Y ++ EE))) from rfl, cod_head (okr_tail h) (by decide) hS hn, Bool.and_false]
    · exact fit_ne (csig_ne c (by decide)) e _ _
theorem cod_inj {X Y : L} (hX : okr X) (hY : okr Y) (h : cod X = cod Y) : X = Y := by
  induction X generalizing Y with
  | nil =>
    cases Y with
    | nil => rfl
    | cons y Y =>
      obtain ⟨v, hv, _⟩ := one_cons (okr_head hY) (cod Y)
      rw [cod_cons, hv] at h; cases h
  | cons x X ih =>
    cases Y with
    | nil =>
      obtain ⟨v, hv, _⟩ := one_cons (okr_head hX) (cod X)
      rw [cod_cons, hv] at h; cases h
    | cons y Y =>
      obtain ⟨u, hu, _⟩ := one_cons (okr_head hX) (cod X)
      obtain ⟨v, hv, _⟩ := one_cons (okr_head hY) (cod Y)
      have e : x = y := hd1_inj (okr_head hX) (okr_head hY) (by rw [cod_cons, cod_cons, hu, hv] at h; exact (List.cons.inj h).1)
      subst e
      rw [cod_cons, cod_cons] at h
      rw [ih (okr_tail hX) (okr_tail hY) (List.append_cancel_left h)]
theorem cod_suf {X Y : L} (hX : okr X) (hY : okr Y) : cod X <:+ cod Y ↔ X <:+ Y := by
  constructor
  · rintro ⟨U, hU⟩
    induction Y generalizing U with
    | nil =>
      have : cod X = [] := (List.append_eq_nil_iff.mp hU).2
      rw [cod_inj hX (Y := []) hY this]
      exact List.suffix_refl _
    | cons y Y ih =>
      cases U with
      | nil => rw [cod_inj hX hY hU]; exact List.suffix_refl _
      | cons a U =>
        rw [cod_cons, one_form (okr_head hY)] at hU
        by_cases e : y = 45
        · subst e
          rw [if_pos rfl] at hU
          cases U with
          | nil =>
            exfalso
            have h2 : cod X = 45 :: cod Y := (List.cons.inj hU).2
            cases X with
            | nil => cases h2
            | cons x X =>
              obtain ⟨v, hv, _⟩ := one_cons (okr_head hX) (cod X)
              rw [cod_cons, hv] at h2
              exact (by decide : ∀ c ∈ signs, hd1 c ≠ 45) x (okr_head hX) (List.cons.inj h2).1
          | cons b U =>
            have h2 : U ++ cod X = cod Y := (List.cons.inj (List.cons.inj hU).2).2
            exact (ih (okr_tail hY) U h2).trans (List.suffix_cons _ _)
        · rw [if_neg e] at hU
          have h2 : U ++ cod X = cod Y := (List.cons.inj hU).2
          exact (ih (okr_tail hY) U h2).trans (List.suffix_cons _ _)
  · rintro ⟨U, rfl⟩
    exact ⟨cod U, (cod_app U X).symm⟩
theorem suf_stop {P U V : L} {d : Nat} (hd : d ∉ P) : P <:+ U ++ d :: V ↔ P <:+ V := by
  constructor
  · intro h
    rcases Nat.le_total P.length V.length with q | q
    · exact List.suffix_of_suffix_length_le h ⟨U ++ [d], by simp⟩ q
    · have k : V <:+ P := List.suffix_of_suffix_length_le ⟨U ++ [d], by simp⟩ h q
      obtain ⟨Z, rfl⟩ := k
      obtain ⟨T, hT⟩ := h
      rw [← List.append_assoc] at hT
      have e : T ++ Z = U ++ [d] := List.append_cancel_right (by rw [hT]; simp)
      rcases List.eq_nil_or_concat Z with rfl | ⟨Z', z, rfl⟩
      · exact List.suffix_refl _
      · exfalso
        rw [List.concat_eq_append, ← List.append_assoc] at e
        have := (List.append_inj' e rfl).2
        apply hd
        simp only [List.cons.injEq, and_true] at this
        rw [← this]; simp
  · intro h
    exact h.trans ⟨U ++ [d], by simp⟩
theorem takesT_one {P : L} (h : 63 ∉ P) (t : L) : takesT [P] t = P.isSuffixOf t := by
  show (decide (P.length ≤ t.length) && fit P (t.drop (t.length - P.length))) = _
  rw [fit_pre h]
  by_cases q : P.length ≤ t.length
  · rw [decide_eq_true q, Bool.true_and]
    rw [Bool.eq_iff_iff, List.isPrefixOf_iff_prefix, List.isSuffixOf_iff_suffix]
    constructor
    · intro k
      have : P = t.drop (t.length - P.length) := k.eq_of_length (by rw [List.length_drop]; omega)
      rw [this]; exact List.drop_suffix _ _
    · intro k
      rw [← List.suffix_iff_eq_drop.mp k]; exact List.prefix_refl _
  · rw [decide_eq_false q, Bool.false_and]
    symm
    rw [Bool.eq_false_iff, ne_eq, List.isSuffixOf_iff_suffix]
    exact fun k => q k.length_le
theorem ends_iff {a b : L} : ends a b = true ↔ b <:+ a := List.isSuffixOf_iff_suffix
theorem no63 {X : L} (h : okr X) : 63 ∉ cod X ++ EE := fun q => (List.mem_append.mp q).elim (cod_no h (by decide)) (by decide)
theorem endL {U V X : L} (hX : okr X) (hV : okr V) : takesT [cod X ++ EE] (U ++ 42 :: (cod V ++ EE)) = ends V X := by
  rw [takesT_one (no63 hX), Bool.eq_iff_iff, List.isSuffixOf_iff_suffix, ends_iff, ← cod_suf hX hV, ← suf_stop (U := U) (d := 42) (cod_no hX (by decide))]
  rw [show U ++ 42 :: (cod V ++ EE) = (U ++ 42 :: cod V) ++ EE by simp]
  exact List.suffix_append_inj_of_length_eq rfl |>.trans ⟨fun q => q.1, fun q => ⟨q, rfl⟩⟩
theorem endL0 {V X : L} (hX : okr X) (hV : okr V) : takesT [cod X ++ EE] (cod V ++ EE) = ends V X := by
  rw [takesT_one (no63 hX), Bool.eq_iff_iff, List.isSuffixOf_iff_suffix, ends_iff, ← cod_suf hX hV]
  exact List.suffix_append_inj_of_length_eq rfl |>.trans ⟨fun q => q.1, fun q => ⟨q, rfl⟩⟩
theorem fit_piece {X v Z R : L} (hX : okr X) (hv : 41 ∉ v) : fit (cod X ++ 41 :: Z) (v ++ 41 :: R) = (decide (v = cod X) && fit Z R) := by
  have n1 : 41 ∉ cod X := cod_no hX (by decide)
  have n2 : 63 ∉ cod X := cod_no hX (by decide)
  generalize cod X = C at n1 n2 ⊢
  induction C generalizing v with
  | nil =>
    cases v with
    | nil => simp [fit]
    | cons b v =>
      have : b ≠ 41 := fun q => hv (q ▸ .head _)
      rw [List.nil_append, List.cons_append, fit_ne (by decide) (Ne.symm this)]
      simp
  | cons c C ih =>
    have c1 : c ≠ 41 := fun q => n1 (q ▸ .head _)
    have c2 : c ≠ 63 := fun q => n2 (q ▸ .head _)
    cases v with
    | nil => rw [List.cons_append, List.nil_append, fit_ne c2 c1]; simp
    | cons b v =>
      rw [List.cons_append, List.cons_append]
      by_cases e : c = b
      · subst e
        have k := ih (v := v) (fun q => hv (.tail _ q)) (fun q => n1 (.tail _ q)) (fun q => n2 (.tail _ q))
        rw [show fit (c :: (C ++ 41 :: Z)) (c :: (v ++ 41 :: R)) = ((c == 63 || c == c) && fit (C ++ 41 :: Z) (v ++ 41 :: R)) from rfl, k]
        simp
      · rw [fit_ne c2 e]
        have : ¬ (b :: v = c :: C) := fun q => e (List.cons.inj q).1.symm
        simp [this]
def held (X Z : L) : L := 63 :: (cod X ++ 41 :: Z)
theorem held_len (X Z : L) : (held X Z).length = (cod X).length + Z.length + 2 := by simp [held]; omega
open Classical in
theorem find_held {X v Z R : L} (hX : okr X) (hv : 41 ∉ v) :
    find (held X Z) (v ++ 41 :: R) = if fit Z R = true ∧ ∃ a, a :: cod X <:+ v then some (R.drop Z.length) else find (held X Z) (41 :: R) := by
  induction v with
  | nil =>
    rw [if_neg]
    · rfl
    · rintro ⟨_, a, h⟩
      have := h.length_le
      simp at this
  | cons b v ih =>
    have hv' : 41 ∉ v := fun q => hv (.tail _ q)
    have e : fit (held X Z) (b :: (v ++ 41 :: R)) = (decide (v = cod X) && fit Z R) := by
      rw [show fit (held X Z) (b :: (v ++ 41 :: R)) = ((63 == 63 || 63 == b) && fit (cod X ++ 41 :: Z) (v ++ 41 :: R)) from rfl, fit_piece hX hv']
      rfl
    rw [List.cons_append, find, e, ih hv']
    by_cases hz : fit Z R = true
    · by_cases hc : v = cod X
      · rw [if_pos (by rw [hz, hc]; simp), if_pos ⟨hz, b, by rw [hc]; exact List.suffix_refl _⟩]
        rw [held_len, hc]
        congr 1
        rw [show (cod X).length + Z.length + 2 = ((b :: cod X) ++ [41]).length + Z.length by simp; omega, ← List.drop_drop]
        rw [show b :: (cod X ++ 41 :: R) = ((b :: cod X) ++ [41]) ++ R by simp, List.drop_left]
      · rw [if_neg (by simp [hc])]
        have q : (∃ a, a :: cod X <:+ v) ↔ ∃ a, a :: cod X <:+ b :: v := by
          constructor
          · rintro ⟨a, h⟩; exact ⟨a, h.trans (List.suffix_cons _ _)⟩
          · rintro ⟨a, h⟩
            rcases List.suffix_cons_iff.mp h with h | h
            · exact absurd (List.cons.inj h).2.symm hc
            · exact ⟨a, h⟩
        simp only [q]
    · rw [if_neg (by simp [hz]), if_neg fun q => hz q.1, if_neg fun q => hz q.1]
theorem held_suf {X Y V : L} (hX : okr X) (hY : okr Y) : (∃ a, a :: cod X <:+ V ++ 63 :: cod Y) ↔ X <:+ Y := by
  constructor
  · rintro ⟨a, h⟩
    have k : cod X <:+ V ++ 63 :: cod Y := (List.suffix_cons _ _).trans h
    exact (cod_suf hX hY).mp ((suf_stop (cod_no hX (by decide))).mp k)
  · rintro ⟨U, rfl⟩
    rw [cod_app]
    rcases List.eq_nil_or_concat (V ++ 63 :: cod U) with q | ⟨W, a, q⟩
    · simp at q
    · refine ⟨a, W, ?_⟩
      rw [List.concat_eq_append] at q
      rw [show V ++ 63 :: (cod U ++ cod X) = (V ++ 63 :: cod U) ++ cod X by simp, q]
      simp
theorem fit_has {C Z : L} : ∀ {t : L}, fit (C ++ 41 :: Z) t = true → 41 ∈ t := by
  induction C with
  | nil =>
    intro t h
    cases t with
    | nil => cases h
    | cons c t =>
      by_cases e : 41 = c
      · exact e ▸ .head _
      · rw [List.nil_append, fit_ne (by decide) e] at h; cases h
  | cons c C ih =>
    intro t h
    cases t with
    | nil => cases h
    | cons d t =>
      rw [List.cons_append, show fit (c :: (C ++ 41 :: Z)) (d :: t) = ((c == 63 || c == d) && fit (C ++ 41 :: Z) t) from rfl, Bool.and_eq_true] at h
      exact .tail _ (ih h.2)
theorem find_none {X Z : L} : ∀ {t : L}, 41 ∉ t.tail → find (held X Z) t = none := by
  intro t
  induction t with
  | nil => intro _; rfl
  | cons b t ih =>
    intro h
    have k : fit (held X Z) (b :: t) = false := by
      cases q : fit (held X Z) (b :: t) with
      | false => rfl
      | true =>
        rw [show fit (held X Z) (b :: t) = ((63 == 63 || 63 == b) && fit (cod X ++ 41 :: Z) t) from rfl, Bool.and_eq_true] at q
        exact absurd (fit_has q.2) h
    rw [find, k]
    exact ih fun q => h (List.mem_of_mem_tail q)
def KK (very : Bool) (X : L) (l1 : List L) : L → List L → Bool
  | _, [] => false
  | Y, [Ym] => match l1 with
    | [Xm] => lcmp very Y X && ends Ym Xm
    | _ => false
  | Y, Y2 :: Y3 :: r => match l1 with
    | X2 :: X3 :: r' => if lcmp very Y X then KK very X2 (X3 :: r') Y2 (Y3 :: r) else KK very X l1 Y2 (Y3 :: r)
    | _ => KK very X l1 Y2 (Y3 :: r)
def KL (very : Bool) (left ms : List L) : Bool := match ms.dropLast.foldl (lstep very) left with
  | [a] => lcmp very (ms.getLastD []) a
  | _ => false
theorem KL_one (very : Bool) (left : List L) (m : L) : KL very left [m] = match left with | [a] => lcmp very m a | _ => false := rfl
theorem KL_cons (very : Bool) (left : List L) (m m2 : L) (r : List L) : KL very left (m :: m2 :: r) = KL very (lstep very left m) (m2 :: r) := by
  simp [KL, List.dropLast, List.getLastD]
theorem KK_KL (very : Bool) (X : L) (l1 : List L) (h1 : l1 ≠ []) (Y : L) (l2 : List L) (h2 : l2 ≠ []) :
    KK very X l1 Y l2 = (KL very (X :: l1.dropLast) (Y :: l2.dropLast) && ends (l2.getLast h2) (l1.getLast h1)) := by
  induction l2 generalizing X l1 Y with
  | nil => exact absurd rfl h2
  | cons Y2 l2 ih =>
    cases l2 with
    | nil =>
      match l1, h1 with
      | [Xm], _ => simp [KK, KL_one]
      | X2 :: X3 :: r', _ => simp [KK, KL_one, List.dropLast]
    | cons Y3 r =>
      match l1, h1 with
      | [Xm], h1 =>
        have k := ih X [Xm] h1 Y2 (by simp)
        simp only [KK, k]
        simp only [List.dropLast, List.getLast]
        rw [KL_cons]
        rfl
      | X2 :: X3 :: r', h1 =>
        by_cases c : lcmp very Y X = true
        · have k := ih X2 (X3 :: r') (by simp) Y2 (by simp)
          simp only [KK, if_pos c, k]
          rw [show (Y :: (Y2 :: Y3 :: r).dropLast) = Y :: Y2 :: (Y3 :: r).dropLast from rfl, KL_cons]
          simp [lstep, List.dropLast, c, List.getLast]
        · have k := ih X (X2 :: X3 :: r') (by simp) Y2 (by simp)
          simp only [KK, if_neg c, k]
          rw [show (Y :: (Y2 :: Y3 :: r).dropLast) = Y :: Y2 :: (Y3 :: r).dropLast from rfl, KL_cons]
          simp [lstep, List.dropLast, c, List.getLast]
def Trest (Y : L) (l : List L) : L := 42 :: 63 :: (cod Y ++ 41 :: (tjT l ++ EE))
theorem no41 {V Y : L} (hV : 41 ∉ V) (hY : okr Y) : 41 ∉ V ++ 63 :: cod Y := by
  intro q
  rcases List.mem_append.mp q with q | q
  · exact hV q
  · rcases List.mem_cons.mp q with q | q
    · cases q
    · exact cod_no hY (by decide) q
open Classical in
theorem find_at {X Y V Z R : L} (hX : okr X) (hY : okr Y) (hV : 41 ∉ V) :
    find (held X Z) (V ++ 63 :: (cod Y ++ 41 :: R)) = if fit Z R = true ∧ X <:+ Y then some (R.drop Z.length) else find (held X Z) (41 :: R) := by
  rw [show V ++ 63 :: (cod Y ++ 41 :: R) = (V ++ 63 :: cod Y) ++ 41 :: R by simp, find_held hX (no41 hV hY)]
  simp only [held_suf hX hY]
theorem find_step {X Z : L} (hX : okr X) (l : List L) (hl : l ≠ []) : find (held X Z) (41 :: (tjT l ++ EE)) = find (held X Z) (tjT l ++ EE) := by
  have k : fit (held X Z) (41 :: (tjT l ++ EE)) = false := by
    rw [show fit (held X Z) (41 :: (tjT l ++ EE)) = ((63 == 63 || 63 == 41) && fit (cod X ++ 41 :: Z) (tjT l ++ EE)) from rfl]
    have : fit (cod X ++ 41 :: Z) (tjT l ++ EE) = false := by
      cases X with
      | nil =>
        match l, hl with
        | [Y], _ => rfl
        | Y :: Y2 :: r, _ => rfl
      | cons x X => exact fitR (fun s S' e => by cases e; decide) (by simp) l x X hX
    rw [this, Bool.and_false]
  rw [find, k]
  rfl
theorem find_last {X Ym Z : L} (hX : okr X) (hY : okr Ym) (hZ : fit Z [92, 90] = false) : find (held X Z) (41 :: (tjT [Ym] ++ EE)) = none := by
  rw [find_step hX _ (by simp)]
  have hv : 41 ∉ 46 :: 42 :: cod Ym := by
    intro q
    rcases List.mem_cons.mp q with q | q
    · cases q
    · rcases List.mem_cons.mp q with q | q
      · cases q
      · exact cod_no hY (by decide) q
  rw [show tjT [Ym] ++ EE = (46 :: 42 :: cod Ym) ++ 41 :: [92, 90] by simp [tjT], find_held hX hv, if_neg (by rw [hZ]; simp)]
  exact find_none (by decide)
theorem find_next {X Y2 Y3 Z : L} {r : List L} (hX : okr X) (hY : okr Y2) : find (held X Z) (41 :: (tjT (Y2 :: Y3 :: r) ++ EE)) = find (held X Z) (Trest Y2 (Y3 :: r)) := by
  rw [find_step hX _ (by simp)]
  rw [show tjT (Y2 :: Y3 :: r) ++ EE = [40, 63, 62, 46, 42] ++ 63 :: (cod Y2 ++ 41 :: (tjT (Y3 :: r) ++ EE)) by simp [tjT], find_at hX hY (by decide)]
  rw [show Trest Y2 (Y3 :: r) = [42] ++ 63 :: (cod Y2 ++ 41 :: (tjT (Y3 :: r) ++ EE)) from rfl, find_at hX hY (by decide)]
open Classical in
theorem find_T {X Y Z : L} (l : List L) (hX : okr X) (hY : okr Y) :
    find (held X Z) (Trest Y l) = if fit Z (tjT l ++ EE) = true ∧ X <:+ Y then some ((tjT l ++ EE).drop Z.length) else find (held X Z) (41 :: (tjT l ++ EE)) :=
  find_at (V := [42]) hX hY (by decide)
def Kp (X : L) (l1 : List L) (T : L) : Bool := takesT ((tr (63 :: (cod X ++ [41])) EE l1).1 :: (tr (63 :: (cod X ++ [41])) EE l1).2) T
theorem Kp_one (X Xm T : L) : Kp X [Xm] T = match find (held X [46]) T with | none => false | some t => takesT [cod Xm ++ EE] t := by
  have e : (tr (63 :: (cod X ++ [41])) EE [Xm]) = (held X [46], [cod Xm ++ EE]) := by simp [tr, held]
  unfold Kp
  rw [e]
  rfl
theorem Kp_more (X X2 X3 : L) (r : List L) (T : L) : Kp X (X2 :: X3 :: r) T = match find (held X [40, 63, 62, 46]) T with | none => false | some t => Kp X2 (X3 :: r) t := by
  have e : (tr (63 :: (cod X ++ [41])) EE (X2 :: X3 :: r)) = (held X [40, 63, 62, 46], (tr (63 :: (cod X2 ++ [41])) EE (X3 :: r)).1 :: (tr (63 :: (cod X2 ++ [41])) EE (X3 :: r)).2) := by simp [tr, held]
  unfold Kp
  rw [e]
  rfl
theorem lcmp_f {a b : L} : lcmp false a b = true ↔ b <:+ a := ends_iff
theorem Kp_KK (X : L) (l1 : List L) (h1 : l1 ≠ []) (Y : L) (l2 : List L) (h2 : l2 ≠ []) (hX : okr X) (hl1 : ∀ r ∈ l1, okr r) (hY : okr Y) (hl2 : ∀ r ∈ l2, okr r) :
    Kp X l1 (Trest Y l2) = KK false X l1 Y l2 := by
  induction l2 generalizing X l1 Y with
  | nil => exact absurd rfl h2
  | cons Y2 l2 ih =>
    have hY2 := hl2 Y2 (.head _)
    cases l2 with
    | nil =>
      match l1, h1 with
      | [Xm], _ =>
        rw [Kp_one, find_T _ hX hY]
        by_cases c : X <:+ Y
        · rw [if_pos ⟨rfl, c⟩]
          show takesT [cod Xm ++ EE] ([] ++ 42 :: (cod Y2 ++ EE)) = _
          rw [endL (hl1 Xm (.head _)) hY2]
          simp [KK, lcmp_f.mpr c]
        · rw [if_neg fun q => c q.2, find_last hX hY2 rfl]
          have : lcmp false Y X = false := by rw [Bool.eq_false_iff, ne_eq, lcmp_f]; exact c
          simp [KK, this]
      | X2 :: X3 :: r', _ =>
        rw [Kp_more, find_T _ hX hY, if_neg (by simp [tjT, fit]), find_last hX hY2 rfl]
        rfl
    | cons Y3 r =>
      match l1, h1 with
      | [Xm], h1 =>
        rw [Kp_one, find_T _ hX hY, if_neg (by simp [tjT, fit]), find_next hX hY2, ← Kp_one, ih X [Xm] h1 Y2 (by simp) hX hl1 hY2 (fun z hz => hl2 z (.tail _ hz))]
        rfl
      | X2 :: X3 :: r', h1 =>
        rw [Kp_more, find_T _ hX hY]
        by_cases c : X <:+ Y
        · rw [if_pos ⟨by simp [tjT, fit], c⟩]
          show Kp X2 (X3 :: r') ((tjT (Y2 :: Y3 :: r) ++ EE).drop 4) = _
          rw [show (tjT (Y2 :: Y3 :: r) ++ EE).drop 4 = Trest Y2 (Y3 :: r) by simp [tjT, Trest]]
          rw [ih X2 (X3 :: r') (by simp) Y2 (by simp) (hl1 X2 (.head _)) (fun z hz => hl1 z (.tail _ hz)) hY2 (fun z hz => hl2 z (.tail _ hz))]
          simp only [KK, if_pos (lcmp_f.mpr c)]
        · have n : ¬ lcmp false Y X = true := fun q => c (lcmp_f.mp q)
          rw [if_neg fun q => c q.2, find_next hX hY2, ← Kp_more, ih X (X2 :: X3 :: r') h1 Y2 (by simp) hX hl1 hY2 (fun z hz => hl2 z (.tail _ hz))]
          simp only [KK, if_neg n]
def HH : L := [40, 63, 115, 58]
def StailOf : List L → L
  | [] => EE
  | [_] => [46]
  | _ :: _ :: _ => [40, 63, 62, 46]
theorem tr_first (A : L) (l : List L) : (tr A EE l).1 = A ++ StailOf l := by
  match l with
  | [] => rfl
  | [_] => rfl
  | _ :: _ :: _ => rfl
theorem Stail_ok (l : List L) : (∀ s S', StailOf l = s :: S' → s ≠ 63 ∧ s ≠ 42) ∧ StailOf l ≠ [] := by
  match l with
  | [] => exact ⟨fun s S' e => by cases e; decide, by decide⟩
  | [_] => exact ⟨fun s S' e => by cases e; decide, by simp [StailOf]⟩
  | _ :: _ :: _ => exact ⟨fun s S' e => by cases e; decide, by simp [StailOf]⟩
theorem takes_pre (X W : L) (l l' : List L) : takes (tr (HH ++ cod X) EE l) (HH ++ (cod (X ++ W) ++ (tjT l' ++ EE))) =
    (fit (StailOf l) (cod W ++ (tjT l' ++ EE)) && takesT (tr (HH ++ cod X) EE l).2 ((cod W ++ (tjT l' ++ EE)).drop (StailOf l).length)) := by
  unfold takes
  rw [tr_first]
  rw [show HH ++ (cod (X ++ W) ++ (tjT l' ++ EE)) = (HH ++ cod X) ++ (cod W ++ (tjT l' ++ EE)) by rw [cod_app]; simp]
  rw [fit_self, List.length_append, ← List.drop_drop, List.drop_left]
theorem takes_no {X Y : L} (l l' : List L) (hX : okr X) (hY : okr Y) (h : ¬ X <+: Y) : takes (tr (HH ++ cod X) EE l) (HH ++ (cod Y ++ (tjT l' ++ EE))) = false := by
  unfold takes
  rw [tr_first, List.append_assoc, fit_self]
  rw [fitA hX hY (fun x X' hx => fitR (Stail_ok l).1 (Stail_ok l).2 l' x X' hx) h, Bool.false_and]
theorem tjT_last : ∀ (l : List L) (h : l ≠ []), ∃ U, tjT l = U ++ 42 :: cod (l.getLast h)
  | [X], _ => ⟨[46], rfl⟩
  | X :: Y :: r, _ => by
    obtain ⟨U, hU⟩ := tjT_last (Y :: r) (by simp)
    refine ⟨40 :: 63 :: 62 :: 46 :: 42 :: 63 :: (cod X ++ 41 :: U), ?_⟩
    rw [tjT, hU]
    simp
theorem told_form (x : L) : told x = HH ++ (cod (runs x).1 ++ (tjT (runs x).2 ++ EE)) := rfl
theorem runs_told {x : L} (h : okt x) : runs (told x) = tr (HH ++ cod (runs x).1) EE (runs x).2 := by
  obtain ⟨a, b⟩ := runs_okr h
  rw [told_form, ← List.append_assoc]
  exact runs_tr _ _ _ (fun q => (List.mem_append.mp q).elim (by decide) (cod_no a (by decide))) (by decide) (by decide) b
theorem pre63 {X : L} {w : Nat} {W : L} : (X ++ [63]).isPrefixOf (X ++ w :: W) = decide (w = 63) := by
  rw [Bool.eq_iff_iff, List.isPrefixOf_iff_prefix, List.prefix_append_right_inj, decide_eq_true_eq]
  constructor
  · rintro ⟨t, ht⟩; exact (List.cons.inj ht).1.symm
  · rintro rfl; exact ⟨W, rfl⟩
theorem pre63n {X : L} : (X ++ [63]).isPrefixOf X = false := by
  rw [Bool.eq_false_iff, ne_eq, List.isPrefixOf_iff_prefix]
  intro h
  have := h.length_le
  rw [List.length_append] at this
  exact absurd this (Nat.not_succ_le_self _)
theorem pre63p {X Y : L} (h : ¬ X <+: Y) : (X ++ [63]).isPrefixOf Y = false := by
  rw [Bool.eq_false_iff, ne_eq, List.isPrefixOf_iff_prefix]
  exact fun q => h ((List.prefix_append _ _).trans q)
theorem fit1 {w : Nat} {W R : L} (h : w ∈ signs) : fit [46] (cod (w :: W) ++ R) = decide (w = 63) := by
  rw [cod_cons, List.append_assoc]
  obtain ⟨u, hu, _⟩ := one_cons h (cod W ++ R)
  rw [hu]
  show ((46 == 63 || 46 == hd1 w) && true) = _
  rw [show (46 == 63) = false from rfl, Bool.false_or, Bool.and_true]
  revert h
  exact (by decide : ∀ w ∈ signs, (46 == hd1 w) = decide (w = 63)) w
theorem main_at (very : Bool) (hvery : very = false) {X Y : L} {l l' : List L} (hX : okr X) (hY : okr Y) (hl : ∀ r ∈ l, okr r) (hl' : ∀ r ∈ l', okr r) :
    takes (tr (HH ++ cod X) EE l) (HH ++ (cod Y ++ (tjT l' ++ EE))) = lawTold very (X, l) (Y, l') := by
  subst hvery
  by_cases hp : X <+: Y
  · obtain ⟨W, rfl⟩ := hp
    rw [takes_pre]
    have hW : okr W := fun c hc => hY c (List.mem_append.mpr (.inr hc))
    match l with
    | [] =>
      show (fit EE (cod W ++ (tjT l' ++ EE)) && ((cod W ++ (tjT l' ++ EE)).drop 3).isEmpty) = decide ((X, ([] : List L)) = (X ++ W, l'))
      match W, l' with
      | [], [] => simp [cod_nil, tjT, fit]
      | [], [Q] => simp [cod_nil, tjT, fit]
      | [], Q :: Q2 :: r => simp [cod_nil, tjT, fit]
      | w :: W, l' =>
        rw [cod_cons, List.append_assoc]
        obtain ⟨u, hu, _⟩ := one_cons (okr_head hW) (cod W ++ (tjT l' ++ EE))
        rw [hu, show fit EE (hd1 w :: u) = false from fit_ne (by decide) (fun q => csig_ne (hd1_csig (okr_head hW)) (by decide) q.symm) _ _]
        simp
    | [Xm] =>
      have hXm := hl Xm (.head _)
      show (fit [46] (cod W ++ (tjT l' ++ EE)) && takesT [cod Xm ++ EE] ((cod W ++ (tjT l' ++ EE)).drop 1)) = _
      match W with
      | [] =>
        match l', hl' with
        | [], _ => simp [cod_nil, tjT, fit, lawTold, pre63n]
        | [Q], hl' =>
          have := endL (U := []) hXm (hl' Q (.head _))
          simp only [List.nil_append] at this
          simp [cod_nil, tjT, fit, lawTold, this]
        | Q :: Q2 :: r, _ => simp [cod_nil, tjT, fit, lawTold, pre63n]
      | w :: W =>
        have hw := okr_head hW
        have hW' := okr_tail hW
        rw [fit1 hw]
        by_cases e : w = 63
        · subst e
          have d : (cod (63 :: W) ++ (tjT l' ++ EE)).drop 1 = cod W ++ (tjT l' ++ EE) := rfl
          rw [d, decide_eq_true rfl, Bool.true_and]
          match l', hl' with
          | [], _ =>
            show takesT [cod Xm ++ EE] (cod W ++ EE) = ((X ++ [63]).isPrefixOf (X ++ 63 :: W) && ends ((X ++ 63 :: W).drop (X.length + 1)) Xm)
            rw [endL0 hXm hW', pre63, decide_eq_true rfl, Bool.true_and, ← List.drop_drop, List.drop_left]
            rfl
          | [Q], hl' =>
            have := endL (U := cod W ++ [46]) hXm (hl' Q (.head _))
            show takesT [cod Xm ++ EE] (cod W ++ 46 :: 42 :: (cod Q ++ EE)) = if X ++ 63 :: W = X then _ else _
            rw [if_neg (by simp), pre63, decide_eq_true rfl, Bool.true_and, ← this]
            simp
          | Q :: Q2 :: r, hl' =>
            obtain ⟨U, hU⟩ := tjT_last (Q :: Q2 :: r) (by simp)
            have := endL (U := cod W ++ U) hXm (hl' ((Q :: Q2 :: r).getLast (by simp)) (List.getLast_mem _))
            rw [hU]
            show takesT [cod Xm ++ EE] _ = ((X ++ [63]).isPrefixOf (X ++ 63 :: W) && _)
            rw [pre63, decide_eq_true rfl, Bool.true_and]
            rw [show cod W ++ (U ++ 42 :: cod ((Q :: Q2 :: r).getLast (by simp)) ++ EE) = (cod W ++ U) ++ 42 :: (cod ((Q :: Q2 :: r).getLast (by simp)) ++ EE) by simp, this]
            rfl
        · rw [decide_eq_false e, Bool.false_and]
          match l' with
          | [] => simp [lawTold, pre63, e]
          | [Q] => simp [lawTold, pre63, e]
          | Q :: Q2 :: r => simp [lawTold, pre63, e]
    | P1 :: P2 :: pr =>
      show (fit [40, 63, 62, 46] (cod W ++ (tjT l' ++ EE)) && Kp P1 (P2 :: pr) ((cod W ++ (tjT l' ++ EE)).drop 4)) = _
      match W with
      | [] =>
        match l', hl' with
        | [], _ => simp [cod_nil, tjT, fit, lawTold]
        | [Q], _ => simp [cod_nil, tjT, fit, lawTold]
        | Q :: Q2 :: r, hl' =>
          have f : fit [40, 63, 62, 46] (cod [] ++ (tjT (Q :: Q2 :: r) ++ EE)) = true := by simp [cod_nil, tjT, fit]
          have d : (cod [] ++ (tjT (Q :: Q2 :: r) ++ EE)).drop 4 = Trest Q (Q2 :: r) := by simp [cod_nil, tjT, Trest]
          rw [f, d, Bool.true_and, Kp_KK P1 (P2 :: pr) (by simp) Q (Q2 :: r) (by simp) (hl P1 (.head _)) (fun z hz => hl z (.tail _ hz)) (hl' Q (.head _)) (fun z hz => hl' z (.tail _ hz)), KK_KL _ _ _ (by simp) _ _ (by simp)]
          simp only [List.append_nil]
          show (KL false (P1 :: (P2 :: pr).dropLast) (Q :: (Q2 :: r).dropLast) && _) = if X ≠ X ∨ _ then false else KL false (P1 :: P2 :: pr).dropLast (Q :: Q2 :: r).dropLast
          cases h : ends ((Q2 :: r).getLast (by simp)) ((P2 :: pr).getLast (by simp)) with
          | false => rw [Bool.and_false, if_pos (.inr rfl)]
          | true => rw [Bool.and_true, if_neg (by simp)]; rfl
      | w :: W =>
        rw [cod_cons, List.append_assoc]
        obtain ⟨u, hu, _⟩ := one_cons (okr_head hW) (cod W ++ (tjT l' ++ EE))
        rw [hu, show fit [40, 63, 62, 46] (hd1 w :: u) = false from fit_ne (by decide) (fun q => csig_ne (hd1_csig (okr_head hW)) (by decide) q.symm) _ _, Bool.false_and]
        match l' with
        | [] => rfl
        | [Q] => rfl
        | Q :: Q2 :: r => simp [lawTold]
  · rw [takes_no l l' hX hY hp]
    have ne : Y ≠ X := fun q => hp (q ▸ List.prefix_refl _)
    match l with
    | [] => 
      symm
      show decide ((X, ([] : List L)) = (Y, l')) = false
      exact decide_eq_false fun q => ne (Prod.mk.inj q).1.symm
    | [Xm] =>
      match l' with
      | [] => simp [lawTold, pre63p hp]
      | [Q] => simp [lawTold, pre63p hp, ne]
      | Q :: Q2 :: r => simp [lawTold, pre63p hp]
    | P1 :: P2 :: pr =>
      match l' with
      | [] => rfl
      | [Q] => rfl
      | Q :: Q2 :: r => simp [lawTold, ne]
theorem main_plain {p q : L} (hp : okt p) (hq : okt q) : takes (runs (told p)) (told q) = lawTold false (runs p) (runs q) := by
  obtain ⟨a, b⟩ := runs_okr hp
  obtain ⟨c, d⟩ := runs_okr hq
  rw [runs_told hp, told_form q]
  exact main_at false rfl a c b d
end
section
def cc (c : Nat) : L := if c = 40 then [61, 50, 56] else if c = 41 then [61, 50, 57] else if c = 46 then [61, 50, 69] else if c = 58 then [61, 51, 65] else if c = 62 then [61, 51, 69] else if c = 63 then [61, 51, 70] else if c = 92 then [61, 53, 67] else [c]
def ccs (x : L) : L := x.flatMap cc
def FR : L := [61, 63, 113, 63, 113, 63]
def E2 : L := [63, 61]
def word (x : L) : L := FR ++ (ccs x ++ E2)
def toks : L := [112, 99, 100, 98, 45, 108, 115, 114, 119, 120, 83, 84, 116, 92, 46, 40, 41, 58, 62, 63, 42, 90]
abbrev okk (x : L) : Prop := ∀ c ∈ x, c ∈ toks
theorem okk_tail {c : Nat} {X : L} (h : okk (c :: X)) : okk X := fun d hd => h d (.tail _ hd)
theorem okk_head {c : Nat} {X : L} (h : okk (c :: X)) : c ∈ toks := h c (.head _)
theorem okk_app {X Y : L} (hX : okk X) (hY : okk Y) : okk (X ++ Y) := fun c hc => (List.mem_append.mp hc).elim (hX c) (hY c)
theorem ccs_cons (c : Nat) (X : L) : ccs (c :: X) = cc c ++ ccs X := rfl
theorem ccs_app (X Y : L) : ccs (X ++ Y) = ccs X ++ ccs Y := by simp [ccs, List.flatMap_append]
theorem cc_diff : ∀ a ∈ toks, ∀ b ∈ toks, a ≠ b → ∃ k ∈ [0, 1, 2], ((cc a)[k]? ≠ none ∧ (cc b)[k]? ≠ none ∧ (cc a)[k]? ≠ some 63 ∧ (cc a)[k]? ≠ (cc b)[k]?) := by decide
theorem cc_head : ∀ a ∈ toks, (cc a)[0]? ≠ none ∧ (cc a)[0]? ≠ some 63 := by decide
theorem cc_ne {a b : Nat} (ha : a ∈ toks) (hb : b ∈ toks) (h : a ≠ b) (U V : L) : fit (cc a ++ U) (cc b ++ V) = false := by
  obtain ⟨k, _, h1, h2, h3, h4⟩ := cc_diff a ha b hb h
  cases e1 : (cc a)[k]? with
  | none => exact absurd e1 h1
  | some x =>
    cases e2 : (cc b)[k]? with
    | none => exact absurd e2 h2
    | some y =>
      rw [e1] at h3 h4
      rw [e2] at h4
      obtain ⟨l1, _⟩ := List.getElem?_eq_some_iff.mp e1
      obtain ⟨l2, _⟩ := List.getElem?_eq_some_iff.mp e2
      exact fit_false_of k (a := x) (b := y) (by rw [List.getElem?_append_left l1]; exact e1) (by rw [List.getElem?_append_left l2]; exact e2) (fun q => h3 (by rw [q])) (fun q => h4 (by rw [q]))
theorem fit_ccs {P T : L} (hP : okk P) (hT : okk T) : fit (ccs P) (ccs T ++ E2) = P.isPrefixOf T := by
  induction P generalizing T with
  | nil => simp [ccs, fit]
  | cons a P ih =>
    cases T with
    | nil =>
      have h := cc_head a (okk_head hP)
      show fit (cc a ++ ccs P) [63, 61] = false
      cases e1 : (cc a)[0]? with
      | none => exact absurd e1 h.1
      | some x =>
        obtain ⟨l1, _⟩ := List.getElem?_eq_some_iff.mp e1
        have n : x ≠ 63 := fun q => h.2 (by rw [e1, q])
        exact fit_false_of 0 (a := x) (b := 63) (by rw [List.getElem?_append_left l1]; exact e1) rfl n n
    | cons b T =>
      by_cases e : a = b
      · subst e
        rw [ccs_cons, ccs_cons, List.append_assoc, fit_self, ih (okk_tail hP) (okk_tail hT)]
        show _ = (a == a && _)
        simp
      · rw [ccs_cons, ccs_cons, List.append_assoc, cc_ne (okk_head hP) (okk_head hT) e]
        show false = (a == b && _)
        rw [beq_false_of_ne e]; rfl
theorem cc_pos (c : Nat) : 0 < (cc c).length := by unfold cc; repeat' split
                                                   all_goals simp
theorem fit_ccs_end {P T : L} (hP : okk P) (hT : okk T) : (fit (ccs P ++ E2) (ccs T ++ E2) && ((ccs T ++ E2).drop (ccs P ++ E2).length).isEmpty) = decide (P = T) := by
  rw [fit_app, fit_ccs hP hT]
  by_cases h : P <+: T
  · obtain ⟨W, rfl⟩ := h
    rw [List.isPrefixOf_iff_prefix.mpr (List.prefix_append _ _), Bool.true_and]
    rw [ccs_app, List.append_assoc, List.length_append, ← List.drop_drop, List.drop_left]
    cases W with
    | nil => simp [ccs, fit, E2]
    | cons c W =>
      have e : ((ccs (c :: W) ++ E2).drop E2.length).isEmpty = false := by
        rw [Bool.eq_false_iff, ne_eq, List.isEmpty_iff, List.drop_eq_nil_iff]
        have := cc_pos c
        simp only [ccs_cons, List.length_append]
        lia
      rw [e, Bool.and_false]
      simp
  · rw [show P.isPrefixOf T = false by rw [Bool.eq_false_iff, ne_eq, List.isPrefixOf_iff_prefix]; exact h]
    have : P ≠ T := fun q => h (q ▸ List.prefix_refl _)
    simp [this]
def findx (X : L) : L → Option L
  | [] => if X.isPrefixOf [] then some [] else none
  | b :: t => if X.isPrefixOf (b :: t) then some ((b :: t).drop X.length) else findx X t
def takesTx : List L → L → Bool
  | [], t => t.isEmpty
  | [X], t => X.isSuffixOf t
  | X :: Y :: r, t => match findx X t with
    | none => false
    | some t' => takesTx (Y :: r) t'
def takesx (p : L × List L) (T : L) : Bool := match p.2 with
  | [] => decide (p.1 = T)
  | l => p.1.isPrefixOf T && takesTx l (T.drop p.1.length)
theorem find_skip {a b : Nat} {Z t : L} (ha : a ≠ 63) (h : a ≠ b) : find (a :: Z) (b :: t) = find (a :: Z) t := by
  rw [find, fit_ne ha h]; rfl
theorem cc_form : ∀ c ∈ toks, (cc c = [c] ∧ c ≠ 61) ∨ (cc c)[0]? = some 61 ∧ (cc c).length = 3 ∧ (cc c).getD 1 61 ≠ 61 ∧ (cc c).getD 2 61 ≠ 61 := by decide
theorem find_ccs {P' T : L} (hP : okk (63 :: P')) (hT : okk T) : find (ccs (63 :: P')) (ccs T ++ E2) = (findx (63 :: P') T).map (fun t => ccs t ++ E2) := by
  induction T with
  | nil =>
    show find (61 :: 51 :: 70 :: ccs P') [63, 61] = none
    rw [find_skip (by decide) (by decide)]
    simp [find, fit]
  | cons c T ih =>
    have e := fit_ccs hP hT
    by_cases h : (63 :: P') <+: c :: T
    · rw [List.isPrefixOf_iff_prefix.mpr h] at e
      have e2 : findx (63 :: P') (c :: T) = some ((c :: T).drop (63 :: P').length) := by rw [findx, List.isPrefixOf_iff_prefix.mpr h]; rfl
      have e3 : find (ccs (63 :: P')) (ccs (c :: T) ++ E2) = some ((ccs (c :: T) ++ E2).drop (ccs (63 :: P')).length) := by
        generalize ccs (c :: T) ++ E2 = y at e
        cases y with
        | nil => cases e
        | cons b t => rw [find, e]; rfl
      rw [e2, e3]
      obtain ⟨W, hW⟩ := h
      rw [← hW, ccs_app, List.append_assoc, List.drop_left, List.drop_left]
      rfl
    · have hf : (63 :: P').isPrefixOf (c :: T) = false := by rw [Bool.eq_false_iff, ne_eq, List.isPrefixOf_iff_prefix]; exact h
      rw [hf] at e
      have e2 : findx (63 :: P') (c :: T) = findx (63 :: P') T := by rw [findx, hf]; rfl
      rw [e2, ← ih (okk_tail hT)]
      rw [ccs_cons c T, List.append_assoc] at e ⊢
      rcases cc_form c (okk_head hT) with ⟨q, _⟩ | ⟨q1, q2, q3, q4⟩
      · rw [q] at e ⊢
        show find _ (c :: (ccs T ++ E2)) = _
        rw [find]
        rw [show fit (ccs (63 :: P')) (c :: (ccs T ++ E2)) = false from e]
        rfl
      · match hcc : cc c, q2 with
        | [a, x, y], _ =>
          rw [hcc] at q1 q3 q4 e
          show find _ (a :: x :: y :: (ccs T ++ E2)) = _
          rw [find]
          rw [show fit (ccs (63 :: P')) (a :: x :: y :: (ccs T ++ E2)) = false from e]
          show find (61 :: 51 :: 70 :: ccs P') (x :: y :: (ccs T ++ E2)) = _
          have q3 : x ≠ 61 := q3
          have q4 : y ≠ 61 := q4
          rw [find_skip (by decide) (Ne.symm q3), find_skip (by decide) (Ne.symm q4)]
          rfl
theorem takesT_E2 (A t : L) : takesT [A ++ E2] (t ++ E2) = takesT [A] t := by
  show (decide ((A ++ E2).length ≤ (t ++ E2).length) && fit (A ++ E2) ((t ++ E2).drop ((t ++ E2).length - (A ++ E2).length))) = (decide (A.length ≤ t.length) && fit A (t.drop (t.length - A.length)))
  rw [List.length_append, List.length_append]
  by_cases h : A.length ≤ t.length
  · rw [decide_eq_true h, decide_eq_true (by lia), Bool.true_and, Bool.true_and]
    rw [show t.length + E2.length - (A.length + E2.length) = t.length - A.length by lia]
    rw [List.drop_append_of_le_length (by lia)]
    have hl : (t.drop (t.length - A.length)).length = A.length := by rw [List.length_drop]; lia
    generalize t.drop (t.length - A.length) = u at hl
    rw [fit_app, ← hl, List.drop_left]
    rw [show fit E2 E2 = true from rfl, Bool.and_true]
    clear h
    induction u generalizing A with
    | nil => cases A with
      | nil => rfl
      | cons a A => simp at hl
    | cons b u ih => cases A with
      | nil => simp at hl
      | cons a A =>
        show ((a == 63 || a == b) && fit A (u ++ E2)) = ((a == 63 || a == b) && fit A u)
        rw [ih A (by simpa using hl)]
  · rw [decide_eq_false h, decide_eq_false (by lia), Bool.false_and, Bool.false_and]
theorem cc_no63 (c : Nat) : 63 ∉ cc c := by
  unfold cc
  by_cases h : c = 63
  · subst h; decide
  · repeat' split
    all_goals simp [Ne.symm h]
theorem ccs_no63 (x : L) : 63 ∉ ccs x := fun q => by
  obtain ⟨c, _, h⟩ := List.mem_flatMap.mp q
  exact cc_no63 c h
theorem ccs_inj {X Y : L} (hX : okk X) (hY : okk Y) (h : ccs X = ccs Y) : X = Y := by
  have e := fit_ccs_end hX hY
  rw [h] at e
  have k : fit (ccs Y ++ E2) (ccs Y ++ E2) = true := by
    have := fit_self (ccs Y ++ E2) [] []
    simpa [fit] using this
  rw [k, List.drop_length] at e
  exact of_decide_eq_true e.symm
theorem cc_tails : ∀ c ∈ toks, ∀ a ∈ toks, (cc c).length = 3 → (cc a)[0]? ≠ (cc c)[1]? ∧ (cc a)[0]? ≠ (cc c)[2]? := by decide
theorem ccs_suf {X Y : L} (hX : okk X) (hY : okk Y) : ccs X <:+ ccs Y ↔ X <:+ Y := by
  constructor
  · rintro ⟨U, hU⟩
    induction Y generalizing U with
    | nil =>
      have : ccs X = [] := (List.append_eq_nil_iff.mp hU).2
      rw [ccs_inj hX (Y := []) hY this]
      exact List.suffix_refl _
    | cons y Y ih =>
      have hy := okk_head hY
      cases X with
      | nil => exact List.nil_suffix
      | cons x X =>
      cases U with
      | nil => rw [ccs_inj hX hY hU]; exact List.suffix_refl _
      | cons a U =>
        rw [ccs_cons y Y] at hU
        rcases cc_form y hy with ⟨q, _⟩ | ⟨q1, q2, q3, q4⟩
        · rw [q] at hU
          have h2 : U ++ ccs (x :: X) = ccs Y := (List.cons.inj hU).2
          exact (ih (okk_tail hY) U h2).trans (List.suffix_cons _ _)
        · have ht := cc_tails y hy x (okk_head hX) q2
          have hx := (cc_head x (okk_head hX)).1
          have hx0 : ∀ (t : L), (ccs (x :: X))[0]? = (cc x)[0]? := fun _ => by
            rw [ccs_cons, List.getElem?_append_left (cc_pos x)]
          match hcc : cc y, q2 with
          | [u, v, w], _ =>
            rw [hcc] at hU ht
            cases U with
            | nil =>
              exfalso
              have h2 : ccs (x :: X) = v :: w :: ccs Y := (List.cons.inj hU).2
              have := hx0 []
              rw [h2] at this
              exact ht.1 this.symm
            | cons b U =>
              cases U with
              | nil =>
                exfalso
                have h2 : ccs (x :: X) = w :: ccs Y := (List.cons.inj (List.cons.inj hU).2).2
                have := hx0 []
                rw [h2] at this
                exact ht.2 this.symm
              | cons c U =>
                have h2 : U ++ ccs (x :: X) = ccs Y := (List.cons.inj (List.cons.inj (List.cons.inj hU).2).2).2
                exact (ih (okk_tail hY) U h2).trans (List.suffix_cons _ _)
  · rintro ⟨U, rfl⟩
    exact ⟨ccs U, (ccs_app U X).symm⟩
theorem takesT_last {P T : L} (hP : okk P) (hT : okk T) : takesT [ccs P ++ E2] (ccs T ++ E2) = P.isSuffixOf T := by
  rw [takesT_E2, takesT_one (ccs_no63 P), Bool.eq_iff_iff, List.isSuffixOf_iff_suffix, List.isSuffixOf_iff_suffix]
  exact ccs_suf hP hT
def mapE : List L → List L
  | [] => []
  | [X] => [ccs X ++ E2]
  | X :: Y :: r => ccs X :: mapE (Y :: r)
def ok63 : List L → Prop
  | [] => True
  | [X] => okk X
  | X :: Y :: r => (∃ P, X = 63 :: P) ∧ okk X ∧ ok63 (Y :: r)
theorem findx_okk {P T t : L} (hT : okk T) (h : findx P T = some t) : okk t := by
  induction T with
  | nil =>
    simp only [findx] at h
    split at h
    · cases h; exact hT
    · cases h
  | cons c T ih =>
    simp only [findx] at h
    split at h
    · cases h; exact fun d hd => hT d (List.drop_subset _ _ hd)
    · exact ih (okk_tail hT) h
theorem takesT_mapE (rs : List L) (hr : ok63 rs) (hn : rs ≠ []) {T : L} (hT : okk T) : takesT (mapE rs) (ccs T ++ E2) = takesTx rs T := by
  induction rs generalizing T with
  | nil => exact absurd rfl hn
  | cons X rs ih =>
    cases rs with
    | nil => exact takesT_last hr hT
    | cons Y r =>
      obtain ⟨⟨P, rfl⟩, h2, h3⟩ := hr
      have hm : ∃ Z r', mapE (Y :: r) = Z :: r' := by cases r <;> exact ⟨_, _, rfl⟩
      obtain ⟨Z, r', hm⟩ := hm
      show takesT (ccs (63 :: P) :: mapE (Y :: r)) _ = _
      have e : takesT (ccs (63 :: P) :: mapE (Y :: r)) (ccs T ++ E2) = match find (ccs (63 :: P)) (ccs T ++ E2) with | none => false | some t' => takesT (mapE (Y :: r)) t' := by rw [hm]; rfl
      have e2 : takesTx ((63 :: P) :: Y :: r) T = match findx (63 :: P) T with | none => false | some t' => takesTx (Y :: r) t' := rfl
      rw [e, e2, find_ccs h2 hT]
      cases q : findx (63 :: P) T with
      | none => rfl
      | some t => exact ih h3 (by simp) (findx_okk hT q)
theorem cc_no42 {c : Nat} (h : c ≠ 42) : 42 ∉ cc c := by
  unfold cc
  repeat' split
  all_goals simp [Ne.symm h]
theorem ccs_no42 {x : L} (h : 42 ∉ x) : 42 ∉ ccs x := fun q => by
  obtain ⟨c, hc, k⟩ := List.mem_flatMap.mp q
  exact cc_no42 (fun e => h (e ▸ hc)) k
theorem runs_ccs (B A : L) (l : List L) (hB : 42 ∉ B) (hA : 42 ∉ A) (hl : ∀ X ∈ l, okr X) (hn : B ++ A ≠ []) :
    ∃ h t, mapE ((tr A EE l).1 :: (tr A EE l).2) = h :: t ∧ runs (B ++ (ccs (A ++ (tjT l ++ EE)) ++ E2)) = (B ++ h, t) := by
  induction l generalizing A B with
  | nil =>
    refine ⟨_, _, rfl, ?_⟩
    simp only [tjT, List.nil_append, tr]
    exact runs_plain _ fun q => (List.mem_append.mp q).elim hB fun q => (List.mem_append.mp q).elim (ccs_no42 fun q => (List.mem_append.mp q).elim hA (by decide)) (by decide)
  | cons X r ih =>
    have no := cod_no (hl X (.head _)) (d := 42) (by decide)
    cases r with
    | nil =>
      refine ⟨_, _, rfl, ?_⟩
      have e : B ++ (ccs (A ++ (tjT [X] ++ EE)) ++ E2) = (B ++ ccs (A ++ [46])) ++ 42 :: (ccs (cod X ++ EE) ++ E2) := by
        simp [tjT, ccs, cc]
      have p := runs_plain (ccs (cod X ++ EE) ++ E2) fun q => (List.mem_append.mp q).elim (ccs_no42 fun q => (List.mem_append.mp q).elim no (by decide)) (by decide)
      rw [e, runs_star' _ _ (fun q => (List.mem_append.mp q).elim hB (ccs_no42 fun q => (List.mem_append.mp q).elim hA (by decide))) (by rw [p]; simp [E2]), p]
      rfl
    | cons Y r =>
      have hA' : 42 ∉ 63 :: (cod X ++ [41]) := by
        intro q
        rcases List.mem_cons.mp q with q | q
        · cases q
        · exact (List.mem_append.mp q).elim no (by decide)
      obtain ⟨h, t, k1, k2⟩ := ih [] (63 :: (cod X ++ [41])) (by simp) hA' (fun Z hZ => hl Z (.tail _ hZ)) (by simp)
      have e : B ++ (ccs (A ++ (tjT (X :: Y :: r) ++ EE)) ++ E2) = (B ++ ccs (A ++ [40, 63, 62, 46])) ++ 42 :: ([] ++ (ccs ((63 :: (cod X ++ [41])) ++ (tjT (Y :: r) ++ EE)) ++ E2)) := by
        simp [tjT, ccs, cc]
      refine ⟨ccs (A ++ [40, 63, 62, 46]), h :: t, by rw [← k1]; rfl, ?_⟩
      have hne : h ≠ [] := by
        intro q
        subst q
        have : (runs ([] ++ (ccs ((63 :: (cod X ++ [41])) ++ (tjT (Y :: r) ++ EE)) ++ E2))).1 = [] := by rw [k2]; rfl
        rw [show [] ++ (ccs ((63 :: (cod X ++ [41])) ++ (tjT (Y :: r) ++ EE)) ++ E2) = 61 :: (51 :: 70 :: (ccs ((cod X ++ [41]) ++ (tjT (Y :: r) ++ EE)) ++ E2)) from rfl] at this
        simp [runs] at this
      rw [e, runs_star' _ _ (fun q => (List.mem_append.mp q).elim hB (ccs_no42 fun q => (List.mem_append.mp q).elim hA (by decide))) (by rw [k2]; exact hne), k2]
      rfl
theorem mapE_one (a : L) : mapE [a] = [ccs a ++ E2] := rfl
theorem coded_exact (a : L) (r : List L) (ha : okk a) (hr : ok63 r) {h : L} {t : List L} (hm : mapE (a :: r) = h :: t) {T : L} (hT : okk T) :
    takes (FR ++ h, t) (FR ++ (ccs T ++ E2)) = takesx (a, r) T := by
  unfold takes
  simp only
  rw [fit_self, List.length_append, ← List.drop_drop, List.drop_left]
  cases r with
  | nil =>
    cases hm
    show (fit (ccs a ++ E2) (ccs T ++ E2) && ((ccs T ++ E2).drop (ccs a ++ E2).length).isEmpty) = decide (a = T)
    exact fit_ccs_end ha hT
  | cons Y r =>
    cases hm
    show _ = (a.isPrefixOf T && takesTx (Y :: r) (T.drop a.length))
    rw [fit_ccs ha hT]
    by_cases h : a <+: T
    · obtain ⟨W, rfl⟩ := h
      rw [ccs_app, List.append_assoc, List.drop_left, List.drop_left, takesT_mapE (Y :: r) hr (by simp) (fun c hc => hT c (List.mem_append.mpr (.inr hc)))]
    · rw [show a.isPrefixOf T = false by rw [Bool.eq_false_iff, ne_eq, List.isPrefixOf_iff_prefix]; exact h]
      rfl
theorem cod_okk {X : L} (h : okr X) : okk (cod X) := fun c hc => (by decide : ∀ c ∈ csig, c ∈ toks) c (cod_csig h c hc)
theorem tr_ok63 (A : L) (l : List L) (hA : okk A) (hl : ∀ X ∈ l, okr X) : okk (tr A EE l).1 ∧ ok63 (tr A EE l).2 ∧ ((∃ P, A = 63 :: P) → ok63 ((tr A EE l).1 :: (tr A EE l).2)) := by
  induction l generalizing A with
  | nil =>
    have : okk (A ++ EE) := okk_app hA (by decide)
    exact ⟨this, trivial, fun _ => this⟩
  | cons X r ih =>
    have hX := cod_okk (hl X (.head _))
    cases r with
    | nil =>
      have h1 : okk (A ++ [46]) := okk_app hA (by decide)
      have h2 : okk (cod X ++ EE) := okk_app hX (by decide)
      exact ⟨h1, h2, fun ⟨P, q⟩ => ⟨⟨P ++ [46], by rw [q]; rfl⟩, h1, h2⟩⟩
    | cons Y r =>
      have h1 : okk (A ++ [40, 63, 62, 46]) := okk_app hA (by decide)
      have h2 := ih (63 :: (cod X ++ [41])) (okk_app (X := [63]) (by decide) (okk_app hX (by decide))) (fun Z hZ => hl Z (.tail _ hZ))
      have h3 := h2.2.2 ⟨_, rfl⟩
      exact ⟨h1, h3, fun ⟨P, q⟩ => ⟨⟨P ++ [40, 63, 62, 46], by rw [q]; rfl⟩, h1, h3⟩⟩
theorem tjT_okk (l : List L) (hl : ∀ X ∈ l, okr X) : okk (tjT l) := by
  induction l with
  | nil => intro c hc; cases hc
  | cons X r ih =>
    have hX := cod_okk (hl X (.head _))
    cases r with
    | nil => exact okk_app (X := [46, 42]) (by decide) hX
    | cons Y r =>
      have h := ih fun Z hZ => hl Z (.tail _ hZ)
      exact okk_app (X := [40, 63, 62, 46, 42, 63]) (by decide) (okk_app hX (okk_app (X := [41]) (by decide) h))
theorem told_okk {x : L} (h : okt x) : okk (told x) := by
  obtain ⟨a, b⟩ := runs_okr h
  rw [told_form]
  exact okk_app (by decide) (okk_app (cod_okk a) (okk_app (tjT_okk _ b) (by decide)))
theorem coded_is {p q : L} (hp : okt p) (hq : okt q) : takes (runs (word (told p))) (word (told q)) = takesx (tr (HH ++ cod (runs p).1) EE (runs p).2) (told q) := by
  obtain ⟨a, b⟩ := runs_okr hp
  obtain ⟨h, t, h1, h2⟩ := runs_ccs FR (HH ++ cod (runs p).1) (runs p).2 (by decide) (fun q => (List.mem_append.mp q).elim (by decide) (cod_no a (by decide))) b (by simp [FR])
  have e : word (told p) = FR ++ (ccs ((HH ++ cod (runs p).1) ++ (tjT (runs p).2 ++ EE)) ++ E2) := by
    unfold word
    rw [told_form, List.append_assoc]
  rw [e, h2]
  obtain ⟨k1, k2, _⟩ := tr_ok63 (HH ++ cod (runs p).1) (runs p).2 (okk_app (by decide) (cod_okk a)) b
  exact coded_exact _ _ k1 k2 h1 (told_okk hq)
theorem pre_fit {P t : L} (h : P.isPrefixOf t = true) : fit P t = true := by
  rw [List.isPrefixOf_iff_prefix] at h
  obtain ⟨W, rfl⟩ := h
  have := fit_self P [] W
  rw [List.append_nil] at this
  rw [this]; rfl
theorem pre_no {P t : L} (h : fit P t = false) : P.isPrefixOf t = false := by
  rw [Bool.eq_false_iff]; intro q; rw [pre_fit q] at h; cases h
theorem pre_self (U P T : L) : (U ++ P).isPrefixOf (U ++ T) = P.isPrefixOf T := by
  rw [Bool.eq_iff_iff, List.isPrefixOf_iff_prefix, List.isPrefixOf_iff_prefix, List.prefix_append_right_inj]
theorem takesx_pre (X W : L) (l l' : List L) (hl : l ≠ []) : takesx (tr (HH ++ cod X) EE l) (HH ++ (cod (X ++ W) ++ (tjT l' ++ EE))) =
    ((StailOf l).isPrefixOf (cod W ++ (tjT l' ++ EE)) && takesTx (tr (HH ++ cod X) EE l).2 ((cod W ++ (tjT l' ++ EE)).drop (StailOf l).length)) := by
  have hn : (tr (HH ++ cod X) EE l).2 ≠ [] := by
    match l, hl with
    | [_], _ => simp [tr]
    | _ :: _ :: _, _ => simp [tr]
  have e : ∀ (p : L × List L) (T : L), p.2 ≠ [] → takesx p T = (p.1.isPrefixOf T && takesTx p.2 (T.drop p.1.length)) := by
    intro p T h
    obtain ⟨p1, p2⟩ := p
    cases p2 with
    | nil => exact absurd rfl h
    | cons _ _ => rfl
  rw [e _ _ hn, tr_first]
  rw [show HH ++ (cod (X ++ W) ++ (tjT l' ++ EE)) = (HH ++ cod X) ++ (cod W ++ (tjT l' ++ EE)) by rw [cod_app]; simp]
  rw [pre_self, List.length_append, ← List.drop_drop, List.drop_left]
theorem takesx_no {X Y : L} (l l' : List L) (hX : okr X) (hY : okr Y) (h : ¬ X <+: Y) : takesx (tr (HH ++ cod X) EE l) (HH ++ (cod Y ++ (tjT l' ++ EE))) = false := by
  have hp : (tr (HH ++ cod X) EE l).1.isPrefixOf (HH ++ (cod Y ++ (tjT l' ++ EE))) = false := by
    rw [tr_first, List.append_assoc, pre_self]
    exact pre_no (fitA hX hY (fun x X' hx => fitR (Stail_ok l).1 (Stail_ok l).2 l' x X' hx) h)
  unfold takesx
  split
  · refine decide_eq_false fun q => ?_
    rw [q] at hp
    rw [List.isPrefixOf_iff_prefix.mpr (List.prefix_refl _)] at hp
    cases hp
  · rw [hp]; rfl
theorem findx_skip {b : Nat} {P t : L} (h : b ≠ 63) : findx (63 :: P) (b :: t) = findx (63 :: P) t := by
  rw [findx, show (63 :: P).isPrefixOf (b :: t) = (63 == b && P.isPrefixOf t) from rfl, beq_false_of_ne (Ne.symm h)]
  rfl
theorem findx_skips {V P t : L} (h : 63 ∉ V) : findx (63 :: P) (V ++ t) = findx (63 :: P) t := by
  induction V with
  | nil => rfl
  | cons b V ih =>
    rw [List.cons_append, findx_skip fun q => h (q ▸ .head _)]
    exact ih fun q => h (.tail _ q)
theorem pre_piece {C v Z R : L} (n1 : 41 ∉ C) (n2 : 41 ∉ v) : (C ++ 41 :: Z).isPrefixOf (v ++ 41 :: R) = (decide (v = C) && Z.isPrefixOf R) := by
  induction C generalizing v with
  | nil =>
    cases v with
    | nil => simp
    | cons b v =>
      have : b ≠ 41 := fun q => n2 (q ▸ .head _)
      show (41 == b && _) = _
      rw [beq_false_of_ne (Ne.symm this)]
      simp
  | cons c C ih =>
    have c1 : c ≠ 41 := fun q => n1 (q ▸ .head _)
    cases v with
    | nil =>
      show (c == 41 && _) = _
      rw [beq_false_of_ne c1]; simp
    | cons b v =>
      show (c == b && (C ++ 41 :: Z).isPrefixOf (v ++ 41 :: R)) = _
      rw [ih (fun q => n1 (.tail _ q)) (fun q => n2 (.tail _ q))]
      by_cases e : c = b
      · subst e; simp
      · rw [beq_false_of_ne e]
        have : ¬ (b :: v = c :: C) := fun q => e (List.cons.inj q).1.symm
        simp [this]
open Classical in
theorem findx_T {X Y Z : L} (l : List L) (hX : okr X) (hY : okr Y) :
    findx (held X Z) (Trest Y l) = if Z.isPrefixOf (tjT l ++ EE) = true ∧ Y = X then some ((tjT l ++ EE).drop Z.length) else findx (held X Z) (tjT l ++ EE) := by
  have nX := cod_no hX (d := 41) (by decide)
  have nY := cod_no hY (d := 41) (by decide)
  unfold Trest held
  rw [findx_skip (by decide)]
  generalize hR : tjT l ++ EE = R
  have e : (63 :: (cod X ++ 41 :: Z)).isPrefixOf (63 :: (cod Y ++ 41 :: R)) = (decide (cod Y = cod X) && Z.isPrefixOf R) := pre_piece nX nY
  rw [findx, e]
  by_cases h1 : Z.isPrefixOf R = true
  · by_cases h2 : Y = X
    · subst h2
      rw [if_pos (by rw [h1]; simp), if_pos ⟨h1, rfl⟩]
      congr 1
      rw [show (63 :: (cod Y ++ 41 :: Z)).length = (63 :: (cod Y ++ [41])).length + Z.length by simp; lia, ← List.drop_drop]
      rw [show 63 :: (cod Y ++ 41 :: R) = (63 :: (cod Y ++ [41])) ++ R by simp, List.drop_left]
    · have : ¬ cod Y = cod X := fun q => h2 (cod_inj hY hX q)
      rw [if_neg (by simp [this]), if_neg fun q => h2 q.2]
      rw [show cod Y ++ 41 :: R = (cod Y ++ [41]) ++ R by simp]
      exact findx_skips fun q => (List.mem_append.mp q).elim (cod_no hY (by decide)) (by decide)
  · rw [if_neg (by simp [h1]), if_neg fun q => h1 q.1]
    rw [show cod Y ++ 41 :: R = (cod Y ++ [41]) ++ R by simp]
    exact findx_skips fun q => (List.mem_append.mp q).elim (cod_no hY (by decide)) (by decide)
theorem findx_last {X Ym Z : L} (hY : okr Ym) : findx (held X Z) (tjT [Ym] ++ EE) = none := by
  have e : findx (held X Z) ((tjT [Ym] ++ EE) ++ []) = findx (held X Z) [] := findx_skips (by
    intro q
    rcases List.mem_append.mp q with q | q
    · rcases List.mem_cons.mp q with q | q
      · cases q
      · rcases List.mem_cons.mp q with q | q
        · cases q
        · exact cod_no hY (by decide) q
    · revert q; decide)
  rw [List.append_nil] at e
  rw [e]
  rfl
theorem findx_next {X Y2 Y3 Z : L} {r : List L} (hX : okr X) : findx (held X Z) (tjT (Y2 :: Y3 :: r) ++ EE) = findx (held X Z) (Trest Y2 (Y3 :: r)) := by
  have e : tjT (Y2 :: Y3 :: r) ++ EE = 40 :: 63 :: 62 :: 46 :: Trest Y2 (Y3 :: r) := by simp [tjT, Trest]
  rw [e]
  unfold held
  rw [findx_skip (by decide)]
  have k : (63 :: (cod X ++ 41 :: Z)).isPrefixOf (63 :: 62 :: 46 :: Trest Y2 (Y3 :: r)) = false := by
    show (63 == 63 && (cod X ++ 41 :: Z).isPrefixOf (62 :: 46 :: Trest Y2 (Y3 :: r))) = false
    rw [pre_no (cod_head hX (by decide) (fun s S' e => by cases e; decide) (by simp)), Bool.and_false]
  rw [findx, k, if_neg (by decide)]
  show findx _ (62 :: 46 :: Trest Y2 (Y3 :: r)) = _
  rw [findx_skip (by decide), findx_skip (by decide)]
def Kx (X : L) (l1 : List L) (T : L) : Bool := takesTx ((tr (63 :: (cod X ++ [41])) EE l1).1 :: (tr (63 :: (cod X ++ [41])) EE l1).2) T
theorem Kx_one (X Xm T : L) : Kx X [Xm] T = match findx (held X [46]) T with | none => false | some t => takesTx [cod Xm ++ EE] t := by
  have e : (tr (63 :: (cod X ++ [41])) EE [Xm]) = (held X [46], [cod Xm ++ EE]) := by simp [tr, held]
  unfold Kx
  rw [e]
  rfl
theorem Kx_more (X X2 X3 : L) (r : List L) (T : L) : Kx X (X2 :: X3 :: r) T = match findx (held X [40, 63, 62, 46]) T with | none => false | some t => Kx X2 (X3 :: r) t := by
  have e : (tr (63 :: (cod X ++ [41])) EE (X2 :: X3 :: r)) = (held X [40, 63, 62, 46], (tr (63 :: (cod X2 ++ [41])) EE (X3 :: r)).1 :: (tr (63 :: (cod X2 ++ [41])) EE (X3 :: r)).2) := by simp [tr, held]
  unfold Kx
  rw [e]
  rfl
theorem lcmp_t {a b : L} : lcmp true a b = true ↔ a = b := by simp [lcmp]
theorem takesTx_one {X t : L} (h : okr X) : takesTx [cod X ++ EE] t = takesT [cod X ++ EE] t := (takesT_one (no63 h) t).symm
theorem Kx_KK (X : L) (l1 : List L) (h1 : l1 ≠ []) (Y : L) (l2 : List L) (h2 : l2 ≠ []) (hX : okr X) (hl1 : ∀ r ∈ l1, okr r) (hY : okr Y) (hl2 : ∀ r ∈ l2, okr r) :
    Kx X l1 (Trest Y l2) = KK true X l1 Y l2 := by
  induction l2 generalizing X l1 Y with
  | nil => exact absurd rfl h2
  | cons Y2 l2 ih =>
    have hY2 := hl2 Y2 (.head _)
    cases l2 with
    | nil =>
      match l1, h1 with
      | [Xm], _ =>
        rw [Kx_one, findx_T _ hX hY]
        by_cases c : Y = X
        · rw [if_pos ⟨rfl, c⟩]
          show takesTx [cod Xm ++ EE] ([] ++ 42 :: (cod Y2 ++ EE)) = _
          rw [takesTx_one (hl1 Xm (.head _)), endL (hl1 Xm (.head _)) hY2]
          simp [KK, lcmp_t.mpr c]
        · rw [if_neg fun q => c q.2, findx_last hY2]
          have : lcmp true Y X = false := by rw [Bool.eq_false_iff, ne_eq, lcmp_t]; exact c
          simp [KK, this]
      | X2 :: X3 :: r', _ =>
        rw [Kx_more, findx_T _ hX hY, if_neg (by simp [tjT]), findx_last hY2]
        rfl
    | cons Y3 r =>
      match l1, h1 with
      | [Xm], h1 =>
        rw [Kx_one, findx_T _ hX hY, if_neg (by simp [tjT]), findx_next hX, ← Kx_one, ih X [Xm] h1 Y2 (by simp) hX hl1 hY2 (fun z hz => hl2 z (.tail _ hz))]
        rfl
      | X2 :: X3 :: r', h1 =>
        rw [Kx_more, findx_T _ hX hY]
        by_cases c : Y = X
        · rw [if_pos ⟨by simp [tjT], c⟩]
          show Kx X2 (X3 :: r') ((tjT (Y2 :: Y3 :: r) ++ EE).drop 4) = _
          rw [show (tjT (Y2 :: Y3 :: r) ++ EE).drop 4 = Trest Y2 (Y3 :: r) by simp [tjT, Trest]]
          rw [ih X2 (X3 :: r') (by simp) Y2 (by simp) (hl1 X2 (.head _)) (fun z hz => hl1 z (.tail _ hz)) hY2 (fun z hz => hl2 z (.tail _ hz))]
          simp only [KK, if_pos (lcmp_t.mpr c)]
        · have n : ¬ lcmp true Y X = true := fun q => c (lcmp_t.mp q)
          rw [if_neg fun q => c q.2, findx_next hX, ← Kx_more, ih X (X2 :: X3 :: r') h1 Y2 (by simp) hX hl1 hY2 (fun z hz => hl2 z (.tail _ hz))]
          simp only [KK, if_neg n]
theorem main_x {X Y : L} {l l' : List L} (hX : okr X) (hY : okr Y) (hl : ∀ r ∈ l, okr r) (hl' : ∀ r ∈ l', okr r) :
    takesx (tr (HH ++ cod X) EE l) (HH ++ (cod Y ++ (tjT l' ++ EE))) = lawTold true (X, l) (Y, l') := by
  by_cases hp : X <+: Y
  · obtain ⟨W, rfl⟩ := hp
    have hW : okr W := fun c hc => hY c (List.mem_append.mpr (.inr hc))
    match l with
    | [] =>
      show decide (HH ++ cod X ++ EE = HH ++ (cod (X ++ W) ++ (tjT l' ++ EE))) = decide ((X, ([] : List L)) = (X ++ W, l'))
      rw [Bool.eq_iff_iff, decide_eq_true_eq, decide_eq_true_eq, cod_app, List.append_assoc, List.append_cancel_left_eq, List.append_assoc, List.append_cancel_left_eq]
      constructor
      · intro q
        have len := congrArg List.length q
        simp only [List.length_append] at len
        have c1 : cod W = [] := List.eq_nil_of_length_eq_zero (by lia)
        have c2 : tjT l' = [] := List.eq_nil_of_length_eq_zero (by lia)
        have : W = [] := cod_inj hW (Y := []) (fun c hc => nomatch hc) c1
        subst this
        match l' with
        | [] => simp
        | [_] => cases c2
        | _ :: _ :: _ => cases c2
      · intro q
        simp only [Prod.mk.injEq, List.self_eq_append_right] at q
        obtain ⟨rfl, rfl⟩ := q
        rfl
    | [Xm] =>
      have hXm := hl Xm (.head _)
      have e := main_at false rfl hX hY hl hl'
      rw [takes_pre] at e
      rw [takesx_pre _ _ _ _ (by simp)]
      have e2 : lawTold true (X, [Xm]) (X ++ W, l') = lawTold false (X, [Xm]) (X ++ W, l') := rfl
      rw [e2, ← e]
      show ([46].isPrefixOf _ && takesTx [cod Xm ++ EE] _) = (fit [46] _ && takesT [cod Xm ++ EE] _)
      rw [takesTx_one hXm, fit_pre (by decide)]
    | P1 :: P2 :: pr =>
      rw [takesx_pre _ _ _ _ (by simp)]
      show ([40, 63, 62, 46].isPrefixOf (cod W ++ (tjT l' ++ EE)) && Kx P1 (P2 :: pr) ((cod W ++ (tjT l' ++ EE)).drop 4)) = _
      match W with
      | [] =>
        match l', hl' with
        | [], _ => simp [cod_nil, tjT, lawTold]
        | [Q], _ => simp [cod_nil, tjT, lawTold]
        | Q :: Q2 :: r, hl' =>
          have f : [40, 63, 62, 46].isPrefixOf (cod [] ++ (tjT (Q :: Q2 :: r) ++ EE)) = true := by simp [cod_nil, tjT]
          have d : (cod [] ++ (tjT (Q :: Q2 :: r) ++ EE)).drop 4 = Trest Q (Q2 :: r) := by simp [cod_nil, tjT, Trest]
          rw [f, d, Bool.true_and, Kx_KK P1 (P2 :: pr) (by simp) Q (Q2 :: r) (by simp) (hl P1 (.head _)) (fun z hz => hl z (.tail _ hz)) (hl' Q (.head _)) (fun z hz => hl' z (.tail _ hz)), KK_KL _ _ _ (by simp) _ _ (by simp)]
          simp only [List.append_nil]
          show (KL true (P1 :: (P2 :: pr).dropLast) (Q :: (Q2 :: r).dropLast) && _) = if X ≠ X ∨ _ then false else KL true (P1 :: P2 :: pr).dropLast (Q :: Q2 :: r).dropLast
          cases h : ends ((Q2 :: r).getLast (by simp)) ((P2 :: pr).getLast (by simp)) with
          | false => rw [Bool.and_false, if_pos (.inr rfl)]
          | true => rw [Bool.and_true, if_neg (by simp)]; rfl
      | w :: W =>
        have k : [40, 63, 62, 46].isPrefixOf (cod (w :: W) ++ (tjT l' ++ EE)) = false := by
          rw [cod_cons, List.append_assoc]
          obtain ⟨u, hu, _⟩ := one_cons (okr_head hW) (cod W ++ (tjT l' ++ EE))
          rw [hu]
          exact pre_no (fit_ne (by decide) (fun q => csig_ne (hd1_csig (okr_head hW)) (by decide) q.symm) _ _)
        rw [k, Bool.false_and]
        match l' with
        | [] => rfl
        | [Q] => rfl
        | Q :: Q2 :: r => simp [lawTold]
  · rw [takesx_no l l' hX hY hp]
    have ne : Y ≠ X := fun q => hp (q ▸ List.prefix_refl _)
    match l with
    | [] => 
      symm
      show decide ((X, ([] : List L)) = (Y, l')) = false
      exact decide_eq_false fun q => ne (Prod.mk.inj q).1.symm
    | [Xm] =>
      match l' with
      | [] => simp [lawTold, pre63p hp]
      | [Q] => simp [lawTold, pre63p hp, ne]
      | Q :: Q2 :: r => simp [lawTold, pre63p hp]
    | P1 :: P2 :: pr =>
      match l' with
      | [] => rfl
      | [Q] => rfl
      | Q :: Q2 :: r => simp [lawTold, ne]
theorem main_coded {p q : L} (hp : okt p) (hq : okt q) : takes (runs (word (told p))) (word (told q)) = lawTold true (runs p) (runs q) := by
  obtain ⟨a, b⟩ := runs_okr hp
  obtain ⟨c, d⟩ := runs_okr hq
  rw [coded_is hp hq, told_form q]
  exact main_x a c b d
end
local macro_rules | `(tactic| walk_at $s:str) => `(tactic| k_extra $(Lean.Syntax.mkStrLit ("m:" ++ s.getString)))
section
theorem ex2 {α0 : Sort _} {α1 : Sort _} {p : α0 → α1 → Prop} {C : Prop} (h : ∃ a0, ∃ a1, p a0 a1) (k : ∀ a0 a1, p a0 a1 → C) : C :=
  h.elim fun a0 h => h.elim fun a1 h => k a0 a1 h
theorem ex3 {α0 : Sort _} {α1 : Sort _} {α2 : Sort _} {p : α0 → α1 → α2 → Prop} {C : Prop} (h : ∃ a0, ∃ a1, ∃ a2, p a0 a1 a2) (k : ∀ a0 a1 a2, p a0 a1 a2 → C) : C :=
  h.elim fun a0 h => h.elim fun a1 h => h.elim fun a2 h => k a0 a1 a2 h
theorem ex4 {α0 : Sort _} {α1 : Sort _} {α2 : Sort _} {α3 : Sort _} {p : α0 → α1 → α2 → α3 → Prop} {C : Prop} (h : ∃ a0, ∃ a1, ∃ a2, ∃ a3, p a0 a1 a2 a3) (k : ∀ a0 a1 a2 a3, p a0 a1 a2 a3 → C) : C :=
  h.elim fun a0 h => h.elim fun a1 h => h.elim fun a2 h => h.elim fun a3 h => k a0 a1 a2 a3 h
theorem ex5 {α0 : Sort _} {α1 : Sort _} {α2 : Sort _} {α3 : Sort _} {α4 : Sort _} {p : α0 → α1 → α2 → α3 → α4 → Prop} {C : Prop} (h : ∃ a0, ∃ a1, ∃ a2, ∃ a3, ∃ a4, p a0 a1 a2 a3 a4) (k : ∀ a0 a1 a2 a3 a4, p a0 a1 a2 a3 a4 → C) : C :=
  h.elim fun a0 h => h.elim fun a1 h => h.elim fun a2 h => h.elim fun a3 h => h.elim fun a4 h => k a0 a1 a2 a3 a4 h
theorem an5 {a0 a1 a2 a3 a4 C : Prop} (h : a0 ∧ a1 ∧ a2 ∧ a3 ∧ a4) (k : a0 → a1 → a2 → a3 → a4 → C) : C :=
  k h.1 h.2.1 h.2.2.1 h.2.2.2.1 h.2.2.2.2
theorem an6 {a0 a1 a2 a3 a4 a5 C : Prop} (h : a0 ∧ a1 ∧ a2 ∧ a3 ∧ a4 ∧ a5) (k : a0 → a1 → a2 → a3 → a4 → a5 → C) : C :=
  k h.1 h.2.1 h.2.2.1 h.2.2.2.1 h.2.2.2.2.1 h.2.2.2.2.2
theorem an7 {a0 a1 a2 a3 a4 a5 a6 C : Prop} (h : a0 ∧ a1 ∧ a2 ∧ a3 ∧ a4 ∧ a5 ∧ a6) (k : a0 → a1 → a2 → a3 → a4 → a5 → a6 → C) : C :=
  k h.1 h.2.1 h.2.2.1 h.2.2.2.1 h.2.2.2.2.1 h.2.2.2.2.2.1 h.2.2.2.2.2.2
theorem an9 {a0 a1 a2 a3 a4 a5 a6 a7 a8 C : Prop} (h : a0 ∧ a1 ∧ a2 ∧ a3 ∧ a4 ∧ a5 ∧ a6 ∧ a7 ∧ a8) (k : a0 → a1 → a2 → a3 → a4 → a5 → a6 → a7 → a8 → C) : C :=
  k h.1 h.2.1 h.2.2.1 h.2.2.2.1 h.2.2.2.2.1 h.2.2.2.2.2.1 h.2.2.2.2.2.2.1 h.2.2.2.2.2.2.2.1 h.2.2.2.2.2.2.2.2
theorem dep_lt {a b c : Nat} (h : a + b < recursionLimit) (hc : 1 + c ≤ b) : a + 1 + c < recursionLimit := by lia
theorem unit_lt {a b c : Nat} (h : a + b < cLine) (hc : 3 + c ≤ b) : a + 3 + c < cLine := by lia
abbrev NoE : Value → Shared → Prop := fun _ _ => False
section
variable {prog : Program} {w : World} {A : Around} {s : Shared} {env : Env} {h₀ : Heap} {Q : Flow → Shared → Prop}
def EndT (h₀ : Heap) (L I : Addr) (oI : Obj) (J : (Str → Option Value) → List (Addr × Obj) → Prop) (Q : Flow → Shared → Prop) (s₁ : Shared) (f : Flow) (s₂ : Shared) : Prop :=
  match f with
  | .ret v => Q (.ret v) s₂
  | .brk => Q .next s₂
  | _ => ∃ h' tk m' news', s₂ = { s₁ with heap := h', toks := tk } ∧ Fr h₀ L h' m' ∧ News h₀ L h' ((I, oI) :: news') ∧ (∀ p ∈ news', p.1 ≠ I) ∧ J m' news'
theorem mkT {h₀ : Heap} {L I : Addr} {oI : Obj} {J : (Str → Option Value) → List (Addr × Obj) → Prop} {Q : Flow → Shared → Prop} {s₁ : Shared} {h' : Heap} {tk : Nat} {m' : Str → Option Value} {news₂ : List (Addr × Obj)}
    (F : Fr h₀ L h' m') (N : News h₀ L h' ((I, oI) :: news₂)) (off : ∀ p ∈ news₂, p.1 ≠ I) (j : J m' news₂) : EndT h₀ L I oI J Q s₁ .next { s₁ with heap := h', toks := tk } :=
  ⟨h', tk, m', news₂, rfl, F, N, off, j⟩
theorem mkW {h₀ : Heap} {L : Addr} {s : Shared} {J : Nat → (Str → Option Value) → List (Addr × Obj) → Prop} {Q : Flow → Shared → Prop} {n n' : Nat} {h' : Heap} {tk : Nat} {m₂ : Str → Option Value} {news₂ : List (Addr × Obj)}
    (F : Fr h₀ L h' m₂) (N : News h₀ L h' news₂) (lt : n' < n) (j : J n' m₂ news₂) : WhileStep2 h₀ L s J Q n .next { s with heap := h', toks := tk } :=
  ⟨h', tk, m₂, news₂, n', rfl, F, N, lt, j⟩
theorem for_W {target : Expr} {body orelse : List Stmt} {I : Addr} {fp : List Addr} {n : Nat} {P : Nat → Value → Prop} {St : Nat → Heap → Prop} {m₀ : Str → Option Value} {news : List (Addr × Obj)}
    (J : Nat → (Str → Option Value) → List (Addr × Obj) → Prop) (W : Walks prog w A I fp [I] n P St) (hIo : ∀ i h, St i h → ∃ o, h.get? I = some o)
    (F : Fr h₀ env.locals s.heap m₀) (N : News h₀ env.locals s.heap news) (hIL : env.locals ≠ I) (hI0 : h₀.get? I = none) (off : ∀ p ∈ news, p.1 ≠ I) (hst : St 0 s.heap) (hj : J 0 m₀ news)
    (keep : ∀ i h h' o m' news', St i h → h.get? I = some o → h'.get? I = some o → J i m' news' → Fr h₀ env.locals h' m' → News h₀ env.locals h' news' → St i h')
    (turn : ∀ i v m₁ news₁ h tk oI, i < n → P i v → J i m₁ news₁ → (∀ p ∈ news₁, p.1 ≠ I) → Fr h₀ env.locals h m₁ → News h₀ env.locals h ((I, oI) :: news₁) →
      wpAny (model prog w) A (assign target env v) (fun _ s₃ => wpAny (model prog w) A (execs body env) (EndT h₀ env.locals I oI (J (i + 1)) Q s) NoE s₃) NoE { s with heap := h, toks := tk })
    (done : ∀ m₁ news₁ h tk, J n m₁ news₁ → Fr h₀ env.locals h m₁ → News h₀ env.locals h news₁ → wpAny (model prog w) A (execs orelse env) Q NoE { s with heap := h, toks := tk })
    (hgo : ∀ i (s' : Shared) v (Q' : Unit → Shared → Prop), St i s'.heap → Q' () s' → wpAny (model prog w) A (letOwnedTupleGo target (.ref I) v) Q' NoE s') :
    codeAny (model prog w) A (.forLoop target (.ref I) body orelse env) (fun r s' => match r with | .ok f => Q f s' | .error e => cameBackBy (model prog w) A env NoE e s') s := by
  refine codeAny_forLoop_any (R := fun r s' => match r with | .ok f => Q f s' | .error e => cameBackBy (model prog w) A env NoE e s')
    (fun k s' => ∃ h tk i m₁ news₁, s' = { s with heap := h, toks := tk } ∧ i ≤ n ∧ k = n - i ∧ St i h ∧ Fr h₀ env.locals h m₁ ∧ News h₀ env.locals h news₁ ∧ (∀ p ∈ news₁, p.1 ≠ I) ∧ J i m₁ news₁)
    ?_ n ⟨s.heap, s.toks, 0, m₀, news, rfl, Nat.zero_le _, rfl, hst, F, N, off, hj⟩
  rintro k s' ⟨h, tk, i, m₁, news₁, rfl, hi, rfl, hst₁, F₁, N₁, off₁, J₁⟩
  by_cases hlt : i < n
  · refine W.item i _ _ _ hlt hst₁ fun v h₂ tk₂ hP hst₂ hk₂ => ?_
    obtain ⟨oI, hoI⟩ := hIo _ _ hst₂
    have F₂ : Fr h₀ env.locals h₂ m₁ := fr_but' F₁ hk₂ hIL hI0
    have N₂ : News h₀ env.locals h₂ news₁ := fun p hp => ⟨hk₂ _ _ (by simpa using off₁ p hp) (N₁ p hp).1, (N₁ p hp).2⟩
    have N₃ : News h₀ env.locals h₂ ((I, oI) :: news₁) := fun p hp => by
      rcases List.mem_cons.mp hp with rfl | hp
      · exact ⟨hoI, fun q => hIL q.symm, hI0⟩
      · exact N₂ p hp
    refine wpAny_mono (hgo _ _ _ _ hst₂ ?_) (fun _ _ x => x) (fun _ _ x => x.elim)
    refine wpAny_mono (turn i v m₁ news₁ h₂ tk₂ oI hlt hP J₁ off₁ F₂ N₃) (fun _ s₃ h₃ => ?_) (fun _ _ x => x.elim)
    refine wpAny_mono h₃ (fun f s₄ h₄ => ?_) (fun _ _ x => x.elim)
    have go : (∃ h' tk m' news', s₄ = { s with heap := h', toks := tk } ∧ Fr h₀ env.locals h' m' ∧ News h₀ env.locals h' ((I, oI) :: news') ∧ (∀ p ∈ news', p.1 ≠ I) ∧ J (i + 1) m' news') →
        ∃ m, m < n - i ∧ ∃ h tk i m₁ news₁, s₄ = { s with heap := h, toks := tk } ∧ i ≤ n ∧ m = n - i ∧ St i h ∧ Fr h₀ env.locals h m₁ ∧ News h₀ env.locals h news₁ ∧ (∀ p ∈ news₁, p.1 ≠ I) ∧ J i m₁ news₁ := by
      rintro ⟨h', tk', m', news', rfl, F', N', off', J'⟩
      have N'' : News h₀ env.locals h' news' := fun p hp => N' p (.tail _ hp)
      exact ⟨n - (i + 1), by lia, h', tk', i + 1, m', news', rfl, hlt, rfl, keep _ _ _ _ _ _ hst₂ hoI (N' _ (.head _)).1 J' F' N'', F', N'', off', J'⟩
    cases f with
    | ret v => exact h₄
    | brk => exact h₄
    | next => exact go h₄
    | cont => exact go h₄
  · obtain rfl : i = n := by lia
    refine W.done _ _ _ hst₁ fun h₂ tk₂ hk₂ => ?_
    have F₂ : Fr h₀ env.locals h₂ m₁ := fr_but' F₁ hk₂ hIL hI0
    have N₂ : News h₀ env.locals h₂ news₁ := fun p hp => ⟨hk₂ _ _ (by simpa using off₁ p hp) (N₁ p hp).1, (N₁ p hp).2⟩
    exact wpAny_mono (done m₁ news₁ h₂ tk₂ J₁ F₂ N₂) (fun _ _ x => x) (fun _ _ x => x.elim)
where
  fr_but' {h h' : Heap} {L I : Addr} {m : Str → Option Value} (F : Fr h₀ L h m) (hk : ∀ b o, b ∉ [I] → h.get? b = some o → h'.get? b = some o) (hL : L ≠ I) (hI : h₀.get? I = none) : Fr h₀ L h' m :=
    ⟨F.ns.at' fun o e => hk L o (by simpa using hL) e, fun b o e => hk b o (fun hm => by rw [List.mem_singleton.mp hm, hI] at e; cases e) (F.keep b o e), F.above⟩
/-- a for over a list that no turn changes -/
theorem iter_list0 {target : Expr} {body orelse : List Stmt} {l : Addr} {items : Array Value} {m₀ : Str → Option Value} {news : List (Addr × Obj)}
    (J : Nat → (Str → Option Value) → List (Addr × Obj) → Prop) (hh : A.handled = none)
    (F : Fr h₀ env.locals s.heap m₀) (N : News h₀ env.locals s.heap news) (hj : J 0 m₀ news)
    (src : ∀ i m news h, J i m news → Fr h₀ env.locals h m → News h₀ env.locals h news → h.IsList l items)
    (turn : ∀ I i v m₁ news₁ h tk oI, items[i]? = some v → J i m₁ news₁ → (∀ p ∈ news₁, p.1 ≠ I) → Fr h₀ env.locals h m₁ → News h₀ env.locals h ((I, oI) :: news₁) →
      wpAny (model prog w) A (assign target env v) (fun _ s₃ => wpAny (model prog w) A (execs body env) (EndT h₀ env.locals I oI (J (i + 1)) Q { s with heap := h, toks := tk }) NoE s₃) NoE { s with heap := h, toks := tk })
    (done : ∀ m₁ news₁ h tk, J items.size m₁ news₁ → Fr h₀ env.locals h m₁ → News h₀ env.locals h news₁ → wpAny (model prog w) A (execs orelse env) Q NoE { s with heap := h, toks := tk })
    (hgo : ∀ I i (s' : Shared) v (Q' : Unit → Shared → Prop), s'.heap.IsListIter I l i → Q' () s' → wpAny (model prog w) A (letOwnedTupleGo target (.ref I) v) Q' NoE s') :
    wpAny (model prog w) A (pyIter (.ref l)) (fun it s₂ => codeAny (model prog w) A (.forLoop target it body orelse env) (fun r s' => match r with | .ok f => Q f s' | .error e => cameBackBy (model prog w) A env NoE e s') s₂) NoE s := by
  have hl := src 0 m₀ news s.heap hj F N
  have hlt : l < s.heap.objs.size := by obtain ⟨_, e, _⟩ := hl; exact Heap.lt_size e
  refine wpAny_pyIter_list hl ?_
  have up : ∀ b o, s.heap.get? b = some o → (s.heap.push { cls := .type "list_iterator", data := .fields #[.ref l, .int 0 0] }).get? b = some o := fun b o e => Heap.get?_push_of_some _ e
  refine for_W (s := { s with heap := s.heap.push _ }) J (Walks.list hh s.heap.objs.size l (Nat.ne_of_lt hlt) items) (fun i h st => by obtain ⟨o, e, _⟩ := st.1; exact ⟨o, e⟩)
    (F.keeps up) (N.grown up) (Nat.ne_of_lt F.ns.lt) (next_is_new F) (fun p hp => Nat.ne_of_lt (Heap.lt_size (N p hp).1)) ⟨⟨_, Heap.get?_push_size _ rfl, rfl, rfl⟩, hl.at fun o e => up _ o e⟩ hj
    (fun i h h' o m' news' st e e' j F' N' => ⟨st.1.at fun o' q => by rw [e] at q; cases q; exact e', src _ _ _ _ j F' N'⟩)
    (fun i v m₁ news₁ h tk oI _ hP j off F' N' => ?_) (fun m₁ news₁ h tk j F' N' => done m₁ news₁ h tk j F' N') (fun i s' v Q' st q => hgo _ i s' v Q' st.1 q)
  exact wpAny_mono (turn _ i v m₁ news₁ h tk oI hP j off F' N') (fun _ _ x => wpAny_mono x (fun f _ y => by cases f <;> exact y) fun _ _ e => e) fun _ _ e => e
/-- a for over a list that no turn changes -/
theorem iter_list {target : Expr} {body orelse : List Stmt} {l : Addr} {items : Array Value} {m₀ : Str → Option Value} {news : List (Addr × Obj)}
    (J : Nat → (Str → Option Value) → List (Addr × Obj) → Prop) (hh : A.handled = none)
    (F : Fr h₀ env.locals s.heap m₀) (N : News h₀ env.locals s.heap news) (hj : J 0 m₀ news)
    (src : ∀ i m news h, J i m news → Fr h₀ env.locals h m → News h₀ env.locals h news → h.IsList l items)
    (turn : ∀ I i v m₁ news₁ h tk oI, items[i]? = some v → J i m₁ news₁ → (∀ p ∈ news₁, p.1 ≠ I) → Fr h₀ env.locals h m₁ → News h₀ env.locals h ((I, oI) :: news₁) →
      wpAny (model prog w) A (assign target env v) (fun _ s₃ => wpAny (model prog w) A (execs body env) (EndT h₀ env.locals I oI (J (i + 1)) Q { s with heap := h, toks := tk }) NoE s₃) NoE { s with heap := h, toks := tk })
    (done : ∀ m₁ news₁ h tk, J items.size m₁ news₁ → Fr h₀ env.locals h m₁ → News h₀ env.locals h news₁ → wpAny (model prog w) A (execs orelse env) Q NoE { s with heap := h, toks := tk })
    (ht : ∀ I v, letOwnedTupleGo target (.ref I) v = pure () := by intro _ _; rfl) :
    wpAny (model prog w) A (pyIter (.ref l)) (fun it s₂ => codeAny (model prog w) A (.forLoop target it body orelse env) (fun r s' => match r with | .ok f => Q f s' | .error e => cameBackBy (model prog w) A env NoE e s') s₂) NoE s :=
  iter_list0 J hh F N hj src turn done fun I i s' v Q' _ q => by rw [ht I v]; exact wpAny_pure q
/-- a for over a list that no turn changes -/
theorem iter_listT {elts : List Expr} {kt : Nat} {pt : Pos} {body orelse : List Stmt} {l : Addr} {items : Array Value} {m₀ : Str → Option Value} {news : List (Addr × Obj)}
    (J : Nat → (Str → Option Value) → List (Addr × Obj) → Prop) (hh : A.handled = none)
    (F : Fr h₀ env.locals s.heap m₀) (N : News h₀ env.locals s.heap news) (hj : J 0 m₀ news)
    (src : ∀ i m news h, J i m news → Fr h₀ env.locals h m → News h₀ env.locals h news → h.IsList l items)
    (turn : ∀ I i v m₁ news₁ h tk oI, items[i]? = some v → J i m₁ news₁ → (∀ p ∈ news₁, p.1 ≠ I) → Fr h₀ env.locals h m₁ → News h₀ env.locals h ((I, oI) :: news₁) →
      wpAny (model prog w) A (assign (.Tuple elts kt pt) env v) (fun _ s₃ => wpAny (model prog w) A (execs body env) (EndT h₀ env.locals I oI (J (i + 1)) Q { s with heap := h, toks := tk }) NoE s₃) NoE { s with heap := h, toks := tk })
    (done : ∀ m₁ news₁ h tk, J items.size m₁ news₁ → Fr h₀ env.locals h m₁ → News h₀ env.locals h news₁ → wpAny (model prog w) A (execs orelse env) Q NoE { s with heap := h, toks := tk }) :
    wpAny (model prog w) A (pyIter (.ref l)) (fun it s₂ => codeAny (model prog w) A (.forLoop (.Tuple elts kt pt) it body orelse env) (fun r s' => match r with | .ok f => Q f s' | .error e => cameBackBy (model prog w) A env NoE e s') s₂) NoE s :=
  iter_list0 J hh F N hj src turn done fun I i s' v Q' hi q => by
    cases v with
    | ref T => exact wpAny_letOwnedTupleGo_listiter hi q
    | _ => exact wpAny_pure q
/-- a for over range(a, a + n) -/
theorem iter_range {target : Expr} {body orelse : List Stmt} {r : Addr} {a b : Int} {t u v : Tok} {n : Nat} {m₀ : Str → Option Value} {news : List (Addr × Obj)}
    (J : Nat → (Str → Option Value) → List (Addr × Obj) → Prop) (hh : A.handled = none) (hr : IsRange s.heap r a b 1 t u v) (hsm : Builtin.Range.small a b 1 = true) (hn : Builtin.Range.rangeSize a b 1 = ((n : Nat) : Int))
    (F : Fr h₀ env.locals s.heap m₀) (N : News h₀ env.locals s.heap news) (hj : J 0 m₀ news)
    (turn : ∀ I i t m₁ news₁ h tk oI, i < n → J i m₁ news₁ → (∀ p ∈ news₁, p.1 ≠ I) → Fr h₀ env.locals h m₁ → News h₀ env.locals h ((I, oI) :: news₁) →
      wpAny (model prog w) A (assign target env (.int (a + (i : Int)) t)) (fun _ s₃ => wpAny (model prog w) A (execs body env) (EndT h₀ env.locals I oI (J (i + 1)) Q { s with heap := h, toks := tk }) NoE s₃) NoE { s with heap := h, toks := tk })
    (done : ∀ m₁ news₁ h tk, J n m₁ news₁ → Fr h₀ env.locals h m₁ → News h₀ env.locals h news₁ → wpAny (model prog w) A (execs orelse env) Q NoE { s with heap := h, toks := tk })
    (ht : ∀ I v, letOwnedTupleGo target (.ref I) v = pure () := by intro _ _; rfl) :
    wpAny (model prog w) A (pyIter (.ref r)) (fun it s₂ => codeAny (model prog w) A (.forLoop target it body orelse env) (fun r s' => match r with | .ok f => Q f s' | .error e => cameBackBy (model prog w) A env NoE e s') s₂) NoE s := by
  refine wpAny_pyIter_range hr hsm ?_
  refine for_W (s := { s with heap := s.heap.push _ }) J (LCg.range_walks hh a n) (fun i h st => ⟨_, st⟩)
    (F.keeps fun _ _ e => Heap.get?_push_of_some _ e) (N.grown fun _ _ e => Heap.get?_push_of_some _ e) (Nat.ne_of_lt F.ns.lt) (next_is_new F) (fun p hp => Nat.ne_of_lt (Heap.lt_size (N p hp).1))
    (by show IsRangeIter _ _ _ _ _; rw [hn]; simpa using Heap.get?_push_size _ rfl) hj
    (fun i h h' o m' news' st e e' j F' N' => by have : h.get? _ = _ := st; rw [this] at e; cases e; exact e')
    (fun i v m₁ news₁ h tk oI hi hP j off F' N' => ?_) (fun m₁ news₁ h tk j F' N' => done m₁ news₁ h tk j F' N') (fun i s' v Q' st q => by rw [ht _ v]; exact wpAny_pure q)
  obtain ⟨t, rfl⟩ := hP
  exact wpAny_mono (turn _ i t m₁ news₁ h tk oI hi j off F' N') (fun _ _ x => wpAny_mono x (fun f _ y => by cases f <;> exact y) fun _ _ e => e) fun _ _ e => e
end
theorem Top.up {mean mg mb} {h h' : Heap} (T : Top qV LV mean mg mb h) {h₀ : Heap} {L} {m} (F : Fr h L h' m) : Top qV LV mean mg mb h' := T.keeps F.keep
section
variable {prog : Program} {w : World} {A : Around} {s : Shared} {E : Value → Shared → Prop}
theorem len_L {l : Addr} {items : Array Value} {Q : Value → Shared → Prop} (hl : s.heap.IsList l items) (hb : items.size ≤ 1000000)
    (h : Q (.int items.size (s.toks + 1)) { s with toks := s.toks + 1 + 1 }) : wpAny (model prog w) A (call (.builtin "len") [.ref l]) Q E s :=
  len_list hl (by lia) h
theorem itemS {value slice : Expr} {x : Str} {i : Int} {t u : Tok} {Q : Value → Shared → Prop} (h0 : 0 ≤ i) (h1 : i < (x.length : Int)) (hn : x.length ≤ 1000000)
    (h : Q (.str (Txt.item x i) s.toks) { s with toks := s.toks + 1 })
    (hs : subscripted slice false (.str x t) (.int i u) = operate [.str x t, .int i u] (getItem (.str x t) (.int i u)))
    (ht : ∀ r, letTemporaryGo value (.str x t) r = pure ()) :
    wpAny (model prog w) A (subscriptTail value slice (.str x t) (.int i u)) Q E s :=
  KXi.item (n := x.length) rfl (by lia) h1 (by lia) (fun _ => h) hs ht
theorem itemL {value slice : Expr} {l : Addr} {items : Array Value} {k : Int} {u : Tok} {x : Value} {Q : Value → Shared → Prop} (hl : s.heap.IsList l items)
    (h0 : 0 ≤ k) (hfit : k ≤ 1000000) (hx : items[k.toNat]? = some x) (h : Q x s)
    (hs : subscripted slice false (.ref l) (.int k u) = operate [.ref l, .int k u] (getItem (.ref l) (.int k u))) (hg : ∀ r, letTemporaryGo value (.ref l) r = pure ()) :
    wpAny (model prog w) A (subscriptTail value slice (.ref l) (.int k u)) Q E s := item_list hl h0 (by lia) hx h hs hg
theorem itemT {value slice : Expr} {r : Addr} {l : List Value} {k : Int} {u : Tok} {x : Value} {Q : Value → Shared → Prop} (ht : IsTup s.heap r l.toArray)
    (h0 : 0 ≤ k) (hfit : k ≤ 1000000) (hx : l[k.toNat]? = some x) (h : Q x s)
    (hs : subscripted slice false (.ref r) (.int k u) = operate [.ref r, .int k u] (getItem (.ref r) (.int k u))) :
    wpAny (model prog w) A (subscriptTail value slice (.ref r) (.int k u)) Q E s := by
  have hlt : k.toNat < l.length := by
    rcases Nat.lt_or_ge k.toNat l.length with q | q
    · exact q
    · rw [List.getElem?_eq_none q] at hx; cases hx
  refine item_tupleT (j := k.toNat) ht (by lia) (by lia) ?_ hx h hs
  simp only [seqIndex?]
  rw [if_neg (Int.not_lt.mpr h0), if_pos (by simp only [Bool.and_eq_true, decide_eq_true_eq]; lia)]
end
theorem itemN {x : Str} {i : Int} {n : Nat} (h : i = (n : Int)) (h1 : n < x.length) : Txt.item x i = ⟨#[x.cps.toList.getD n 0]⟩ := by
  subst h
  have := item_at (x := x) (i := (n : Int)) (n := n) (by lia) (by lia) (by simp)
  rw [this]
  simp [Array.getD_eq_getD_getElem?, List.getD_eq_getElem?_getD]
def atom (c : Nat) : Bool × Str := if c = 63 then (true, ⟨#[]⟩) else (false, ⟨#[c]⟩)
theorem test_atom (c d : Nat) : ((!(Builtin.Str.occurrences (atom c).2 ⟨#[d]⟩ 0 (atom c).2.length 1).isEmpty) == (atom c).1) = !(c == 63 || c == d) := by
  rw [StrLaws.found_one]
  by_cases h : c = 63
  · subst h; rfl
  · have e : (c == 63) = false := beq_false_of_ne h
    rw [e]
    simp only [atom, if_neg h]
    by_cases h2 : c = d
    · subst h2; simp
    · have : (c == d) = false := beq_false_of_ne h2
      rw [this]
      simp [Ne.symm h2]
theorem fit_iff {Z t : List Nat} : fit Z t = true ↔ Z.length ≤ t.length ∧ ∀ (i : Nat) (c : Nat), Z[i]? = some c → c = 63 ∨ t[i]? = some c := by
  induction Z generalizing t with
  | nil => simp [fit]
  | cons a Z ih =>
    cases t with
    | nil => simp [fit]
    | cons b t =>
      rw [show fit (a :: Z) (b :: t) = ((a == 63 || a == b) && fit Z t) from rfl, Bool.and_eq_true, ih, Bool.or_eq_true, beq_iff_eq, beq_iff_eq]
      constructor
      · rintro ⟨h1, h2, h3⟩
        refine ⟨by simp only [List.length_cons]; lia, fun i c hc => ?_⟩
        cases i with
        | zero => simp only [List.getElem?_cons_zero, Option.some.injEq] at hc ⊢; subst hc; exact h1.imp id Eq.symm
        | succ i => simp only [List.getElem?_cons_succ] at hc ⊢; exact h3 i c hc
      · rintro ⟨h1, h2⟩
        refine ⟨?_, by simp only [List.length_cons] at h1; lia, fun i c hc => ?_⟩
        · have := h2 0 a rfl
          simp only [List.getElem?_cons_zero, Option.some.injEq] at this; exact this.imp id Eq.symm
        · have := h2 (i + 1) c (by simpa using hc)
          simpa using this
theorem bind_again {k : Str} {u m : Str → Option Value} {v : Option Value} : (fun z => if z = k then v else if z = k then u z else m z) = fun z => if z = k then (fun _ => v) z else m z := by
  funext z; by_cases h : z = k <;> simp [h]
theorem bind_none {k : Str} {m : Str → Option Value} (h : m k = none) : m = fun y => if y = k then (fun _ => none) y else m y := by
  funext y; by_cases e : y = k
  · subst e; simp [h]
  · simp [e]
def AtomsAt (h : Heap) (vs : Array Value) (X : List Nat) : Prop := vs.size = X.length ∧ ∀ (i : Nat) (c : Nat), X[i]? = some c → ∃ r t, vs[i]? = some (Value.ref r) ∧ IsTup h r [Value.bool (atom c).1, Value.str (atom c).2 t].toArray
theorem small_of {n : Nat} (h : n ≤ 1000000) : Builtin.Range.small 0 (n : Int) 1 = true := small_one (by decide) (by decide) (by lia) (by lia)
theorem rsize_of (n : Nat) : Builtin.Range.rangeSize 0 (n : Int) 1 = ((n : Nat) : Int) := by
  simp [Builtin.Range.rangeSize]
  intro h; rw [h]; rfl
theorem env1 {k : Str} {v : Value} {keys : List Str} {base m : Str → Option Value} (h1 : m k = some v) (h2 : ∀ y, y ≠ k → y ∉ keys → m y = base y) :
    m = fun y => if y = k then some v else if y ∈ keys then m y else base y := by
  funext y
  by_cases e : y = k
  · subst e; simp [h1]
  · by_cases e2 : y ∈ keys
    · simp [e, e2]
    · simp [e, e2, h2 y e e2]
theorem env2 {k k' : Str} {v v' : Value} {keys : List Str} {base m : Str → Option Value} (h1 : m k = some v) (h1' : m k' = some v') (h2 : ∀ y, y ≠ k → y ≠ k' → y ∉ keys → m y = base y) :
    m = fun y => if y = k then some v else if y = k' then some v' else if y ∈ keys then m y else base y := by
  funext y
  by_cases e : y = k
  · subst e; simp [h1]
  · by_cases e' : y = k'
    · subst e'; simp [h1', e]
    · by_cases e2 : y ∈ keys
      · simp [e, e', e2]
      · simp [e, e', e2, h2 y e e' e2]
def kindS : Nat → Str
  | 0 => Str.ofString "run"
  | 1 => Str.ofString "free"
  | _ => Str.ofString "held"
def PartsAt (h : Heap) (vs : Array Value) (ps : List (Nat × List Nat)) : Prop := vs.size = ps.length ∧ ∀ (i : Nat) (p : Nat × List Nat), ps[i]? = some p →
  ∃ r t a avs, vs[i]? = some (Value.ref r) ∧ IsTup h r [Value.str (kindS p.1) t, Value.ref a].toArray ∧ h.IsList a avs ∧ AtomsAt h avs p.2
def stepP (p : Nat × List Nat) (t : List Nat) : Option (List Nat) := match p.1 with
  | 0 => if fit p.2 t then some (t.drop p.2.length) else none
  | 1 => if decide (p.2.length ≤ t.length) && fit p.2 (t.drop (t.length - p.2.length)) then some [] else none
  | _ => find p.2 t
def takesP : List (Nat × List Nat) → List Nat → Bool
  | [], t => t.isEmpty
  | p :: ps, t => match stepP p t with
    | none => false
    | some t' => takesP ps t'
theorem AtomsAt.keeps {h h' : Heap} {vs : Array Value} {X : List Nat} (x : AtomsAt h vs X) (k : ∀ b o, h.get? b = some o → h'.get? b = some o) : AtomsAt h' vs X :=
  ⟨x.1, fun i c e => let ⟨r, t, a, b⟩ := x.2 i c e; ⟨r, t, a, IsTup.keeps b k⟩⟩
section
variable {prog : Program} {w : World} {A : Around} {E : Value → Shared → Prop} {s : Shared} {name : Str} {scope : Scope} {L a : Addr} {cd : Value} {h₀ : Heap} {m : Str → Option Value} {news : List (Addr × Obj)}
theorem assign_T2 {x y : Str} {px py pt : Pos} {kt : Nat} {r : Addr} {v1 v2 : Value} {Q : Unit → Shared → Prop} (hh : A.handled = none) (F : Fr h₀ L s.heap m) (N : News h₀ L s.heap news) (ht : IsTup s.heap r [v1, v2].toArray)
    (h : ∀ h' tk, Fr h₀ L h' (fun z => if z = y then some v2 else if z = x then some v1 else m z) → News h₀ L h' news → Q () { s with heap := h', toks := tk })
    (hk : scope.kind = .function) (hl : (envOf name scope L a cd).kindOf x = some .local) (hl2 : (envOf name scope L a cd).kindOf y = some .local) :
    wpAny (model prog w) A (assign (.Tuple [.Name x px, .Name y py] kt pt) (envOf name scope L a cd) (.ref r)) Q E s := by
  refine assign_Tuple_tuple hh ht rfl rfl fun h' hb => ?_
  have F1 := F.extBut hb (Nat.le_refl _)
  have N1 := N.extBut hb (Nat.le_refl _)
  refine assignInOrder_cons (t := assign (.Name x px) (envOf name scope L a cd)) (wpAny_assign_Name (stN F1 N1 (fun h2 F2 N2 => ?_) hk hl))
  refine assignInOrder_cons (t := assign (.Name y py) (envOf name scope L a cd)) (wpAny_assign_Name (stN F2 N2 (fun h3 F3 N3 => ?_) hk hl2))
  exact assignInOrder_nil (h _ _ F3 N3)
end
def Stop (p : Prop) : Prop := p
theorem Stop.mk {p : Prop} (h : Stop p) : p := h
theorem env0 {k : Str} {v : Value} {base m : Str → Option Value} (h1 : m k = some v) (h2 : ∀ y, y ≠ k → m y = base y) :
    m = fun y => if y = k then some v else base y := by
  funext y
  by_cases e : y = k
  · subst e; simp [h1]
  · simp [e, h2 y e]
theorem takesP_cons {p : Nat × List Nat} {ps : List (Nat × List Nat)} {t : List Nat} : takesP (p :: ps) t = match stepP p t with | none => false | some t' => takesP ps t' := rfl
theorem find_hit {Z t : List Nat} (h : fit Z t = true) : find Z t = some (t.drop Z.length) := by
  cases t with
  | nil =>
    have e : find Z [] = if fit Z [] then some [] else none := rfl
    rw [e, h]; simp
  | cons b t =>
    have e : find Z (b :: t) = if fit Z (b :: t) then some ((b :: t).drop Z.length) else find Z t := rfl
    rw [e, h]; rfl
theorem find_miss {Z t : List Nat} (h : fit Z t = false) (ht : t ≠ []) : find Z t = find Z (t.drop 1) := by
  cases t with
  | nil => exact absurd rfl ht
  | cons b t =>
    have e : find Z (b :: t) = if fit Z (b :: t) then some ((b :: t).drop Z.length) else find Z t := rfl
    rw [e, h]; rfl
theorem fit_short {Z t : List Nat} (h : t.length < Z.length) : fit Z t = false := by
  rw [Bool.eq_false_iff, Ne, fit_iff]
  rintro ⟨q, _⟩
  lia
theorem find_short {Z t : List Nat} (h : t.length < Z.length) : find Z t = none := by
  induction t with
  | nil =>
    have e : find Z [] = if fit Z [] then some [] else none := rfl
    rw [e, fit_short h]; rfl
  | cons b t ih =>
    have e : find Z (b :: t) = if fit Z (b :: t) then some ((b :: t).drop Z.length) else find Z t := rfl
    rw [e, fit_short h]
    exact ih (by simp only [List.length_cons] at h; lia)
theorem len_strValues (l : List (Str × Tok)) : (strValues l).length = l.length := by simp [strValues]
theorem ite_eqT {a b : Int} {p q : Prop} (h : a = b) (k : p) : if (a == b) = true then p else q := by rw [if_pos (by rw [beq_iff_eq]; exact h)]; exact k
theorem ite_eqF {a b : Int} {p q : Prop} (h : a ≠ b) (k : q) : if (a == b) = true then p else q := by rw [if_neg (by rw [beq_iff_eq]; exact h)]; exact k
theorem ite_dT {c : Prop} [Decidable c] {p q : Prop} (h : c) (k : p) : if (decide c) = true then p else q := by rw [if_pos (decide_eq_true h)]; exact k
theorem ite_dF {c : Prop} [Decidable c] {p q : Prop} (h : ¬ c) (k : q) : if (decide c) = true then p else q := by rw [if_neg (by rw [decide_eq_true_eq]; exact h)]; exact k
theorem eq_strs {prog : Program} {w : World} {A : Around} {E : Value → Shared → Prop} {s : Shared} {l b : Addr} {ps qs : List (Str × Tok)} {Q : Value → Shared → Prop} (hl : s.heap.IsList l (strValues ps).toArray) (hb : s.heap.IsList b (strValues qs).toArray) (hu : A.units < cLine)
    (h : Q (.bool (decide (ps.map (·.1) = qs.map (·.1)))) s) : wpAny (model prog w) A (compareOp .Eq (.ref l) (.ref b)) Q E s := by
  by_cases hlen : ps.length = qs.length
  · refine SeqAt.eq_listAt (e := fun j => (ps.map (·.1)).getD j Str.empty == (qs.map (·.1)).getD j Str.empty) hl hb (by simp [strValues, hlen]) hu (fun j h1 h2 => ?_) ?_
    · have h1' : j < ps.length := by simpa [strValues] using h1
      have h2' : j < qs.length := by simpa [strValues] using h2
      have e1 : (strValues ps).toArray[j] = .str ps[j].1 ps[j].2 := by simp [strValues]
      have e2 : (strValues qs).toArray[j] = .str qs[j].1 qs[j].2 := by simp [strValues]
      rw [e1, e2]
      have e3 : (ps.map (·.1)).getD j Str.empty = ps[j].1 := by simp [List.getD_eq_getElem?_getD, h1']
      have e4 : (qs.map (·.1)).getD j Str.empty = qs[j].1 := by simp [List.getD_eq_getElem?_getD, h2']
      show SeqAt.EqAt _ _ _ _ ((ps.map (·.1)).getD j Str.empty == (qs.map (·.1)).getD j Str.empty)
      rw [e3, e4]
      exact (eqGives_str _ _ _ _).at _ _
    · have e : (List.range (strValues ps).toArray.size).all (fun j => (ps.map (·.1)).getD j Str.empty == (qs.map (·.1)).getD j Str.empty) = decide (ps.map (·.1) = qs.map (·.1)) := by
        rw [Bool.eq_iff_iff, List.all_eq_true, decide_eq_true_eq]
        constructor
        · intro q
          refine List.ext_getElem (by simp [hlen]) fun i h1 h2 => ?_
          have h1' : i < ps.length := by simpa using h1
          have h2' : i < qs.length := by simpa using h2
          have := q i (by simp [strValues, h1'])
          simpa [List.getD_eq_getElem?_getD, h1', h2'] using this
        · intro q j _
          rw [q]; simp
      rw [e]; exact h
  · refine SeqAt.eq_list_lengthsAt hl hb (by simp [strValues, hlen]) hu ?_
    have e : decide (ps.map (·.1) = qs.map (·.1)) = false := decide_eq_false fun q => hlen (by have := congrArg List.length q; simpa using this)
    rw [e] at h; exact h
def pyAt {α : Type} (l : List α) (k : Int) : Option α := l[(if k < 0 then k + (l.length : Int) else k).toNat]?
theorem itemSt {prog : Program} {w : World} {A : Around} {E : Value → Shared → Prop} {s : Shared} {value slice : Expr} {a : Addr} {ps : List (Str × Tok)} {k : Int} {u : Tok} {p : Str × Tok} {Q : Value → Shared → Prop} (hl : s.heap.IsList a (strValues ps).toArray)
    (h0 : -(ps.length : Int) ≤ k) (h1 : k < (ps.length : Int)) (hn : ps.length ≤ 1000000) (hp : pyAt ps k = some p) (h : Q (.str p.1 p.2) s)
    (hs : subscripted slice false (.ref a) (.int k u) = operate [.ref a, .int k u] (getItem (.ref a) (.int k u))) :
    wpAny (model prog w) A (subscriptTail value slice (.ref a) (.int k u)) Q E s := by
  unfold pyAt at hp
  by_cases hk : k < 0
  · rw [if_pos hk] at hp
    have hs2 : (strValues ps).toArray.size = ps.length := by simp [strValues]
    exact tail_any hl.typeIs slot_list_getitem.lookup (wpAny_getItem_list_neg hl hk (by rw [hs2]; lia) (by lia) (by rw [hs2]; simp [strValues, hp]) h) hs
  · rw [if_neg hk] at hp
    exact tail_any hl.typeIs slot_list_getitem.lookup (wpAny_getItem_list hl (by lia) (by lia) (by simp [strValues, hp]) h) hs
theorem subAt_iff (x y : Str) (i : Nat) : Builtin.Str.subAt x y i = ((x.cps.toList.drop i).take y.length == y.cps.toList) := by
  unfold Builtin.Str.subAt
  rw [Bool.eq_iff_iff, beq_iff_eq, beq_iff_eq]
  constructor
  · intro h
    have := congrArg Array.toList h
    rw [← this, Array.toList_extract]
    simp [List.extract_eq_take_drop]
  · intro h
    apply Array.toList_inj.mp
    rw [← h, Array.toList_extract]
    simp [List.extract_eq_take_drop]
theorem starts_eq (x y : Str) : Txt.startswith x y = y.cps.toList.isPrefixOf x.cps.toList := by
  unfold Txt.startswith
  rw [subAt_iff, Bool.eq_iff_iff, Bool.and_eq_true, decide_eq_true_eq, beq_iff_eq, List.isPrefixOf_iff_prefix, List.prefix_iff_eq_take]
  simp only [Str.length, List.drop_zero, Array.length_toList]
  constructor
  · rintro ⟨_, h⟩; exact h.symm
  · intro h
    refine ⟨?_, h.symm⟩
    have := congrArg List.length h
    simp only [List.length_take, Array.length_toList] at this
    lia
theorem ends_eq (x y : Str) : Txt.endswith x y = ends x.cps.toList y.cps.toList := by
  unfold Txt.endswith ends
  rw [subAt_iff, Bool.eq_iff_iff, Bool.and_eq_true, decide_eq_true_eq, beq_iff_eq, List.isSuffixOf_iff_suffix, List.suffix_iff_eq_drop]
  simp only [Str.length, Array.length_toList]
  constructor
  · rintro ⟨h1, h⟩
    rw [List.take_of_length_le (by simp; lia)] at h
    exact h.symm
  · intro h
    have := congrArg List.length h
    simp only [List.length_drop, Array.length_toList] at this
    refine ⟨by lia, ?_⟩
    rw [List.take_of_length_le (by simp; lia)]
    exact h.symm
theorem slice_from (x : Str) (n : Nat) : (Txt.slice x (some (n : Int)) none).cps.toList = x.cps.toList.drop n := by
  have hx : x.cps.toList.length = x.length := by simp [Str.length]
  by_cases h : n ≤ x.length
  · rw [slice_from_eq (b := x.length) (by lia) (by lia) rfl]
    show List.take _ (List.drop (n : Int).toNat _) = _
    rw [Int.toNat_natCast, List.take_of_length_le]
    rw [List.length_drop, hx]; lia
  · have e : Txt.slice x (some (n : Int)) none = Txt.slice x (some (x.length : Int)) none := by
      unfold Txt.slice
      rw [indices_beyond (n := x.length) (i := n) (by lia)]
    rw [e, slice_from_eq (b := x.length) (by lia) (by lia) rfl]
    show List.take _ (List.drop (x.length : Int).toNat _) = _
    rw [Int.toNat_natCast, List.drop_eq_nil_of_le (by lia), List.drop_eq_nil_of_le (by lia)]
    simp
theorem str_app (x y : Str) : (x ++ y).cps.toList = x.cps.toList ++ y.cps.toList := by
  show (x.cps ++ y.cps).toList = _
  exact Array.toList_append
theorem q63 : (Str.ofString "?").cps.toList = [63] := by decide
end
section
def pickT {α : Type} (l : List α) (lo hi : Option Int) : List α := (l.drop (kms_lo lo l.length)).take (kms_hi hi l.length - kms_lo lo l.length)
theorem last2 {α β : Type} (f : α → β) (d : β) (a b c : α) (r : List α) {x : α} (h : pyAt (a :: b :: c :: r) (-2) = some x) : ((f b :: f c :: r.map f).dropLast.getLastD d) = f x := by
  unfold pyAt at h
  rw [if_pos (by decide)] at h
  simp only [List.length_cons] at h
  rw [show ((-2 : Int) + ((r.length + 1 + 1 + 1 : Nat) : Int)).toNat = r.length + 1 by lia] at h
  rw [List.getElem?_cons_succ] at h
  rw [show f b :: f c :: r.map f = (b :: c :: r).map f from rfl, ← List.map_dropLast, List.getLastD_eq_getLast?, List.getLast?_map, List.getLast?_eq_getElem?, List.length_dropLast, List.getElem?_dropLast, if_pos (by simp), show (b :: c :: r).length - 1 - 1 = r.length by simp, h]
  rfl
theorem at1 {α : Type} (a b c : α) (r : List α) {x : α} (h : (c :: r).getLast? = some x) : pyAt (a :: b :: c :: r) (-1) = some x := by
  unfold pyAt
  rw [if_pos (by decide), ← h, List.getLast?_eq_getElem?]
  simp only [List.length_cons]
  rw [show ((-1 : Int) + ((r.length + 1 + 1 + 1 : Nat) : Int)).toNat = r.length + 1 + 1 by lia]
  simp
theorem last1 {α β : Type} (f : α → β) (c : α) (r : List α) {x : α} (h : (c :: r).getLast? = some x) : (f c :: r.map f).getLast (by simp) = f x := by
  have e : (f c :: r.map f).getLast? = some (f x) := by
    rw [show f c :: r.map f = (c :: r).map f from rfl, List.getLast?_map, h]; rfl
  rw [List.getLast?_eq_some_getLast (by simp)] at e
  exact Option.some.inj e
theorem dl2 {α : Type} (l : List α) : l.dropLast.dropLast = l.take (l.length - 2) := by
  rw [List.dropLast_eq_take, List.length_dropLast, List.dropLast_eq_take, List.take_take]
  exact congrArg (List.take · l) ((Nat.min_eq_left (Nat.sub_le _ _)).trans (Nat.sub_sub _ 1 1))
theorem pick_str (ps : List (Str × Tok)) (lo hi : Option Int) : kms_pick (strValues ps).toArray.toList lo hi = strValues (pickT ps lo hi) := by
  simp [kms_pick, pickT, strValues, List.map_take, List.map_drop]
section
variable {prog : Program} {w : World} {A : Around} {E : Value → Shared → Prop} {s : Shared} {h₀ : Heap} {L l : Addr} {m : Str → Option Value} {news : List (Addr × Obj)} {value slice : Expr} {ps zs : List (Str × Tok)} {vl vu : Value} {lo hi : Option Int} {Q : Value → Shared → Prop}
theorem sliceSt (F : Fr h₀ L s.heap m) (N : News h₀ L s.heap news) (hl : s.heap.IsList l (strValues ps).toArray) (pl : IsPart vl lo) (pu : IsPart vu hi) (e : pickT ps lo hi = zs)
    (h : ∀ D h', Fr h₀ L h' m → News h₀ L h' ((D, listOf (strValues zs).toArray 0) :: news) → (∀ p ∈ news, p.1 < D) → Q (.ref D) { s with heap := h' })
    (hs : subscripted slice false (.ref l) (.ref s.heap.objs.size) = operate [.ref s.heap.objs.size, .ref l] (getItem (.ref l) (.ref s.heap.objs.size))) (ht : ∀ r, letTemporaryGo value (.ref l) r = pure ()) (hz : ps.length ≤ 1000000) :
    wpAny (model prog w) A (subscriptTail value slice (.ref l) (.ref s.heap.objs.size)) Q E { s with heap := s.heap.push { cls := .type "slice", data := .fields #[vl, vu, .none] } } :=
  kms_slice_lit F N hl pl pu (by rw [pick_str, e]) h hs ht (by rw [PySem.sizeLine_eq]; simp only [List.size_toArray, len_strValues]; lia)
end
end
section
theorem enterC {prog : Program} {w : World} {K : Frag} {p : Program} {loose : List Str} {mean : ExcName → Option Value} {mg mb : Str → Option Value}
    {A : Around} {s : Shared} {Q E : Value → Shared → Prop} {f : Addr} {vs : List Value} {kw : List (Str × Value)}
    {name qual : Str} {params : Arguments} {body : List Stmt} {scope : Scope} {dV kV doc pm cdv ct oc : Value} {an od : Option Addr} {osl : Array (Option Value)} (binds : List (Str × Value))
    (X : K.In s.heap) (T : Top p loose mean mg mb s.heap) (hroom : A.depth < recursionLimit)
    (ho : K.lookup f = some ⟨oc, od, .func (fnOf name qual params body scope dV kV doc pm an cdv ct), osl⟩) (hcd : codeIn K cdv qual = true)
    (hbind : BindsTo s (fnOf name qual params body scope dV kV doc pm an cdv ct) ⟨vs, kw⟩ binds) (hkind : (binds.all fun y => scope.names.lookup y.1 == some .local || scope.names.lookup y.1 == some .cell) = true)
    (hnd : ((cellsFrom 0 scope.names []).map (·.1)).Nodup)
    (h : ∀ L h₁ tk cells, Fr s.heap L h₁ (bindL (envOfC qual scope L f cdv).kindOf binds fun _ => none) → News s.heap L h₁ cells →
      CellsAre (bindC (envOfC qual scope L f cdv).kindOf binds fun _ => none) (cellsFrom (L + 1) scope.names []) cells →
      wpAny (model prog w) (A.deeper (envOfC qual scope L f cdv)) (execs body (envOfC qual scope L f cdv))
        (fun fl s' => Q (match fl with | .ret v => v | _ => .none) s') (fun _ _ => False)
        { s with heap := h₁, toks := tk })
    (hco : scope.isCoroutine = false) (hgen : scope.isGenerator = false) (hk : scope.kind = .function) : wpAny (model prog w) A (call (.ref f) vs kw) Q E s := by
  refine wpAny_call ?_
  refine codeAny_call_function hroom (X _ _ ho) rfl hco hgen rfl (codeRec_of X hcd) (hbind _ _ _ _ ?_)
  refine wpAny_newFunctionEnv_cells hk (kindsX hkind _) fun env' he s' x => ?_
  subst he
  refine ⟨T.nolimit.keeps x.toInCall.keep, codeAny_func ?_⟩
  obtain ⟨h₁, tk, rfl, _⟩ := x.done
  obtain ⟨cells, NC, Y⟩ := Cl.news (h₀ := s.heap) (Nat.le_refl _) fun n c hm => ⟨x.cell n c (lookup_of_mem_nodup (cellsFrom_names scope.names 0 (s.heap.objs.size + 1) [] [] rfl ▸ hnd) hm), x.above n c hm⟩
  exact wpAny_mono (h s.heap.objs.size h₁ tk cells ⟨x.toInCall.ns, x.toInCall.keep, Nat.le_refl _⟩ NC Y) (fun fl s' hl => hl) fun _ _ y => y.elim
theorem pow_small8 {b : Int} {n : Nat} (h : b = 5 ∨ b = 8) (hn : n < 5) : (b ^ n).natAbs < 1073741824 ∧ b ^ n ≠ 0 := by
  revert n
  rcases h with rfl | rfl <;> decide
theorem pow_small2 {n : Nat} (hn : n < 12) : ((2 : Int) ^ n).natAbs < 1073741824 ∧ (2 : Int) ^ n ≠ 0 := by
  revert n
  decide
theorem deeper_handled {A : Around} {env : Env} (h : A.handled = none) : (A.deeper env).handled = none := h
end
section
def Hide (p : Prop) : Prop := p
section
variable {prog : Program} {w : World} {A : Around} {E : Value → Shared → Prop} {s : Shared} {a b : Int} {t u : Tok} {Q : Value → Shared → Prop}
theorem floordiv_g (hb : 0 < b) (hp : b.natAbs < 1073741824) (h : ∀ v : Int, v = a / b → Q (.int v s.toks) { s with toks := s.toks + 1 }) : wpAny (model prog w) A (binaryOp .FloorDiv (.int a t) (.int b u)) Q E s :=
  floordiv_int (by lia) (h _ (Int.fdiv_eq_ediv_of_nonneg _ (by lia))) (Or.inl (PyProof.noPylong_small hp))
theorem mod_g (hb : 0 < b) (h : ∀ v : Int, v = a % b → 0 ≤ v → v < b → Q (.int v s.toks) { s with toks := s.toks + 1 }) : wpAny (model prog w) A (binaryOp .Mod (.int a t) (.int b u)) Q E s :=
  mod_int' (by lia) (h _ (Int.fmod_eq_emod_of_nonneg _ (by lia)) (by rw [Int.fmod_eq_emod_of_nonneg _ (by lia)]; exact Int.emod_nonneg _ (by lia)) (by rw [Int.fmod_eq_emod_of_nonneg _ (by lia)]; exact Int.emod_lt_of_pos _ hb))
theorem floordiv_h (hb : 0 < b) (hp : b.natAbs < 1073741824) (h : ∀ v : Int, Hide (v = a / b) → Q (.int v s.toks) { s with toks := s.toks + 1 }) : wpAny (model prog w) A (binaryOp .FloorDiv (.int a t) (.int b u)) Q E s :=
  floordiv_g hb hp h
end
theorem itemL2 {prog : Program} {w : World} {A : Around} {s : Shared} {E : Value → Shared → Prop} {value slice : Expr} {l : Addr} {x y : Value} {k : Int} {u : Tok} {Q : Value → Shared → Prop} (hl : s.heap.IsList l #[x, y]) (h0 : 0 ≤ k) (h1 : k < 2)
    (hx : k = 0 → Q x s) (hy : k = 1 → Q y s)
    (hs : subscripted slice false (.ref l) (.int k u) = operate [.ref l, .int k u] (getItem (.ref l) (.int k u))) (hg : ∀ r, letTemporaryGo value (.ref l) r = pure ()) :
    wpAny (model prog w) A (subscriptTail value slice (.ref l) (.int k u)) Q E s := by
  have h : k = 0 ∨ k = 1 := by lia
  rcases h with rfl | rfl
  · exact itemL hl (by decide) (by decide) rfl (hx rfl) hs hg
  · exact itemL hl (by decide) (by decide) rfl (hy rfl) hs hg
theorem pow_pos_i (b : Int) (hb : 0 < b) (n : Nat) : 0 < b ^ n := Int.pow_pos hb
end
section
section
variable {prog : Program} {w : World} {A : Around} {E : Value → Shared → Prop} {s : Shared}
theorem nextOf_tup {it l : Addr} {i : Nat} {items : Array Value} {x : Value} {Q : Value → Shared → Prop} (hit : s.heap.IsTupleIter it l i)
    (hl : s.heap.IsTuple l items) (hx : items[i]? = some x)
    (hQ : ∀ h', h'.IsTupleIter it l (i + 1) → Heap.SameBut it s.heap h' → Q x { s with heap := h' }) :
    wpAny (model prog w) A (Builtin.SmallTypes.nextOf (.ref it)) Q E s := by
  obtain ⟨o, ho, hc, hd⟩ := id hit
  obtain ⟨ol, hol, _, nl, hdl⟩ := hl
  unfold Builtin.SmallTypes.nextOf
  refine wpAny_bind (wpAny_callSpecial?_slot (name := Str.ofString "__next__") hit.typeIs F.slot_tuple_iterator_next
    (wpAny_call_entry F.slot_tuple_iterator_next hit.typeIs F.entry_tuple_iterator_next ?_ (F.args_tuple_iterator_next_1 _)))
  show wpAny _ _ (field (.ref it) 0 >>= _) _ _ s
  refine wpAny_bind (wpAny_field ho hd (x := .ref l) rfl ?_)
  show wpAny _ _ (if (Value.ref l == Value.none) = true then _ else _) _ _ s
  rw [if_neg (show ¬ ((Value.ref l == Value.none) = true) from Bool.false_ne_true)]
  show wpAny _ _ (field (.ref it) 1 >>= _) _ _ s
  refine wpAny_bind (wpAny_field ho hd (x := .int i 0) rfl ?_)
  show wpAny _ _ (seqItems? (.ref l) >>= _) _ _ s
  refine wpAny_bind (wpAny_seqItems hol hdl ?_)
  simp only [Int.toNat_natCast, hx]
  refine wpAny_bind (wpAny_setField ho hd (by simp) (wpAny_pure ⟨x, rfl, wpAny_pure (hQ _ ?_ (Heap.SameBut.update ..))⟩))
  exact ⟨_, Heap.get?_update_self _ ho (Obj.isFreed_of_fields (Obj.data_mapFields hd _)), (Obj.cls_mapFields ..).trans hc, by
    rw [Obj.data_mapFields hd]; simp [rawInt]⟩
theorem nextOf_tup_end {it l : Addr} {i : Nat} {items : Array Value} {Q : Value → Shared → Prop} (hh : A.handled = none)
    (hit : s.heap.IsTupleIter it l i) (hl : s.heap.IsTuple l items) (hx : items[i]? = none)
    (hE : ∀ h' e, Heap.ExtBut it s.heap h' → (∃ o, h'.get? e = some o ∧ o.cls = .type "StopIteration") → E (.ref e) { s with heap := h' }) :
    wpAny (model prog w) A (Builtin.SmallTypes.nextOf (.ref it)) Q E s := by
  obtain ⟨o, ho, hc, hd⟩ := id hit
  obtain ⟨ol, hol, _, nl, hdl⟩ := hl
  unfold Builtin.SmallTypes.nextOf
  refine wpAny_bind (wpAny_callSpecial?_slot (name := Str.ofString "__next__") hit.typeIs F.slot_tuple_iterator_next
    (wpAny_call_entry F.slot_tuple_iterator_next hit.typeIs F.entry_tuple_iterator_next ?_ (F.args_tuple_iterator_next_1 _)))
  show wpAny _ _ (field (.ref it) 0 >>= _) _ _ s
  refine wpAny_bind (wpAny_field ho hd (x := .ref l) rfl ?_)
  show wpAny _ _ (if (Value.ref l == Value.none) = true then _ else _) _ _ s
  rw [if_neg (show ¬ ((Value.ref l == Value.none) = true) from Bool.false_ne_true)]
  show wpAny _ _ (field (.ref it) 1 >>= _) _ _ s
  refine wpAny_bind (wpAny_field ho hd (x := .int i 0) rfl ?_)
  show wpAny _ _ (seqItems? (.ref l) >>= _) _ _ s
  refine wpAny_bind (wpAny_seqItems hol hdl ?_)
  simp only [Int.toNat_natCast, hx]
  refine wpAny_bind (wpAny_rule (wpAny_bind (wpAny_setField ho hd (by simp) ?_)))
  show wpAny _ _ (newExc (.type "StopIteration") [] >>= _) _ _ _
  refine wpAny_bind ?_
  simp only [newExc, newTuple]
  refine wpAny_bind (wpAny_newObj_type ?_ (by size_fits))
  refine wpAny_bind (m := firstArgMember _ _) (wpAny_of_eq (a := Value.none) (by first | rfl | (simp only [firstArgMember]; rfl)) ?_)
  refine wpAny_newObj_type ?_ (by size_fits)
  simp only [raiseNew]
  refine wpAny_bind (wpAny_handled ?_)
  first | rw [show A.in1.handled = none from hh] | rw [hh]
  refine wpAny_bind (wpAny_pure (wpAny_throw ?_))
  exact hE _ _ (((Heap.SameBut.update ..).extBut.push _).push _) ⟨_, Heap.get?_push_size _ rfl, rfl⟩
theorem enumT_next_item {e it l : Addr} {i : Nat} {items : Array Value} {x old : Value} {Q : Value → Shared → Prop}
    (he : IsEnum s.heap e it i old) (hit : s.heap.IsTupleIter it l i) (hl : s.heap.IsTuple l items) (hx : items[i]? = some x) (hne : e ≠ it)
    (hQ : ∀ h', IsEnumOut h' e it ((i : Int) + 1) x s.heap.objs.size → h'.IsTupleIter it l (i + 1) →
      h'.get? s.heap.objs.size = some { cls := .type "tuple", data := .seq #[.int i s.toks, x] } → h'.objs.size = s.heap.objs.size + 1 →
      (∀ b o, b ≠ e → b ≠ it → s.heap.get? b = some o → h'.get? b = some o) → Q (.ref s.heap.objs.size) { s with heap := h', toks := s.toks + 1 }) :
    wpAny (model prog w) A (Builtin.«enumerate.__next__» ⟨[.ref e], []⟩) (fun fin s' => ∃ v, fin = .done (.ret v) ∧ Q v s') E s := by
  obtain ⟨hp, g, d, tk, os⟩ := s
  show wpAny _ _ (field (.ref e) 2 >>= _) _ _ _
  refine wpAny_bind (wpAny_field he rfl (x := .ref it) rfl ?_)
  refine wpAny_bind (nextOf_tup hit hl hx fun h₁ hit₁ hs₁ => ?_)
  replace hs₁ : Heap.SameBut it hp h₁ := hs₁
  have he₁ : IsEnum h₁ e it i old := (hs₁.2 e hne).trans he
  show wpAny _ _ (field (.ref e) 3 >>= _) _ _ ⟨h₁, g, d, tk, os⟩
  refine wpAny_bind (wpAny_field he₁ rfl (x := rawInt i) rfl ?_)
  show wpAny _ _ (field (.ref e) 4 >>= _) _ _ ⟨h₁, g, d, tk, os⟩
  refine wpAny_bind (wpAny_field he₁ rfl (x := .none) rfl ?_)
  show wpAny _ _ (mkInt i >>= _) _ _ ⟨h₁, g, d, tk, os⟩
  refine wpAny_bind (wpAny_mkInt ?_)
  show wpAny _ _ (setField (.ref e) 3 (rawInt ((i : Int) + 1)) >>= _) _ _ ⟨h₁, g, d, tk + 1, os⟩
  refine wpAny_bind (wpAny_setField_rec he₁ (by simp) fun h₂ he₂ hs₂ => ?_)
  replace hs₂ : Heap.SameBut e h₁ h₂ := hs₂
  replace he₂ : IsEnum h₂ e it ((i : Int) + 1) old := he₂
  show wpAny _ _ (setField (.ref e) 4 .none >>= _) _ _ ⟨h₂, g, d, tk + 1, os⟩
  refine wpAny_bind (wpAny_setField_rec he₂ (by simp) fun h₃ he₃ hs₃ => ?_)
  replace hs₃ : Heap.SameBut e h₂ h₃ := hs₃
  replace he₃ : IsEnum h₃ e it ((i : Int) + 1) old := he₃
  show wpAny _ _ (newTuple [.int i tk, x] >>= _) _ _ ⟨h₃, g, d, tk + 1, os⟩
  refine wpAny_bind (wpAny_newTuple ?_)
  have he₄ : IsEnum (h₃.push { cls := .type "tuple", data := .seq #[.int i tk, x] }) e it ((i : Int) + 1) old := Heap.get?_push_of_some _ he₃
  generalize hh₄ : h₃.push { cls := .type "tuple", data := .seq #[.int i tk, x] } = h₄ at he₄
  have hsz : h₃.objs.size = hp.objs.size := by rw [hs₃.1, hs₂.1, hs₁.1]
  have hel : e < hp.objs.size := Heap.lt_size he
  have ht₄ : h₄.get? hp.objs.size = some { cls := .type "tuple", data := .seq #[.int i tk, x] } := by rw [← hh₄, ← hsz]; exact Heap.get?_push_size _ rfl
  have hz₄ : h₄.objs.size = hp.objs.size + 1 := by rw [← hh₄, Heap.size_push, hsz]
  have hk₄ : ∀ b o, b ≠ e → b ≠ it → hp.get? b = some o → h₄.get? b = some o := fun b o hbe hbi hb => by
    rw [← hh₄]; exact Heap.get?_push_of_some _ (hs₃.extBut b o hbe (hs₂.extBut b o hbe (hs₁.extBut b o hbi hb)))
  have hit₄ : h₄.IsTupleIter it l (i + 1) := by
    rw [← hh₄]; obtain ⟨o, ho, r⟩ := (hit₁.extBut hs₂.extBut (Ne.symm hne)).extBut hs₃.extBut (Ne.symm hne); exact ⟨o, Heap.get?_push_of_some _ ho, r⟩
  show wpAny _ _ (Builtin.SmallTypes.ownedTupleIsFree (.ref e) >>= _) _ _ ⟨h₄, g, d, tk + 1, os⟩
  rw [hsz]
  clear hh₄ he₃ hs₃ he₂ hs₂ he₁ hs₁ hit₁ hsz h₃ h₂ h₁
  refine wpAny_bind ?_
  · unfold Builtin.SmallTypes.ownedTupleIsFree
    refine wpAny_bind (wpAny_field he₄ rfl (x := .none) rfl (wpAny_pure ?_))
    simp only [if_true]
    refine wpAny_bind (wpAny_rule ?_)
    refine wpAny_bind (wpAny_field he₄ rfl (x := old) rfl ?_)
    refine wpAny_bind (wpAny_setField_rec he₄ (by simp) fun h₅ he₅ hs₅ => ?_)
    replace hs₅ : Heap.SameBut e h₄ h₅ := hs₅
    replace he₅ : IsEnum h₅ e it ((i : Int) + 1) x := he₅
    show wpAny _ _ (Builtin.SmallTypes.ownedTupleHandOut (.ref e) (.ref hp.objs.size) >>= _) _ _ ⟨h₅, g, d, tk + 1, os⟩
    refine wpAny_bind ?_
    · unfold Builtin.SmallTypes.ownedTupleHandOut
      refine wpAny_bind (wpAny_setField_rec he₅ (by simp) fun h₆ he₆ hs₆ => ?_)
      replace hs₆ : Heap.SameBut e h₅ h₆ := hs₆
      replace he₆ : IsEnumOut h₆ e it ((i : Int) + 1) x hp.objs.size := he₆
      refine wpAny_setField_rec he₆ (by simp) fun h₇ he₇ hs₇ => ?_
      replace hs₇ : Heap.SameBut e h₆ h₇ := hs₇
      replace he₇ : IsEnumOut h₇ e it ((i : Int) + 1) x hp.objs.size := he₇
      refine wpAny_bind (wpAny_letGo (wpAny_pure ⟨_, rfl, hQ h₇ he₇ ?_ ?_ ?_ ?_⟩))
      · exact ((hit₄.extBut hs₅.extBut (Ne.symm hne)).extBut hs₆.extBut (Ne.symm hne)).extBut hs₇.extBut (Ne.symm hne)
      · exact hs₇.extBut _ _ (Nat.ne_of_gt hel) (hs₆.extBut _ _ (Nat.ne_of_gt hel) (hs₅.extBut _ _ (Nat.ne_of_gt hel) ht₄))
      · rw [hs₇.1, hs₆.1, hs₅.1, hz₄]
      · exact fun b o hbe hbi hb => hs₇.extBut b o hbe (hs₆.extBut b o hbe (hs₅.extBut b o hbe (hk₄ b o hbe hbi hb)))
theorem next_enumT {e it l : Addr} {i : Nat} {items : Array Value} {x old : Value} {Q : Option Value → Shared → Prop}
    (he : IsEnum s.heap e it i old) (hit : s.heap.IsTupleIter it l i) (hl : s.heap.IsTuple l items) (hx : items[i]? = some x) (hne : e ≠ it)
    (hQ : ∀ h', IsEnumOut h' e it ((i : Int) + 1) x s.heap.objs.size → h'.IsTupleIter it l (i + 1) →
      h'.get? s.heap.objs.size = some { cls := .type "tuple", data := .seq #[.int i s.toks, x] } → h'.objs.size = s.heap.objs.size + 1 →
      (∀ b o, b ≠ e → b ≠ it → s.heap.get? b = some o → h'.get? b = some o) → Q (some (.ref s.heap.objs.size)) { s with heap := h', toks := s.toks + 1 }) :
    wpAny (model prog w) A (pyNext (.ref e)) Q E s := by
  have hT : s.TypeIs (.ref e) "enumerate" := ⟨_, he, rfl⟩
  unfold pyNext
  exact wpAny_bind (wpAny_attempt (wpAny_callSpecial?_slot (name := Str.ofString "__next__") hT F.slot_enumerate_next
    (wpAny_call_entry F.slot_enumerate_next hT F.entry_enumerate_next
      (enumT_next_item he hit hl hx hne fun h' a b c d k => wpAny_pure (hQ h' a b c d k)) (F.args_enumerate_next_1 _))))
theorem end_enumT {e it l : Addr} {i : Nat} {items : Array Value} {old : Value} {Q : Option Value → Shared → Prop} (hh : A.handled = none)
    (he : IsEnum s.heap e it i old) (hit : s.heap.IsTupleIter it l i) (hl : s.heap.IsTuple l items) (hx : items[i]? = none)
    (hQ : ∀ h', Heap.ExtBut it s.heap h' → Q none { s with heap := h' }) : wpAny (model prog w) A (pyNext (.ref e)) Q E s := by
  have hT : s.TypeIs (.ref e) "enumerate" := ⟨_, he, rfl⟩
  unfold pyNext
  refine wpAny_bind (wpAny_attempt (wpAny_callSpecial?_slot (name := Str.ofString "__next__") hT F.slot_enumerate_next
    (wpAny_call_entry F.slot_enumerate_next hT F.entry_enumerate_next ?_ (F.args_enumerate_next_1 _))))
  show wpAny _ _ (field (.ref e) 2 >>= _) _ _ _
  refine wpAny_bind (wpAny_field he rfl (x := .ref it) rfl ?_)
  refine wpAny_bind (nextOf_tup_end hh hit hl hx fun h' x he' hx' => ?_)
  obtain ⟨o, ho, hc⟩ := hx'
  refine wpAny_bind (wpAny_isInstance (T := "StopIteration") (b := true) ⟨o, ho, hc⟩ isSubtype_stop ?_)
  exact wpAny_pure (hQ _ he')
open AutoSeq1 (wpAny_loadPart') in
theorem meets_enumT (l : Addr) (items : Array Value) (n : Nat) (dct : Option Addr) (sl : Array (Option Value)) :
    Meets (Builtin.«enumerate.__new__» ⟨[.type "enumerate", .ref l], []⟩) (fun _ R s => s.heap.get? l = some { cls := .type "tuple", dict := dct, data := .seq items n, slots := sl } ∧
      R (.ok (.ret (.ref (s.heap.push { cls := .type "tuple_iterator", data := .fields #[.ref l, .int 0 0] }).objs.size)))
        { s with heap := (s.heap.push { cls := .type "tuple_iterator", data := .fields #[.ref l, .int 0 0] }).push { cls := .type "enumerate", data := .fields #[.none, .bool false, .ref s.heap.objs.size, rawInt 0, .none, .none] } }) :=
  .of_wp fun prog w A R s h => by
    obtain ⟨hp, g, d, tk, os⟩ := s; obtain ⟨hl, h⟩ := h
    have hsub := sub_enumerate
    have hL : Heap.IsTuple (Shared.heap ⟨hp, g, d, tk, os⟩) l items := ⟨_, hl, rfl, n, rfl⟩
    wp_walk using wpAny_loadPart' hl
    refine wpAny_stack_any fun st => wpAny_pure ?_
    split
    · rename_i c _ _ _ _ _
      cases (c == Value.type "enumerate")
      · wp_walk using wpAny_loadPart' hl, wpAny_pyIter_tuple hL
        exact ⟨_, rfl, h⟩
      · wp_walk using wpAny_loadPart' hl, wpAny_pyIter_tuple hL
        exact ⟨_, rfl, h⟩
    · wp_walk using wpAny_loadPart' hl, wpAny_pyIter_tuple hL
      exact ⟨_, rfl, h⟩
theorem call_enumT {l : Addr} {items : Array Value} {Q : Value → Shared → Prop} (hL : s.heap.IsTuple l items)
    (h : ∀ h', IsEnum h' (s.heap.objs.size + 1) s.heap.objs.size 0 .none → h'.IsTupleIter s.heap.objs.size l 0 → h'.objs.size = s.heap.objs.size + 2 →
      (∀ b o, s.heap.get? b = some o → h'.get? b = some o) → Q (.ref (s.heap.objs.size + 1)) { s with heap := h' }) :
    wpAny (model prog w) A (call (.type "enumerate") [.ref l]) Q E s := by
  obtain ⟨⟨c, dct, dt, sl⟩, hl, hc, n, hd⟩ := hL
  replace hc : c = .type "tuple" := hc
  replace hd : dt = .seq items n := hd
  subst hc hd
  refine callType_new F.called_enumerate (by decide) (F.typeCall_enumerate_1 _) (F.newCall_enumerate_1 _) (fun obj => F.args_object_init_2 obj _) F.entry_enumerate_new
    (meets_enumT l items n dct sl) ⟨hl, ?_⟩
  have hz : (s.heap.push { cls := .type "tuple_iterator", data := .fields #[.ref l, .int 0 0] }).objs.size = s.heap.objs.size + 1 := Heap.size_push ..
  show _ ∧ _
  rw [hz]
  have he : IsEnum ((s.heap.push { cls := .type "tuple_iterator", data := .fields #[.ref l, .int 0 0] }).push
      { cls := .type "enumerate", data := .fields #[.none, .bool false, .ref s.heap.objs.size, rawInt 0, .none, .none] }) (s.heap.objs.size + 1) s.heap.objs.size 0 .none := by
    have := Heap.get?_push_size (s.heap.push { cls := .type "tuple_iterator", data := .fields #[.ref l, .int 0 0] })
      (o := { cls := .type "enumerate", data := .fields #[.none, .bool false, .ref s.heap.objs.size, rawInt 0, .none, .none] }) rfl
    rw [hz] at this; exact this
  refine ⟨⟨_, he, rfl⟩, h _ he ⟨_, Heap.get?_push_of_some _ (Heap.get?_push_size _ rfl), rfl, rfl⟩ (by rw [Heap.size_push, hz]) fun b o x => Heap.get?_push_of_some _ (Heap.get?_push_of_some _ x)⟩
end
end
section
section
variable {prog : Program} {w : World} {A : Around} {s : Shared} {env : Env} {h₀ : Heap} {Q : Flow → Shared → Prop}
theorem go_tupleiter {E : Value → Shared → Prop} {elts : List Expr} {x1} {pos : Pos} {I l T : Addr} {i : Nat} {Q : Unit → Shared → Prop} (hit : s.heap.IsTupleIter I l i) (hQ : Q () s) :
    wpAny (model prog w) A (letOwnedTupleGo (.Tuple elts x1 pos) (.ref I) (.ref T)) Q E s := by
  obtain ⟨o, ho, hc, hd⟩ := hit
  unfold letOwnedTupleGo
  refine wpAny_bind (wpAny_load ho ?_)
  rw [hc, hd]
  show wpAny _ A (if (["enumerate", "zip", "dict_itemiterator", "dict_reverseitemiterator", "odict_iterator", "itertools.zip_longest", "itertools.pairwise"].contains "tuple_iterator" &&
      (#[.ref l, .int i 0] : Array Value)[0]? == some (rawInt T)) = true then _ else _) Q E s
  rw [if_neg (by
    intro h
    rw [show (["enumerate", "zip", "dict_itemiterator", "dict_reverseitemiterator", "odict_iterator", "itertools.zip_longest", "itertools.pairwise"].contains "tuple_iterator") = false from by decide, Bool.false_and] at h
    cases h)]
  exact wpAny_pure hQ
/-- a for with a tuple of names over a tuple -/
theorem iter_tupT {elts : List Expr} {kt : Nat} {pt : Pos} {body orelse : List Stmt} {l : Addr} {items : Array Value} {m₀ : Str → Option Value} {news : List (Addr × Obj)}
    (J : Nat → (Str → Option Value) → List (Addr × Obj) → Prop) (hh : A.handled = none) (hl₀ : IsTup h₀ l items)
    (F : Fr h₀ env.locals s.heap m₀) (N : News h₀ env.locals s.heap news) (hj : J 0 m₀ news)
    (turn : ∀ I i v m₁ news₁ h tk oI, items[i]? = some v → J i m₁ news₁ → (∀ p ∈ news₁, p.1 ≠ I) → Fr h₀ env.locals h m₁ → News h₀ env.locals h ((I, oI) :: news₁) →
      wpAny (model prog w) A (assign (.Tuple elts kt pt) env v) (fun _ s₃ => wpAny (model prog w) A (execs body env) (EndT h₀ env.locals I oI (J (i + 1)) Q { s with heap := h, toks := tk }) NoE s₃) NoE { s with heap := h, toks := tk })
    (done : ∀ m₁ news₁ h tk, J items.size m₁ news₁ → Fr h₀ env.locals h m₁ → News h₀ env.locals h news₁ → wpAny (model prog w) A (execs orelse env) Q NoE { s with heap := h, toks := tk }) :
    wpAny (model prog w) A (pyIter (.ref l)) (fun it s₂ => codeAny (model prog w) A (.forLoop (.Tuple elts kt pt) it body orelse env) (fun r s' => match r with | .ok f => Q f s' | .error e => cameBackBy (model prog w) A env NoE e s') s₂) NoE s := by
  have hl : s.heap.IsTuple l items := IsTup.keeps hl₀ F.keep
  have hlt : l < s.heap.objs.size := by obtain ⟨_, e, _⟩ := hl; exact Heap.lt_size e
  refine wpAny_pyIter_tuple hl ?_
  have up : ∀ b o, s.heap.get? b = some o → (s.heap.push { cls := .type "tuple_iterator", data := .fields #[.ref l, .int 0 0] }).get? b = some o := fun b o e => Heap.get?_push_of_some _ e
  refine for_W (s := { s with heap := s.heap.push _ }) J (Walks.tuple hh s.heap.objs.size l (Nat.ne_of_lt hlt) items) (fun i h st => by obtain ⟨o, e, _⟩ := st.1; exact ⟨o, e⟩)
    (F.keeps up) (N.grown up) (Nat.ne_of_lt F.ns.lt) (next_is_new F) (fun p hp => Nat.ne_of_lt (Heap.lt_size (N p hp).1)) ⟨⟨_, Heap.get?_push_size _ rfl, rfl, rfl⟩, IsTup.keeps hl up⟩ hj
    (fun i h h' o m' news' st e e' j F' N' => ⟨by obtain ⟨o', q, r⟩ := st.1; rw [e] at q; cases q; exact ⟨o, e', r⟩, IsTup.keeps hl₀ F'.keep⟩)
    (fun i v m₁ news₁ h tk oI _ hP j off F' N' => ?_) (fun m₁ news₁ h tk j F' N' => done m₁ news₁ h tk j F' N') (fun i s' v Q' st q => by
      cases v with
      | ref T => exact go_tupleiter st.1 q
      | _ => exact wpAny_pure q)
  exact wpAny_mono (turn _ i v m₁ news₁ h tk oI hP j off F' N') (fun _ _ x => wpAny_mono x (fun f _ y => by cases f <;> exact y) fun _ _ e => e) fun _ _ e => e
def EndE (h₀ : Heap) (L e it : Addr) (oe oi : Obj) (J : (Str → Option Value) → List (Addr × Obj) → Prop) (Q : Flow → Shared → Prop) (s₁ : Shared) (f : Flow) (s₂ : Shared) : Prop :=
  match f with
  | .ret v => Q (.ret v) s₂
  | .brk => Q .next s₂
  | _ => ∃ h' tk m' news', s₂ = { s₁ with heap := h', toks := tk } ∧ Fr h₀ L h' m' ∧ News h₀ L h' ((e, oe) :: (it, oi) :: news') ∧ (∀ p ∈ news', p.1 ≠ e ∧ p.1 ≠ it) ∧ J m' news'
/-- a for with a tuple of names over enumerate of a tuple -/
theorem mkE {h₀ : Heap} {L e it : Addr} {oe oi : Obj} {J : (Str → Option Value) → List (Addr × Obj) → Prop} {Q : Flow → Shared → Prop} {s₁ : Shared} {h' : Heap} {tk : Nat} {m' : Str → Option Value} {news₂ : List (Addr × Obj)}
    (F : Fr h₀ L h' m') (N : News h₀ L h' ((e, oe) :: (it, oi) :: news₂)) (off : ∀ p ∈ news₂, p.1 ≠ e ∧ p.1 ≠ it) (j : J m' news₂) : EndE h₀ L e it oe oi J Q s₁ .next { s₁ with heap := h', toks := tk } :=
  ⟨h', tk, m', news₂, rfl, F, N, off, j⟩
theorem iter_enumT {elts : List Expr} {kt : Nat} {pt : Pos} {body orelse : List Stmt} {e it l : Addr} {items : Array Value} {m₀ : Str → Option Value} {news : List (Addr × Obj)}
    (J : Nat → (Str → Option Value) → List (Addr × Obj) → Prop) (hh : A.handled = none) (hl₀ : IsTup h₀ l items)
    (he : IsEnum s.heap e it 0 .none) (hit : s.heap.IsTupleIter it l 0) (hei : e ≠ it) (heL : env.locals ≠ e) (hiL : env.locals ≠ it) (he0 : h₀.get? e = none) (hi0 : h₀.get? it = none)
    (F : Fr h₀ env.locals s.heap m₀) (N : News h₀ env.locals s.heap news) (off : ∀ p ∈ news, p.1 ≠ e ∧ p.1 ≠ it) (hj : J 0 m₀ news)
    (turn : ∀ i v m₁ news₁ h tk t T oe oi, items[i]? = some v → J i m₁ news₁ → (∀ p ∈ news₁, p.1 ≠ e ∧ p.1 ≠ it) → Fr h₀ env.locals h m₁ → News h₀ env.locals h ((e, oe) :: (it, oi) :: news₁) → IsTup h T [Value.int (i : Int) t, v].toArray →
      wpAny (model prog w) A (assign (.Tuple elts kt pt) env (.ref T)) (fun _ s₃ => wpAny (model prog w) A (execs body env) (EndE h₀ env.locals e it oe oi (J (i + 1)) Q { s with heap := h, toks := tk }) NoE s₃) NoE { s with heap := h, toks := tk })
    (done : ∀ m₁ news₁ h tk, J items.size m₁ news₁ → Fr h₀ env.locals h m₁ → News h₀ env.locals h news₁ → wpAny (model prog w) A (execs orelse env) Q NoE { s with heap := h, toks := tk }) :
    wpAny (model prog w) A (pyIter (.ref e)) (fun it' s₂ => codeAny (model prog w) A (.forLoop (.Tuple elts kt pt) it' body orelse env) (fun r s' => match r with | .ok f => Q f s' | .error e => cameBackBy (model prog w) A env NoE e s') s₂) NoE s := by
  refine wpAny_pyIter_enum he ?_
  refine codeAny_forLoop_any (R := fun r s' => match r with | .ok f => Q f s' | .error e => cameBackBy (model prog w) A env NoE e s')
    (fun k s' => ∃ h tk i m₁ news₁ old, s' = { s with heap := h, toks := tk } ∧ i ≤ items.size ∧ k = items.size - i ∧ IsEnum h e it ((i : Nat) : Int) old ∧ h.IsTupleIter it l i ∧ Fr h₀ env.locals h m₁ ∧ News h₀ env.locals h news₁ ∧ (∀ p ∈ news₁, p.1 ≠ e ∧ p.1 ≠ it) ∧ J i m₁ news₁)
    ?_ items.size ⟨s.heap, s.toks, 0, m₀, news, .none, rfl, Nat.zero_le _, rfl, he, hit, F, N, off, hj⟩
  rintro k s' ⟨h, tk, i, m₁, news₁, old, rfl, hi, rfl, he₁, hit₁, F₁, N₁, off₁, J₁⟩
  have hl : h.IsTuple l items := IsTup.keeps hl₀ F₁.keep
  by_cases hlt : i < items.size
  · have hx : items[i]? = some items[i] := Array.getElem?_eq_getElem hlt
    refine next_enumT he₁ hit₁ hl hx hei fun h₂ heo hit₂ hT hsz hk₂ => ?_
    refine wpAny_letOwnedTupleGo_enum heo fun h₃ he₃ hs₃ => ?_
    replace hs₃ : Heap.SameBut e h₂ h₃ := hs₃
    have helt : e < h.objs.size := Heap.lt_size he₁
    have hT₃ : h₃.get? h.objs.size = some _ := (hs₃.2 _ (Nat.ne_of_gt helt)).trans hT
    have keep3 : ∀ b o, b ≠ e → b ≠ it → h.get? b = some o → h₃.get? b = some o := fun b o h1 h2 h3 => (hs₃.2 b h1).trans (hk₂ b o h1 h2 h3)
    have F₃ : Fr h₀ env.locals h₃ m₁ := ⟨F₁.ns.at' fun o q => keep3 _ o heL hiL q, fun b o q => keep3 b o (fun z => by rw [z, he0] at q; cases q) (fun z => by rw [z, hi0] at q; cases q) (F₁.keep b o q), F₁.above⟩
    have N₃ : News h₀ env.locals h₃ news₁ := fun p hp => ⟨keep3 _ _ (off₁ p hp).1 (off₁ p hp).2 (N₁ p hp).1, (N₁ p hp).2⟩
    obtain ⟨oi, hoi, hoi2⟩ := hit₂
    have hoi₃ : h₃.get? it = some oi := (hs₃.2 _ (Ne.symm hei)).trans hoi
    obtain ⟨oe, hoe₃, hoe⟩ : ∃ oe, h₃.get? e = some oe ∧ ∀ h' : Heap, h'.get? e = some oe → IsEnum h' e it (((i + 1 : Nat)) : Int) items[i] := ⟨_, he₃, fun h' q => q⟩
    have N₄ : News h₀ env.locals h₃ ((e, oe) :: (it, oi) :: news₁) := fun p hp => by
      rcases List.mem_cons.mp hp with rfl | hp
      · exact ⟨hoe₃, Ne.symm heL, he0⟩
      · rcases List.mem_cons.mp hp with rfl | hp
        · exact ⟨hoi₃, Ne.symm hiL, hi0⟩
        · exact N₃ p hp
    refine wpAny_mono (turn i items[i] m₁ news₁ h₃ _ tk h.objs.size oe oi hx J₁ off₁ F₃ N₄ ⟨_, hT₃, rfl, _, rfl⟩) (fun _ s₄ h₄ => ?_) (fun _ _ x => x.elim)
    refine wpAny_mono h₄ (fun f s₅ h₅ => ?_) (fun _ _ x => x.elim)
    have go : (∃ h' tk m' news', s₅ = { s with heap := h', toks := tk } ∧ Fr h₀ env.locals h' m' ∧ News h₀ env.locals h' ((e, oe) :: (it, oi) :: news') ∧ (∀ p ∈ news', p.1 ≠ e ∧ p.1 ≠ it) ∧ J (i + 1) m' news') →
        ∃ m, m < items.size - i ∧ ∃ h tk i m₁ news₁ old, s₅ = { s with heap := h, toks := tk } ∧ i ≤ items.size ∧ m = items.size - i ∧ IsEnum h e it ((i : Nat) : Int) old ∧ h.IsTupleIter it l i ∧ Fr h₀ env.locals h m₁ ∧ News h₀ env.locals h news₁ ∧ (∀ p ∈ news₁, p.1 ≠ e ∧ p.1 ≠ it) ∧ J i m₁ news₁ := by
      rintro ⟨h', tk', m', news', rfl, F', N', off', J'⟩
      refine ⟨items.size - (i + 1), by omega, h', tk', i + 1, m', news', _, rfl, hlt, rfl, hoe _ (N' _ (.head _)).1, ⟨oi, (N' _ (.tail _ (.head _))).1, hoi2⟩, F', fun p hp => N' p (.tail _ (.tail _ hp)), off', J'⟩
    cases f with
    | ret v => exact h₅
    | brk => exact h₅
    | next => exact go h₅
    | cont => exact go h₅
  · obtain rfl : i = items.size := by omega
    refine end_enumT hh he₁ hit₁ hl (Array.getElem?_eq_none (Nat.le_refl _)) fun h₂ hx => ?_
    have F₂ : Fr h₀ env.locals h₂ m₁ := ⟨F₁.ns.at' fun o q => hx _ o hiL q, fun b o q => hx b o (fun z => by rw [z, hi0] at q; cases q) (F₁.keep b o q), F₁.above⟩
    have N₂ : News h₀ env.locals h₂ news₁ := fun p hp => ⟨hx _ _ (off₁ p hp).2 (N₁ p hp).1, (N₁ p hp).2⟩
    exact wpAny_mono (done m₁ news₁ h₂ _ J₁ F₂ N₂) (fun _ _ x => x) (fun _ _ x => x.elim)
end
end
section
section
variable {prog : Program} {w : World} {A : Around} {s : Shared} {env : Env} {h₀ : Heap} {Q : Flow → Shared → Prop}
theorem iter_listP {target : Expr} {body orelse : List Stmt} {l : Addr} {items : Array Value} {m₀ : Str → Option Value} {news : List (Addr × Obj)}
    (J : Nat → (Str → Option Value) → List (Addr × Obj) → Prop) (hh : A.handled = none)
    (F : Fr h₀ env.locals s.heap m₀) (N : News h₀ env.locals s.heap news) (hj : J 0 m₀ news)
    (src : ∀ i m news h, J i m news → Fr h₀ env.locals h m → News h₀ env.locals h news → h.IsList l items)
    (turn : ∀ I i v m₁ news₁ h tk oI, items[i]? = some v → J i m₁ news₁ → (∀ p ∈ news₁, p.1 ≠ I) → Fr h₀ env.locals h m₁ → News h₀ env.locals h ((I, oI) :: news₁) → ∀ P : Flow → Shared → Prop, (∀ f s₂, EndT h₀ env.locals I oI (J (i + 1)) Q { s with heap := h, toks := tk } f s₂ → P f s₂) →
      wpAny (model prog w) A (assign target env v) (fun _ s₃ => wpAny (model prog w) A (execs body env) P NoE s₃) NoE { s with heap := h, toks := tk })
    (done : ∀ m₁ news₁ h tk, J items.size m₁ news₁ → Fr h₀ env.locals h m₁ → News h₀ env.locals h news₁ → wpAny (model prog w) A (execs orelse env) Q NoE { s with heap := h, toks := tk })
    (ht : ∀ I v, letOwnedTupleGo target (.ref I) v = pure () := by intro _ _; rfl) :
    wpAny (model prog w) A (pyIter (.ref l)) (fun it s₂ => codeAny (model prog w) A (.forLoop target it body orelse env) (fun r s' => match r with | .ok f => Q f s' | .error e => cameBackBy (model prog w) A env NoE e s') s₂) NoE s :=
  iter_list J hh F N hj src (fun I i v m₁ news₁ h tk oI a b c d e => turn I i v m₁ news₁ h tk oI a b c d e _ fun _ _ x => x) done ht
theorem iter_listTP {elts : List Expr} {kt : Nat} {pt : Pos} {body orelse : List Stmt} {l : Addr} {items : Array Value} {m₀ : Str → Option Value} {news : List (Addr × Obj)}
    (J : Nat → (Str → Option Value) → List (Addr × Obj) → Prop) (hh : A.handled = none)
    (F : Fr h₀ env.locals s.heap m₀) (N : News h₀ env.locals s.heap news) (hj : J 0 m₀ news)
    (src : ∀ i m news h, J i m news → Fr h₀ env.locals h m → News h₀ env.locals h news → h.IsList l items)
    (turn : ∀ I i v m₁ news₁ h tk oI, items[i]? = some v → J i m₁ news₁ → (∀ p ∈ news₁, p.1 ≠ I) → Fr h₀ env.locals h m₁ → News h₀ env.locals h ((I, oI) :: news₁) → ∀ P : Flow → Shared → Prop, (∀ f s₂, EndT h₀ env.locals I oI (J (i + 1)) Q { s with heap := h, toks := tk } f s₂ → P f s₂) →
      wpAny (model prog w) A (assign (.Tuple elts kt pt) env v) (fun _ s₃ => wpAny (model prog w) A (execs body env) P NoE s₃) NoE { s with heap := h, toks := tk })
    (done : ∀ m₁ news₁ h tk, J items.size m₁ news₁ → Fr h₀ env.locals h m₁ → News h₀ env.locals h news₁ → wpAny (model prog w) A (execs orelse env) Q NoE { s with heap := h, toks := tk }) :
    wpAny (model prog w) A (pyIter (.ref l)) (fun it s₂ => codeAny (model prog w) A (.forLoop (.Tuple elts kt pt) it body orelse env) (fun r s' => match r with | .ok f => Q f s' | .error e => cameBackBy (model prog w) A env NoE e s') s₂) NoE s :=
  iter_listT J hh F N hj src (fun I i v m₁ news₁ h tk oI a b c d e => turn I i v m₁ news₁ h tk oI a b c d e _ fun _ _ x => x) done
theorem iter_rangeP {target : Expr} {body orelse : List Stmt} {r : Addr} {a b : Int} {t u v : Tok} {n : Nat} {m₀ : Str → Option Value} {news : List (Addr × Obj)}
    (J : Nat → (Str → Option Value) → List (Addr × Obj) → Prop) (hh : A.handled = none) (hr : IsRange s.heap r a b 1 t u v) (hsm : Builtin.Range.small a b 1 = true) (hn : Builtin.Range.rangeSize a b 1 = ((n : Nat) : Int))
    (F : Fr h₀ env.locals s.heap m₀) (N : News h₀ env.locals s.heap news) (hj : J 0 m₀ news)
    (turn : ∀ I i t m₁ news₁ h tk oI, i < n → J i m₁ news₁ → (∀ p ∈ news₁, p.1 ≠ I) → Fr h₀ env.locals h m₁ → News h₀ env.locals h ((I, oI) :: news₁) → ∀ P : Flow → Shared → Prop, (∀ f s₂, EndT h₀ env.locals I oI (J (i + 1)) Q { s with heap := h, toks := tk } f s₂ → P f s₂) →
      wpAny (model prog w) A (assign target env (.int (a + (i : Int)) t)) (fun _ s₃ => wpAny (model prog w) A (execs body env) P NoE s₃) NoE { s with heap := h, toks := tk })
    (done : ∀ m₁ news₁ h tk, J n m₁ news₁ → Fr h₀ env.locals h m₁ → News h₀ env.locals h news₁ → wpAny (model prog w) A (execs orelse env) Q NoE { s with heap := h, toks := tk })
    (ht : ∀ I v, letOwnedTupleGo target (.ref I) v = pure () := by intro _ _; rfl) :
    wpAny (model prog w) A (pyIter (.ref r)) (fun it s₂ => codeAny (model prog w) A (.forLoop target it body orelse env) (fun r s' => match r with | .ok f => Q f s' | .error e => cameBackBy (model prog w) A env NoE e s') s₂) NoE s :=
  iter_range J hh hr hsm hn F N hj (fun I i t m₁ news₁ h tk oI a b c d e => turn I i t m₁ news₁ h tk oI a b c d e _ fun _ _ x => x) done ht
theorem iter_tupTP {elts : List Expr} {kt : Nat} {pt : Pos} {body orelse : List Stmt} {l : Addr} {items : Array Value} {m₀ : Str → Option Value} {news : List (Addr × Obj)}
    (J : Nat → (Str → Option Value) → List (Addr × Obj) → Prop) (hh : A.handled = none) (hl₀ : IsTup h₀ l items)
    (F : Fr h₀ env.locals s.heap m₀) (N : News h₀ env.locals s.heap news) (hj : J 0 m₀ news)
    (turn : ∀ I i v m₁ news₁ h tk oI, items[i]? = some v → J i m₁ news₁ → (∀ p ∈ news₁, p.1 ≠ I) → Fr h₀ env.locals h m₁ → News h₀ env.locals h ((I, oI) :: news₁) → ∀ P : Flow → Shared → Prop, (∀ f s₂, EndT h₀ env.locals I oI (J (i + 1)) Q { s with heap := h, toks := tk } f s₂ → P f s₂) →
      wpAny (model prog w) A (assign (.Tuple elts kt pt) env v) (fun _ s₃ => wpAny (model prog w) A (execs body env) P NoE s₃) NoE { s with heap := h, toks := tk })
    (done : ∀ m₁ news₁ h tk, J items.size m₁ news₁ → Fr h₀ env.locals h m₁ → News h₀ env.locals h news₁ → wpAny (model prog w) A (execs orelse env) Q NoE { s with heap := h, toks := tk }) :
    wpAny (model prog w) A (pyIter (.ref l)) (fun it s₂ => codeAny (model prog w) A (.forLoop (.Tuple elts kt pt) it body orelse env) (fun r s' => match r with | .ok f => Q f s' | .error e => cameBackBy (model prog w) A env NoE e s') s₂) NoE s :=
  iter_tupT J hh hl₀ F N hj (fun I i v m₁ news₁ h tk oI a b c d e => turn I i v m₁ news₁ h tk oI a b c d e _ fun _ _ x => x) done
theorem iter_enumTP {elts : List Expr} {kt : Nat} {pt : Pos} {body orelse : List Stmt} {e it l : Addr} {items : Array Value} {m₀ : Str → Option Value} {news : List (Addr × Obj)}
    (J : Nat → (Str → Option Value) → List (Addr × Obj) → Prop) (hh : A.handled = none) (hl₀ : IsTup h₀ l items)
    (he : IsEnum s.heap e it 0 .none) (hit : s.heap.IsTupleIter it l 0) (hei : e ≠ it) (heL : env.locals ≠ e) (hiL : env.locals ≠ it) (he0 : h₀.get? e = none) (hi0 : h₀.get? it = none)
    (F : Fr h₀ env.locals s.heap m₀) (N : News h₀ env.locals s.heap news) (off : ∀ p ∈ news, p.1 ≠ e ∧ p.1 ≠ it) (hj : J 0 m₀ news)
    (turn : ∀ i v m₁ news₁ h tk t T oe oi, items[i]? = some v → J i m₁ news₁ → (∀ p ∈ news₁, p.1 ≠ e ∧ p.1 ≠ it) → Fr h₀ env.locals h m₁ → News h₀ env.locals h ((e, oe) :: (it, oi) :: news₁) → IsTup h T [Value.int (i : Int) t, v].toArray → ∀ P : Flow → Shared → Prop, (∀ f s₂, EndE h₀ env.locals e it oe oi (J (i + 1)) Q { s with heap := h, toks := tk } f s₂ → P f s₂) →
      wpAny (model prog w) A (assign (.Tuple elts kt pt) env (.ref T)) (fun _ s₃ => wpAny (model prog w) A (execs body env) P NoE s₃) NoE { s with heap := h, toks := tk })
    (done : ∀ m₁ news₁ h tk, J items.size m₁ news₁ → Fr h₀ env.locals h m₁ → News h₀ env.locals h news₁ → wpAny (model prog w) A (execs orelse env) Q NoE { s with heap := h, toks := tk }) :
    wpAny (model prog w) A (pyIter (.ref e)) (fun it' s₂ => codeAny (model prog w) A (.forLoop (.Tuple elts kt pt) it' body orelse env) (fun r s' => match r with | .ok f => Q f s' | .error e => cameBackBy (model prog w) A env NoE e s') s₂) NoE s :=
  iter_enumT J hh hl₀ he hit hei heL hiL he0 hi0 F N off hj (fun i v m₁ news₁ h tk t T oe oi a b c d e f => turn i v m₁ news₁ h tk t T oe oi a b c d e f _ fun _ _ x => x) done
theorem While_P {L : Addr} {test : Expr} {body : List Stmt} {pos : Pos} {m : Str → Option Value} {news : List (Addr × Obj)} (J : Nat → (Str → Option Value) → List (Addr × Obj) → Prop) {n₀ : Nat}
    (F : Fr h₀ L s.heap m) (N : News h₀ L s.heap news) (hJ : J n₀ m news)
    (turn : ∀ n m₁ news₁ h₁ tk₁, Fr h₀ L h₁ m₁ → News h₀ L h₁ news₁ → J n m₁ news₁ → ∀ P : Flow → Shared → Prop, (∀ f s', WhileStep2 h₀ L s J Q n f s' → P f s') →
      wpAny (model prog w) A (isTrue test env (eval test env)) (fun b s₂ =>
        if b = true then wpAny (model prog w) A (execs body env) P NoE s₂ else Q .next s₂) NoE { s with heap := h₁, toks := tk₁ }) :
    wpAny (model prog w) A (exec (.While test body [] pos) env) Q NoE s :=
  While_inv2 J F N hJ (fun n m₁ news₁ h₁ tk₁ a b c => turn n m₁ news₁ h₁ tk₁ a b c _ fun _ _ x => x) (fun _ _ x => x.elim)
def Out (h₀ : Heap) (L : Addr) (s : Shared) (J : (Str → Option Value) → List (Addr × Obj) → Prop) (s' : Shared) : Prop :=
  ∃ h' tk m' news', s' = { s with heap := h', toks := tk } ∧ Fr h₀ L h' m' ∧ News h₀ L h' news' ∧ J m' news'
def Next (h₀ : Heap) (L : Addr) (s : Shared) (J : Nat → (Str → Option Value) → List (Addr × Obj) → Prop) (n : Nat) (s' : Shared) : Prop :=
  ∃ h' tk m₂ news₂ n', s' = { s with heap := h', toks := tk } ∧ Fr h₀ L h' m₂ ∧ News h₀ L h' news₂ ∧ n' < n ∧ J n' m₂ news₂
theorem mkN {J : Nat → (Str → Option Value) → List (Addr × Obj) → Prop} {L : Addr} {n n' : Nat} {h' : Heap} {tk : Nat} {m₂ : Str → Option Value} {news₂ : List (Addr × Obj)}
    (F : Fr h₀ L h' m₂) (N : News h₀ L h' news₂) (lt : n' < n) (j : J n' m₂ news₂) : Next h₀ L s J n { s with heap := h', toks := tk } :=
  ⟨h', tk, m₂, news₂, n', rfl, F, N, lt, j⟩
theorem mkO {J : (Str → Option Value) → List (Addr × Obj) → Prop} {L : Addr} {h' : Heap} {tk : Nat} {m₂ : Str → Option Value} {news₂ : List (Addr × Obj)}
    (F : Fr h₀ L h' m₂) (N : News h₀ L h' news₂) (j : J m₂ news₂) : Out h₀ L s J { s with heap := h', toks := tk } :=
  ⟨h', tk, m₂, news₂, rfl, F, N, j⟩
/-- a while whose ends lie apart -/
theorem While_PD {L : Addr} {test : Expr} {body : List Stmt} {pos : Pos} {m : Str → Option Value} {news : List (Addr × Obj)} (J : Nat → (Str → Option Value) → List (Addr × Obj) → Prop) (JD : (Str → Option Value) → List (Addr × Obj) → Prop) {n₀ : Nat}
    (F : Fr h₀ L s.heap m) (N : News h₀ L s.heap news) (hJ : J n₀ m news)
    (turn : ∀ n m₁ news₁ h₁ tk₁, Fr h₀ L h₁ m₁ → News h₀ L h₁ news₁ → J n m₁ news₁ → ∀ (P : Flow → Shared → Prop) (D : Shared → Prop), (∀ s', Next h₀ L s J n s' → P .next s') → (∀ s', Out h₀ L s JD s' → P .brk s') → (∀ v s', Q (.ret v) s' → P (.ret v) s') → (∀ s', Out h₀ L s JD s' → D s') →
      wpAny (model prog w) A (isTrue test env (eval test env)) (fun b s₂ =>
        if b = true then wpAny (model prog w) A (execs body env) P NoE s₂ else D s₂) NoE { s with heap := h₁, toks := tk₁ })
    (done : ∀ h tk m₁ news₁, Fr h₀ L h m₁ → News h₀ L h news₁ → JD m₁ news₁ → Q .next { s with heap := h, toks := tk }) :
    wpAny (model prog w) A (exec (.While test body [] pos) env) Q NoE s := by
  have od : ∀ s', Out h₀ L s JD s' → Q .next s' := by
    rintro s' ⟨h', tk, m', news', rfl, a, b, c⟩
    exact done _ _ _ _ a b c
  exact While_inv2 J F N hJ (fun n m₁ news₁ h₁ tk₁ a b c => turn n m₁ news₁ h₁ tk₁ a b c _ _ (fun _ x => x) (fun s' x => od s' x) (fun _ _ x => x) (fun s' x => od s' x)) (fun _ _ x => x.elim)
end
end
section
theorem strsAre_of : ∀ (ps : List (Str × Tok)), StrsAre (strValues ps) (ps.map (·.1))
  | [] => .nil
  | p :: ps => .cons _ _ (strsAre_of ps)
theorem join_cps0 : ∀ (ys : List Str), (Str.join (Str.ofString "") ys).cps.toList = ys.flatMap (fun y => y.cps.toList)
  | [] => rfl
  | [y] => by show y.cps.toList = _; simp
  | y :: z :: r => by
    have ih := join_cps0 (z :: r)
    show (y ++ Str.ofString "" ++ Str.join (Str.ofString "") (z :: r)).cps.toList = _
    rw [str_app, str_app, ih]
    simp [show (Str.ofString "").cps.toList = [] from rfl]
theorem join_cps (ys : List Str) : (Txt.join (Str.ofString "") ys).cps.toList = ys.flatMap (fun y => y.cps.toList) := by
  unfold Txt.join
  rw [StrLaws.glued_eq_join, join_cps0]
section
variable {prog : Program} {w : World} {A : Around} {E : Value → Shared → Prop} {s : Shared}
theorem join_L {D : Addr} {ps : List (Str × Tok)} {t : Tok} {Q : Value → Shared → Prop} (hl : s.heap.IsList D (strValues ps).toArray) (hw : (ps.map (·.1.length)).sum + ps.length ≤ 1000000)
    (h : ∀ z t' k, z.cps.toList = ps.flatMap (fun p => p.1.cps.toList) → Q (.str z t') { s with toks := k }) : wpAny (model prog w) A (call (.builtin "str.join") [.str (Str.ofString "") t, .ref D]) Q E s :=
  join_listW (ys := ps.map (·.1)) hl (strsAre_of ps) (by decide) (by rw [List.map_map, List.length_map]; exact Nat.le_trans hw (by decide)) fun t' k => h _ t' k (by rw [join_cps, List.flatMap_map])
end
section
variable {prog : Program} {w : World} {A : Around} {E : Value → Shared → Prop} {s : Shared} {h₀ : Heap} {L : Addr} {m : Str → Option Value}
theorem appendN {D : Addr} {its : Array Value} {n : Nat} {x : Value} {own rest : List (Addr × Obj)} {Q : Value → Shared → Prop} (F : Fr h₀ L s.heap m) (N : News h₀ L s.heap (own ++ (D, W.listOf its n) :: rest)) (h1 : ∀ p ∈ own, p.1 ≠ D) (h2 : ∀ p ∈ rest, p.1 ≠ D) (hsz : its.size ≤ 1000000)
    (h : ∀ h', Fr h₀ L h' m → News h₀ L h' (own ++ (D, W.listOf (its.push x) (n + 1)) :: rest) → Q .none { s with heap := h' }) : wpAny (model prog w) A (call (.builtin "list.append") [.ref D, x]) Q E s := by
  have hd := N (D, _) (List.mem_append_right _ (.head _))
  refine append_at (hsz := by rw [PySem.sizeLine_eq]; omega) hd.1 fun h' hs ho => ?_
  exact h h' (F.change hs hd.2.1 hd.2.2) (News.setAt N h1 h2 hs ho)
end
theorem all0 {D : Addr} : ∀ p ∈ ([] : List (Addr × Obj)), p.1 ≠ D := fun _ h => nomatch h
theorem all1 {D a : Addr} {o : Obj} {l : List (Addr × Obj)} (h : a ≠ D) (k : ∀ p ∈ l, p.1 ≠ D) : ∀ p ∈ (a, o) :: l, p.1 ≠ D := fun p hp => by
  rcases List.mem_cons.mp hp with rfl | hp
  · exact h
  · exact k p hp
end
section
theorem kind_append : builtinKind "list.append" = some .method := by decide +kernel
theorem md_get : typeLookup (.type "method_descriptor") "__get__" = pure (some (.builtin "method_descriptor.__get__")) := by rw [typeLookup_type, builtinLookup_eq_fast]; kernel_rfl
theorem md_set : typeLookup (.type "method_descriptor") "__set__" = pure none := by rw [typeLookup_type, builtinLookup_eq_fast]; kernel_rfl
theorem md_del : typeLookup (.type "method_descriptor") "__delete__" = pure none := by rw [typeLookup_type, builtinLookup_eq_fast]; kernel_rfl
theorem slot_mdget : Slot "method_descriptor" "__get__" "method_descriptor.__get__" :=
  .of (owner := "method_descriptor") (n := "__get__") md_get (by decide +kernel) (by decide +kernel) (by decide +kernel) (by decide +kernel) (by rw [isSubtype_type]; kernel_rfl)
theorem entry_mdget : entryFor table "method_descriptor.__get__" = some Builtin.«method_descriptor.__get__» := entryFor_of_tree (by kernel_rfl)
theorem args_mdget (a b c : Value) : argsOk "method_descriptor.__get__" ⟨[a, b, c], []⟩ := by unfold argsOk; kernel_rfl
theorem type_append : typeOf (.builtin "list.append") = pure (.type "method_descriptor") := by show builtinType _ = _; rw [builtinType_eq_fast]; kernel_rfl
theorem owner_append : ".".intercalate ("list.append".cutAt '.').dropLast = "list" := by decide +kernel
theorem sub_list : isSubtype (.type "list") (.type "list") = pure true := by rw [isSubtype_type]; kernel_rfl
theorem meets_append (a : Addr) (xs : Array Value) (k : Nat) (u : Tok) :
    Meets (Builtin.«object.__getattribute__» ⟨[.ref a, .str (Str.ofString "append") u], []⟩) (fun A R s => s.heap.get? a = some { cls := .type "list", dict := none, data := .seq xs k, slots := #[] } ∧ R (.ok (.ret (.ref s.heap.objs.size))) { s with heap := s.heap.push { cls := .type "builtin_function_or_method", data := .fields #[.builtin "list.append", .ref a] } }) :=
  Meets.of_wp fun prog w A R s hs => by
    obtain ⟨hp, g, d, tk, os⟩ := s
    obtain ⟨hx, hs⟩ := hs
    have hT : (⟨hp, g, d, tk, os⟩ : Shared).TypeIs (.ref a) "list" := ⟨_, hx, rfl⟩
    have f1 := slot_list_append.lookup
    unfold Builtin.«object.__getattribute__»
    repeat (any_goals (first | with_reducible assumption | wp_step))
    have f2 := md_get
    have f3 := md_set
    have f4 := md_del
    repeat (any_goals (first | with_reducible assumption | wp_step | (rw [kind_append]; dsimp only)))
    refine codeAny_call_builtin slot_mdget.plain entry_mdget (slot_mdget.check _ _ _ _ _ _ _ _ type_append (args_mdget _ _ _) ?_)
    unfold Builtin.«method_descriptor.__get__»
    repeat (any_goals (first | with_reducible assumption | wp_step | (rw [kind_append]; dsimp only)))
    rw [owner_append]
    have f5 := sub_list
    repeat (any_goals (first | with_reducible assumption | wp_step))
    exact ⟨_, rfl, hs⟩
theorem getAttr_append {prog : Program} {w : World} {A : Around} {E : Value → Shared → Prop} {s : Shared} {a : Addr} {xs : Array Value} {k : Nat} {Q : Value → Shared → Prop}
    (hx : s.heap.get? a = some { cls := .type "list", data := .seq xs k })
    (h : Q (.ref s.heap.objs.size) { s with heap := s.heap.push { cls := .type "builtin_function_or_method", data := .fields #[.builtin "list.append", .ref a] }, toks := s.toks + 1 }) :
    wpAny (model prog w) A (getAttr (.ref a) (Str.ofString "append") true) Q E s := by
  obtain ⟨hp, g, d, tk, os⟩ := s
  have hT : ∀ tk', (⟨hp, g, d, tk', os⟩ : Shared).TypeIs (.ref a) "list" := fun _ => ⟨_, hx, rfl⟩
  have f3 := F.slot_list_getattribute.lookup
  have f4 := F.slot_list_getattribute.bind (.ref a)
  have f5 := am_list_getattr_none
  unfold getAttr getAttrBy
  repeat (any_goals (first | with_reducible assumption | exact hT _ | ((with_reducible show wpAny _ _ (call (Value.builtin "list.__getattribute__") _ _) _ _ _); refine call_meets F.slot_list_getattribute (hT _) am_entry_list_getattribute (F.args_list_getattribute_2 _ _) (meets_append a xs k _) ⟨hx, ?_⟩) | wp_step))
  show wpAny _ A (handedOut (.ref _)) Q E _
  exact wpAny_pure h
theorem bound_fact (a b : Value) : (match Manifest.signature? "list.append" with
    | none => pure ()
    | some sig => Bind.checkArgs "list.append" { sig with full := s!"{Bind.lastOf "list"}.{Bind.lastOf "list.append"}" } ⟨[a, b], []⟩) = (pure () : Sem Unit) := by kernel_rfl
theorem sub_list_module : isSubtype (.type "list") (.type "module") = pure false := by rw [isSubtype_type]; kernel_rfl
theorem varargs_append : Manifest.varargsMethods.contains "list.append" = false := by decide +kernel
abbrev boundApp (a : Addr) : Obj := { cls := .type "builtin_function_or_method", data := .fields #[.builtin "list.append", .ref a] }
theorem call_bound {prog : Program} {w : World} {A : Around} {E : Value → Shared → Prop} {s : Shared} {q D : Addr} {its : Array Value} {n : Nat} {x : Value} {Q : Value → Shared → Prop}
    (hq : s.heap.get? q = some (boundApp D)) (ho : s.heap.get? D = some { cls := .type "list", data := .seq its n }) (hsz : its.size ≤ sizeLine)
    (h : ∀ h', Heap.SameBut D s.heap h' → h'.get? D = some { cls := .type "list", data := .seq (its.push x) (n + 1) } → Q .none { s with heap := h' }) :
    wpAny (model prog w) A (call (.ref q) [x]) Q E s := by
  refine wpAny_call ?_
  obtain ⟨hh, g, dr, t, os⟩ := s
  refine codeAny_of_tree ?_
  show wpAny _ _ (callAny (.ref q) _) _ _ _
  dsimp only at hq
  refine nd_load hq ?_
  dsimp only
  show wpAny _ _ (checkBoundCall "list.append" { pos := [.ref D, x] } >>= fun _ => again (Code.builtin "list.append" { pos := [.ref D, x] })) _ _ _
  have hT : ∀ A' : Around, (⟨hh, g, dr, t, os⟩ : Shared).TypeIs (.ref D) "list" := fun _ => ⟨_, ho, rfl⟩
  refine wpAny_bind (wpAny_mono (Q := fun _ s' => s' = ⟨hh, g, dr, t, os⟩) (E := fun _ _ => False) ?_ ?_ (fun _ _ z => z.elim))
  · unfold checkBoundCall
    have hb := bound_fact (.ref D) x
    cases hs : Manifest.signature? "list.append" with
    | none => exact wpAny_pure rfl
    | some sig =>
      rw [hs] at hb
      rw [kind_append]
      have f1 := sub_list_module
      have f2 := varargs_append
      have hT0 := hT A
      dsimp only
      rw [if_neg (show ¬ ((Manifest.AttrKind.method != Manifest.AttrKind.method && Manifest.AttrKind.method != Manifest.AttrKind.classMethod) = true) by decide)]
      refine wpAny_bind (wpAny_isInstance (hT A) f1 ?_)
      rw [f2]
      simp only [Bool.false_or, Bool.false_eq_true, if_false]
      repeat (any_goals (first | with_reducible assumption | wp_step))
      exact rfl
  · rintro _ s' rfl
    refine wpAny_pure ⟨Code.quiet_builtin _ (by decide +kernel), codeAny_builtin entry_list_append ?_⟩
    show wpAny _ _ (updateSeq D (·.push x) >>= fun _ => ret .none) _ _ _
    refine wpAny_bind (wpAny_updateSeq ho rfl (wpAny_pure (h _ (Heap.SameBut.update ..) ?_)))
    rw [Heap.get?_update_self _ ho (by rw [mapSeq_push]; rfl), mapSeq_push]
end
section
theorem mro_object : mroOf (.type "object") = pure [.type "object"] := by rw [mroOf_type]; kernel_rfl
theorem lookup_object_new : typeLookup (.type "object") "__new__" = pure (some (.builtin "object.__new__")) := by rw [typeLookup_type, builtinLookup_eq_fast]; kernel_rfl
theorem slot_object_init : Slot "object" "__init__" "object.__init__" :=
  .of (owner := "object") (n := "__init__") (by rw [typeLookup_type, builtinLookup_eq_fast]; kernel_rfl) (by decide +kernel) (by decide +kernel) (by decide +kernel)
    (by first | exact .inl (by decide +kernel) | exact .inr (by decide +kernel)) (by rw [isSubtype_type]; kernel_rfl)
theorem called_object : TypeCalled "object" "object.__new__" "object.__init__" :=
  ⟨by decide +kernel, by decide +kernel, ⟨_, _, mro_object⟩, madeBy_type mro_object lookup_object_new (by decide +kernel), by decide +kernel, by rw [isSubtype_type]; kernel_rfl, slot_object_init⟩
theorem typeCall_object : checkTypeCall "object" ⟨[], []⟩ = pure () := by kernel_rfl
theorem newCall_object : checkBuiltinCall "object.__new__" ⟨[.type "object"], []⟩ = pure () := by kernel_rfl
theorem args_object_init (a : Value) : argsOk "object.__init__" ⟨[a], []⟩ := by unfold argsOk; kernel_rfl
theorem made_here : Bind.madeHere "object.__new__" (.type "object") = pure () := by kernel_rfl
abbrev plainObj : Obj := { cls := .type "object", data := .plain }
theorem meets_object_new : Meets (Builtin.«object.__new__» ⟨[.type "object"], []⟩) (fun _ R s => R (.ok (.ret (.ref s.heap.objs.size))) { s with heap := s.heap.push plainObj }) :=
  Meets.of_wp fun prog w A R s hs => by
    obtain ⟨hp, g, d, tk, os⟩ := s
    unfold Builtin.«object.__new__»
    repeat (any_goals (first | with_reducible assumption | (with_reducible refine wpAny_of_eq made_here ?_) | wp_step))
    exact ⟨_, rfl, hs⟩
theorem call_object {prog : Program} {w : World} {A : Around} {E : Value → Shared → Prop} {s : Shared} {Q : Value → Shared → Prop}
    (h : Q (.ref s.heap.objs.size) { s with heap := s.heap.push plainObj }) : wpAny (model prog w) A (call (.type "object") []) Q E s := by
  refine callType_meets (Q₁ := fun obj s₁ => s₁.TypeIs obj "object" ∧ Q obj s₁) called_object typeCall_object newCall_object F.entry_object_new F.entry_object_init meets_object_new ⟨⟨_, Heap.get?_push_size _ rfl, rfl⟩, h⟩ fun obj s₁ hq => ⟨hq.1, args_object_init _, _, Meets.of_wp (S := fun _ R s => R (.ok (.ret .none)) s) (fun prog w A R s hs => wpAny_pure ⟨_, rfl, hs⟩), rfl, hq.2⟩
end
section
section
variable {prog : Program} {w : World} {A : Around} {E : Value → Shared → Prop} {s : Shared} {h₀ : Heap} {L : Addr} {m : Str → Option Value} {news : List (Addr × Obj)} {Q : Value → Shared → Prop}
theorem call_objectN (F : Fr h₀ L s.heap m) (N : News h₀ L s.heap news)
    (h : ∀ D h', Fr h₀ L h' m → News h₀ L h' ((D, plainObj) :: news) → (∀ p ∈ news, p.1 < D) → Q (.ref D) { s with heap := h' }) : wpAny (model prog w) A (call (.type "object") []) Q E s :=
  call_object (h _ _ (F.push _) (N.push F _) fun p hp => Heap.lt_size (N p hp).1)
theorem getAttr_appendN {a : Addr} {its : Array Value} {k : Nat} (F : Fr h₀ L s.heap m) (N : News h₀ L s.heap news) (hm : (a, W.listOf its k) ∈ news)
    (h : ∀ q h', Fr h₀ L h' m → News h₀ L h' ((q, boundApp a) :: news) → (∀ p ∈ news, p.1 < q) → Q (.ref q) { s with heap := h', toks := s.toks + 1 }) : wpAny (model prog w) A (getAttr (.ref a) (Str.ofString "append") true) Q E s :=
  getAttr_append (N _ hm).1 (h _ _ (F.push _) (N.push F _) fun p hp => Heap.lt_size (N p hp).1)
theorem call_boundN {q D : Addr} {its : Array Value} {n : Nat} {x : Value} {own rest : List (Addr × Obj)} (F : Fr h₀ L s.heap m) (N : News h₀ L s.heap (own ++ (D, W.listOf its n) :: rest)) (hq : (q, boundApp D) ∈ own ++ (D, W.listOf its n) :: rest) (h1 : ∀ p ∈ own, p.1 ≠ D) (h2 : ∀ p ∈ rest, p.1 ≠ D) (hsz : its.size ≤ 1000000)
    (h : ∀ h', Fr h₀ L h' m → News h₀ L h' (own ++ (D, W.listOf (its.push x) (n + 1)) :: rest) → Q .none { s with heap := h' }) : wpAny (model prog w) A (call (.ref q) [x]) Q E s := by
  have hd := N (D, _) (List.mem_append_right _ (.head _))
  refine call_bound (N _ hq).1 hd.1 (by rw [PySem.sizeLine_eq]; omega) fun h' hs ho => ?_
  exact h h' (F.change hs hd.2.1 hd.2.2) (News.setAt N h1 h2 hs ho)
end
end
section
section
variable {M : Model} {A : Around} {E : Value → Shared → Prop} {s : Shared} {env : Env} {pos : Pos} {first : List Value} {Q : Value → Shared → Prop}
theorem keeps_B {q D : Addr} (h : Heap) (X : h.get? q = some (boundApp D)) : ∃ k, (k = Keeper.frame ∨ k = Keeper.machine ∨ k = Keeper.boundFrame) ∧ Looks M h (keeperOf (.ref q)) k :=
  ⟨.machine, .inr (.inl rfl), (Looks.ld (part := none) X).andThen .now⟩
theorem callWith_B {h₀ : Heap} {L q D : Addr} {news : List (Addr × Obj)} {e : Expr} {rest : List Expr} (_N : News h₀ L s.heap news) (_hq : (q, boundApp D) ∈ news)
    (h : wpAny M A (spliced (backTo pos (starEach (e :: rest) env))) (fun vs s₁ => s₁.heap.get? q = some (boundApp D) ∧ wpAny M A (call (.ref q) (first ++ vs)) Q E s₁) E s)
    (he : starEach (e :: rest) env = (false, eval e env) :: starEach rest env := by rfl) (hplain : (backTo pos (starEach rest env)).any (·.1) = false := by rfl) :
    wpAny M A (callWith pos (.ref q) first (backTo pos (starEach (e :: rest) env)) []) Q E s := by
  rw [he] at h ⊢
  exact callWith_of (P := fun h => h.get? q = some (boundApp D)) (by show ((false || (backTo pos (starEach rest env)).any (·.1)) || false) = false; rw [hplain]; rfl) (fun h X => keeps_B h X) (Calls.evalArgs_plain h)
end
theorem ite_hT {b : Bool} {p q : Prop} (h : b = true) (k : p) : if b = true then p else q := by rw [if_pos h]; exact k
theorem ite_hF {b : Bool} {p q : Prop} (h : b = false) (k : q) : if b = true then p else q := by rw [if_neg (by rw [h]; decide)]; exact k
end
section
section
variable {prog : Program} {w : World} {A : Around} {E : Value → Shared → Prop} {s : Shared}
theorem truthy_ne {l : Addr} {items : Array Value} {Q : Bool → Shared → Prop} (hl : s.heap.IsList l items) (h0 : 0 < items.size) (hb : items.size ≤ 1000000)
    (h : Q true { s with toks := s.toks + 1 + 1 }) : wpAny (model prog w) A (truthy (.ref l)) Q E s :=
  wpAny_truthy_list hl (by lia) (by
    have : (!items.isEmpty) = true := by
      rw [Bool.not_eq_true', Array.isEmpty_eq_false_iff]
      intro q; rw [q] at h0; exact absurd h0 (by decide)
    rw [this]; exact h)
theorem itemLast {value slice : Expr} {l : Addr} {items : Array Value} {k : Int} {u : Tok} {x : Value} {Q : Value → Shared → Prop} (hl : s.heap.IsList l items) (hk : k = -1)
    (h0 : 0 < items.size) (hb : items.size ≤ 1000000) (hx : items[items.size - 1]? = some x) (h : Q x s)
    (hs : subscripted slice false (.ref l) (.int k u) = operate [.ref l, .int k u] (getItem (.ref l) (.int k u))) :
    wpAny (model prog w) A (subscriptTail value slice (.ref l) (.int k u)) Q E s := by
  subst hk
  exact tail_any hl.typeIs slot_list_getitem.lookup (wpAny_getItem_list_neg hl (by decide) (by lia) (by decide) (by rw [show ((-1 : Int) + (items.size : Int)).toNat = items.size - 1 by lia]; exact hx) h) hs
theorem isNot_str {o : Addr} {x : Str} {t : Tok} {Q : Value → Shared → Prop} (h : Q (.bool true) s) : wpAny (model prog w) A (compareOp .IsNot (.str x t) (.ref o)) Q E s :=
  wpAny_isNot_other rfl (fun z => nomatch z) h
end
end
section
theorem lenA (x y : Str) : (x ++ y).length = x.length + y.length := Str.length_append x y
theorem lenE : Str.empty.length = 0 := rfl
theorem len_cps (x : Str) : x.cps.toList.length = x.length := by simp [Str.length]
section
variable {prog : Program} {w : World} {A : Around} {E : Value → Shared → Prop} {s : Shared}
theorem fieldS {x : Str} {t : Tok} {Q : Value → Shared → Prop} (h : ∀ t' k, Q (.str x t') { s with toks := k }) (hsz : x.length ≤ 1000000) : wpAny (model prog w) A (formatField (.str x t) Str.empty) Q E s :=
  wpAny_formatField_str (h _ _) (h _ _) (by rw [PySem.sizeLine_eq]; omega)
end
end
section
open Builtin Builtin.Str in
/-- what a table says of a sign: none keeps it -/
def TL (prog : Program) (w : World) (A : Around) (h₀ : Heap) (table : Value) (mp : Nat → Option Str) (c : Nat) : Prop :=
  ∀ (s : Shared) (Q : Mapped → Shared → Prop) (E : Value → Shared → Prop), h₀.StaysIn s.heap → (∀ h' tk, s.heap.StaysIn h' → Q (match mp c with | none => .keep | some t => .text t) { s with heap := h', toks := tk }) → wpAny (model prog w) A (tableLookup table c) Q E s
theorem sub_Key_Lookup : isSubtype (.type "KeyError") (.type "LookupError") = pure true := by rw [isSubtype_type]; kernel_rfl
section
variable {prog : Program} {w : World} {A : Around}
open Builtin Builtin.Str
theorem tl_list {h₀ : Heap} {l : Addr} {items : Array Value} {mp : Nat → Option Str} {c : Nat} (hl : h₀.IsList l items) (hc : c < 2 ^ 63) {t : Str} {tk : Tok} (hx : items[c]? = some (.str t tk)) (hm : mp c = some t) : TL prog w A h₀ (.ref l) mp c := by
  intro s Q E hs h
  have hl' : s.heap.IsList l items := hl.at fun o e => hs _ _ e
  unfold tableLookup
  refine wpAny_bind (wpAny_attempt (wpAny_bind (wpAny_mkInt (wpAny_getItem_list (s := { s with toks := s.toks + 1 }) hl' (by lia) (by lia) (x := .str t tk) (by rw [Int.toNat_natCast]; exact hx) ?_))))
  dsimp only
  show wpAny _ _ (asInt? (.str t tk) >>= _) _ _ _
  refine wpAny_bind (wpAny_pure ?_)
  dsimp only
  refine wpAny_bind (wpAny_pure ?_)
  refine wpAny_pure ?_
  have := h s.heap (s.toks + 1) (fun _ _ x => x)
  rw [hm] at this
  exact this
theorem tl_hit {h₀ : Heap} {d : Addr} {f : Int → Option Value} {mp : Nat → Option Str} {c : Nat} (hd : h₀.IntMap d f) {t : Str} {tk : Tok} (hx : f (c : Int) = some (.str t tk)) (hm : mp c = some t) : TL prog w A h₀ (.ref d) mp c := by
  intro s Q E hs h
  have hd' : s.heap.IntMap d f := by obtain ⟨o, es, ep, ho, r⟩ := hd; exact ⟨o, es, ep, hs _ _ ho, r⟩
  unfold tableLookup
  refine wpAny_bind (wpAny_attempt (wpAny_bind (wpAny_mkInt (wpAny_getItem_intMap (s := { s with toks := s.toks + 1 }) hd' hx ?_))))
  dsimp only
  show wpAny _ _ (asInt? (.str t tk) >>= _) _ _ _
  refine wpAny_bind (wpAny_pure ?_)
  dsimp only
  refine wpAny_bind (wpAny_pure ?_)
  refine wpAny_pure ?_
  have := h s.heap (s.toks + 1 + 1) (fun _ _ x => x)
  rw [hm] at this
  exact this
theorem tl_miss {h₀ : Heap} {d : Addr} {f : Int → Option Value} {mp : Nat → Option Str} {c : Nat} (hh : A.handled = none) (hne : (d == sysModules) = false) (hd : h₀.MapOf (intKind prog w) d f) (hx : f (c : Int) = none) (hm : mp c = none) : TL prog w A h₀ (.ref d) mp c := by
  intro s Q E hs h
  have hd' : s.heap.MapOf (intKind prog w) d f := by obtain ⟨o, es, ep, ho, r⟩ := hd; exact ⟨o, es, ep, hs _ _ ho, r⟩
  unfold tableLookup
  refine wpAny_bind (wpAny_attempt (wpAny_bind (wpAny_mkInt (wpAny_getItem_missing_of (s := { s with toks := s.toks + 1 }) (knd := intKind prog w) (k := (c : Int)) (by simp [intKind, Value.isInt]) hne hh hd' hx fun h' e hn => ?_))))
  dsimp only
  obtain ⟨ob, t', he, hc, _⟩ := hn.there
  refine wpAny_bind (wpAny_isInstance (T := "KeyError") (b := true) ⟨ob, he, hc⟩ sub_Key_Lookup ?_)
  simp only [if_true]
  refine wpAny_bind (wpAny_rule (wpAny_pure ?_))
  have := h h' (s.toks + 1 + 1) hn.keeps
  rw [hm] at this
  exact this
def outM (mp : Nat → Option Str) (c : Nat) : List Nat := match mp c with
  | none => [c]
  | some t => t.cps.toList
theorem toolong_no {n : Nat} (h : n ≤ 1000000) : tooLong n = false := by
  unfold tooLong
  rw [decide_eq_false]
  rw [PySem.sizeLine_eq]; lia
theorem one_cps {u : Str} (h : (u.length == 1) = true) : ∃ d, u.cps[0]? = some d ∧ u.cps.toList = [d] := by
  have h1 : u.cps.toList.length = 1 := by have : u.length = 1 := by simpa using h
                                          simpa [Str.length] using this
  match hu : u.cps.toList, h1 with
  | [d], _ => exact ⟨d, by rw [← Array.getElem?_toList, hu]; rfl, rfl⟩
theorem fold_cps : ∀ (l : List Str) (acc : Array Nat), (l.foldl (fun acc p => acc ++ p.cps) acc).toList = acc.toList ++ l.flatMap (fun p => p.cps.toList)
  | [], acc => by simp
  | p :: l, acc => by rw [List.foldl_cons, fold_cps l]; simp
theorem flat_len (mp : Nat → Option Str) (hlen : ∀ c u, mp c = some u → u.length ≤ 3) : ∀ l : List Nat, (l.flatMap (outM mp)).length ≤ 3 * l.length
  | [] => Nat.le_refl _
  | c :: l => by
    have := flat_len mp hlen l
    rw [List.flatMap_cons, List.length_append, List.length_cons]
    have : (outM mp c).length ≤ 3 := by
      unfold outM
      split
      · simp
      · rename_i u hu
        have := hlen c u hu
        simpa [Str.length] using this
    lia
abbrev TrSt := List Str × Nat × Bool × List (Nat × Option Nat) × Bool
def TrInv (x : Str) (mp : Nat → Option Str) (s : Shared) (rest : List Nat) (b : TrSt) (s' : Shared) : Prop :=
  ∃ dn h' tk, x.cps.toList = dn ++ rest ∧ s' = { s with heap := h', toks := tk } ∧ s.heap.StaysIn h' ∧ b.1.reverse.flatMap (fun p => p.cps.toList) = dn.flatMap (outM mp) ∧ b.2.1 ≤ 3 * dn.length ∧ b.2.2.2.2 = false ∧ ∀ c a, b.2.2.2.1.lookup c = some a → ∃ d, a = some d ∧ outM mp c = [d]
theorem TrInv.put {x : Str} {mp : Nat → Option Str} {s : Shared} {c : Nat} {rest dn : List Nat} {ps : List Str} {tot : Nat} {fast' : Bool} {kn' : List (Nat × Option Nat)} {p : Str} {h' : Heap} {tk : Nat}
    (h1 : x.cps.toList = dn ++ c :: rest) (hs : s.heap.StaysIn h') (h2 : ps.reverse.flatMap (fun p => p.cps.toList) = dn.flatMap (outM mp)) (h3 : tot ≤ 3 * dn.length) (hp : p.cps.toList = outM mp c) {k : Nat} (hk : k ≤ 3)
    (h4 : ∀ c a, kn'.lookup c = some a → ∃ d, a = some d ∧ outM mp c = [d]) : TrInv x mp s rest (p :: ps, tot + k, fast', kn', false) { s with heap := h', toks := tk } :=
  ⟨dn ++ [c], h', tk, by simp [h1], rfl, hs, by simp [h2, hp], by simp; lia, rfl, h4⟩
theorem TrInv.elim {x : Str} {mp : Nat → Option Str} {s : Shared} {rest : List Nat} {b : TrSt} {s' : Shared} {C : Prop} (I : TrInv x mp s rest b s')
    (k : ∀ ps tot fast kn dn h' tk, b = (ps, tot, fast, kn, false) → s' = { s with heap := h', toks := tk } → x.cps.toList = dn ++ rest → s.heap.StaysIn h' → ps.reverse.flatMap (fun p => p.cps.toList) = dn.flatMap (outM mp) → tot ≤ 3 * dn.length → (∀ c a, kn.lookup c = some a → ∃ d, a = some d ∧ outM mp c = [d]) → C) : C := by
  obtain ⟨ps, tot, fast, kn, ad⟩ := b
  obtain ⟨dn, h', tk, h1, h0, hs, h2, h3, had, hkn⟩ := I
  exact k ps tot fast kn dn h' tk (congrArg (fun z => (ps, tot, fast, kn, z)) had) h0 h1 hs h2 h3 hkn
theorem wpAny_ifF {α : Type} {M : Model} {A : Around} {c : Prop} [Decidable c] {a b : Sem α} {Q : α → Shared → Prop} {E : Value → Shared → Prop} {s : Shared} (h : ¬ c) (k : wpAny M A b Q E s) : wpAny M A (if c then a else b) Q E s := by
  rw [if_neg h]; exact k
theorem wpAny_ifT {α : Type} {M : Model} {A : Around} {c : Prop} [Decidable c] {a b : Sem α} {Q : α → Shared → Prop} {E : Value → Shared → Prop} {s : Shared} (h : c) (k : wpAny M A a Q E s) : wpAny M A (if c then a else b) Q E s := by
  rw [if_pos h]; exact k
theorem call_translate {s : Shared} {E : Value → Shared → Prop} {Q : Value → Shared → Prop} {x : Str} {t : Tok} {table : Value} {mp : Nat → Option Str} (hx : x.length ≠ 0) (hx2 : x.length ≤ 100000) (hlen : ∀ c u, mp c = some u → u.length ≤ 3)
    (htl : ∀ c ∈ x.cps.toList, TL prog w A.in1 s.heap table mp c) (h : ∀ z tz h' tk, s.heap.StaysIn h' → z.cps.toList = x.cps.toList.flatMap (outM mp) → Q (.str z tz) { s with heap := h', toks := tk }) :
    wpAny (model prog w) A (call (.builtin "str.translate") [.str x t, table]) Q E s := by
  refine wpAny_call_entry F.slot_str_translate (typeIs_str s x t) F.entry_str_translate ?_ (F.args_str_translate_2 _ _)
  unfold Builtin.«str.translate»
  refine wpAny_bind (wpAny_of_eq (a := (.str x t, x, table)) (by rfl) ?_)
  dsimp only
  rw [if_neg (by simpa using hx)]
  have hxl : x.cps.toList.length = x.length := by simp [Str.length]
  refine wpAny_bind (MeetsSeq2.wpAny_forIn_array _ (TrInv x mp s) _ ?_ ?_ _ _ ⟨[], s.heap, s.toks, rfl, rfl, fun _ _ e => e, rfl, Nat.le_refl _, rfl, fun c a e => by cases e⟩)
  · intro c rest b s' hI
    refine hI.elim ?_
    rintro ps tot fast kn dn h' tk rfl rfl h1 hs h2 h3 hkn
    dsimp only
    have hdn : dn.length ≤ x.length := by rw [← hxl, h1]; simp
    have hc : c ∈ x.cps.toList := by rw [h1]; simp
    refine wpAny_ifF (by rw [toolong_no (by lia)]; decide) ?_
    have slow : ∀ (h'' : Heap) (tk'' : Nat), s.heap.StaysIn h'' → ∀ Q', (∀ p k h' tk, k ≤ 3 → s.heap.StaysIn h' → p.cps.toList = outM mp c → Q' (ForInStep.yield (p :: ps, tot + k, false, kn, false)) { s with heap := h', toks := tk }) → wpAny (model prog w) A.in1
        (do
          let __do_lift ← tableLookup table c
          match __do_lift with
            | Mapped.keep => pure (ForInStep.yield ({ cps := #[c] } :: ps, tot + 1, false, kn, false))
            | Mapped.drop => pure (ForInStep.yield (ps, tot, false, kn, true))
            | Mapped.char d => pure (ForInStep.yield ({ cps := #[d] } :: ps, tot + 1, false, kn, false))
            | Mapped.text t => pure (ForInStep.yield (t :: ps, tot + t.length, false, kn, false))) Q' E { s with heap := h'', toks := tk'' } := by
      intro h'' tk'' hs'' Q' hQ
      refine wpAny_bind (htl c hc _ _ _ hs'' fun h3 tk3 hs3 => ?_)
      cases hm : mp c with
      | none => exact wpAny_pure (hQ _ 1 _ _ (by decide) (fun b o e => hs3 b o (hs'' b o e)) (by unfold outM; rw [hm]))
      | some u => exact wpAny_pure (hQ _ _ _ _ (hlen c u hm) (fun b o e => hs3 b o (hs'' b o e)) (by unfold outM; rw [hm]))
    cases fast with
    | false =>
      refine wpAny_ifF (by decide) ?_
      exact slow h' tk hs _ fun p k h' tk hk hs' hp => TrInv.put h1 hs' h2 h3 hp hk hkn
    | true =>
      refine wpAny_ifT rfl ?_
      cases hl : kn.lookup c with
      | some a =>
        obtain ⟨d, rfl, hd⟩ := hkn c a hl
        exact wpAny_bind (wpAny_pure (wpAny_pure (TrInv.put h1 hs h2 h3 (by rw [hd]) (by decide) hkn)))
      | none =>
        refine wpAny_bind (htl c hc _ _ _ hs fun h3' tk3 hs3 => ?_)
        have hs4 : s.heap.StaysIn h3' := fun b o e => hs3 b o (hs b o e)
        have add : ∀ d, outM mp c = [d] → ∀ c' a, List.lookup c' ((c, some d) :: kn) = some a → ∃ d, a = some d ∧ outM mp c' = [d] := by
          intro d hd c' a e
          rw [List.lookup_cons] at e
          by_cases q : c' = c
          · subst q
            rw [show (c' == c') = true by simp] at e
            cases e
            exact ⟨d, rfl, hd⟩
          · rw [show (c' == c) = false from beq_false_of_ne q] at e
            exact hkn c' a e
        cases hm : mp c with
        | none =>
          have ho : outM mp c = [c] := by unfold outM; rw [hm]
          exact wpAny_bind (wpAny_pure (wpAny_pure (TrInv.put h1 hs4 h2 h3 (by rw [ho]) (by decide) (add c ho))))
        | some u =>
          have ho : outM mp c = u.cps.toList := by unfold outM; rw [hm]
          dsimp only
          by_cases hu : (u.length == 1 && u.cps.all fun x => decide (x < 128)) = true
          · rw [if_pos hu]
            obtain ⟨d, hd1, hd2⟩ := one_cps (Bool.and_eq_true_iff.mp hu).1
            rw [hd1]
            exact wpAny_bind (wpAny_pure (wpAny_pure (TrInv.put h1 hs4 h2 h3 (by rw [ho, hd2]) (by decide) (add d (by rw [ho, hd2])))))
          · rw [if_neg hu]
            refine wpAny_bind (wpAny_pure ?_)
            refine wpAny_bind (wpAny_rule ?_)
            refine wpAny_ifF (by decide) ?_
            exact slow h3' tk3 hs4 _ fun p k h' tk hk hs' hp => TrInv.put h1 hs' h2 h3 hp hk hkn
  · intro b s' hI
    refine hI.elim ?_
    rintro ps tot fast kn dn h' tk rfl rfl h1 hs h2 h3 hkn
    dsimp only
    have hdn : dn.length ≤ x.length := by rw [← hxl, h1]; simp
    refine wpAny_ifF (by rw [toolong_no (by lia)]; decide) ?_
    have hz : (ps.reverse.foldl (fun acc p => acc ++ p.cps) #[]).toList = x.cps.toList.flatMap (outM mp) := by
      rw [fold_cps, h2, h1]; simp
    refine wpAny_bind (wpAny_mkStr ?_ ?_)
    · exact wpAny_pure ⟨_, rfl, h _ _ _ _ hs hz⟩
    · have h5 := flat_len mp hlen x.cps.toList
      rw [← hz, hxl] at h5
      rw [PySem.sizeLine_eq]
      have : (⟨ps.reverse.foldl (fun acc p => acc ++ p.cps) #[]⟩ : Str).length = (ps.reverse.foldl (fun acc p => acc ++ p.cps) #[]).toList.length := by simp [Str.length]
      lia
end
end
section
section
variable {M : Model} {A : Around} {E : Value → Shared → Prop} {s : Shared} {x : Str} {t : Tok} {pl : Sem Bool} {Q : Value × List Value → Shared → Prop}
theorem gm_translate (h : Q (.builtin "str.translate", [.str x t]) s) : wpAny M A (getMethod (.str x t) (Str.ofString "translate") pl) Q E s := by
  with_reducible exact GM.of (.str x t) (typeIs_str _ _ _) F.slot_str_translate F.type_str_translate GM.noRef h
theorem gm_encode (h : Q (.builtin "str.encode", [.str x t]) s) : wpAny M A (getMethod (.str x t) (Str.ofString "encode") pl) Q E s := by
  with_reducible exact GM.of (.str x t) (typeIs_str _ _ _) F.slot_str_encode F.type_str_encode GM.noRef h
end
end
section
def cutL : L → L × List L
  | [] => ([], [])
  | c :: r => if c = 42 then ([], (cutL r).1 :: (cutL r).2) else (c :: (cutL r).1, (cutL r).2)
def norm : List L → List L
  | [] => []
  | [a] => [a]
  | a :: b :: t => if a = [] then norm (b :: t) else a :: norm (b :: t)
theorem norm_nil : ∀ l : List L, norm l = [] ↔ l = []
  | [] => by simp [norm]
  | [a] => by simp [norm]
  | a :: b :: t => by
    have := norm_nil (b :: t)
    rw [norm]
    split <;> simp_all
theorem runs_cut : ∀ X : L, runs X = ((cutL X).1, norm (cutL X).2)
  | [] => rfl
  | c :: r => by
    rw [runs, cutL, runs_cut r]
    split
    · dsimp only
      cases e : (cutL r).2 with
      | nil => simp [norm]
      | cons b t =>
        have := norm_nil (b :: t)
        rw [norm]
        by_cases h : (cutL r).1 = [] <;> simp_all
    · rfl
theorem cut_free : ∀ (a : L), 42 ∉ a → cutL a = (a, [])
  | [], _ => rfl
  | c :: a, h => by
    rw [List.mem_cons, not_or] at h
    rw [cutL, if_neg (fun e => h.1 e.symm), cut_free a h.2]
theorem cut_app : ∀ (a b : L), 42 ∉ a → cutL (a ++ 42 :: b) = (a, (cutL b).1 :: (cutL b).2)
  | [], b, _ => by simp [cutL]
  | c :: a, b, h => by
    rw [List.mem_cons, not_or] at h
    rw [List.cons_append, cutL, if_neg (fun e => h.1 e.symm), cut_app a b h.2]
theorem cut_join : ∀ (p : Str) (r : List Str), (∀ y ∈ p :: r, 42 ∉ y.cps.toList) → cutL (Str.join ⟨#[42]⟩ (p :: r)).cps.toList = (p.cps.toList, r.map fun y => y.cps.toList)
  | p, [], h => cut_free _ (h p (by simp))
  | p, q :: r, h => by
    have e : (Str.join ⟨#[42]⟩ (p :: q :: r)).cps.toList = p.cps.toList ++ 42 :: (Str.join ⟨#[42]⟩ (q :: r)).cps.toList := by
      show (p ++ ⟨#[42]⟩ ++ Str.join ⟨#[42]⟩ (q :: r)).cps.toList = _
      rw [str_app, str_app]; simp
    rw [e, cut_app _ _ (h p (by simp)), cut_join q r fun y hy => h y (List.mem_cons_of_mem _ hy)]
    rfl
def full (p : Str × Tok) : Bool := p.1.length != 0
theorem cut_split {x : Str} {l : List (Str × Tok)} (h : l.map (·.1) = Txt.split x (Str.ofString "*")) : ∃ p0 pr, l = p0 :: pr ∧ cutL x.cps.toList = (p0.1.cps.toList, pr.map fun y => y.1.cps.toList) := by
  have e : Str.ofString "*" = ⟨#[42]⟩ := by decide
  rw [e] at h
  have h1 := StrLaws.join_split x ⟨#[42]⟩
  have h2 := StrLaws.split_free x 42
  rw [← h] at h1 h2
  cases l with
  | nil =>
    have := (PyProof.Rows.fact_split x ⟨#[42]⟩).1
    rw [← h] at this
    simp at this
  | cons p r =>
    refine ⟨p, r, rfl, ?_⟩
    rw [List.map_cons] at h1 h2
    have := cut_join _ _ h2
    rw [h1] at this
    rw [this]; simp
theorem split_small {x : Str} {l : List (Str × Tok)} (h : l.map (·.1) = Txt.split x (Str.ofString "*")) : l.length ≤ x.length + 2 := by
  have := (PyProof.Rows.fact_split x (Str.ofString "*")).2
  rw [← h, List.length_map] at this; exact this
theorem norm_eq (f : Str × Tok → L) (hf : ∀ p, f p = p.1.cps.toList) : ∀ (r : List (Str × Tok)), norm (r.map f) = ((r.dropLast.filter full) ++ r.drop (r.length - 1)).map f
  | [] => rfl
  | [a] => rfl
  | a :: b :: t => by
    have ih := norm_eq f hf (b :: t)
    have e0 : f a = [] ↔ full a = false := by
      rw [hf]; simp only [full, bne_eq_false_iff_eq]
      rw [← List.length_eq_zero_iff]; simp [Str.length]
    rw [List.map_cons, List.map_cons, norm, ← List.map_cons, ih]
    have e1 : (a :: b :: t).drop ((a :: b :: t).length - 1) = (b :: t).drop ((b :: t).length - 1) := by simp
    rw [e1, show (a :: b :: t).dropLast = a :: (b :: t).dropLast from rfl, List.filter_cons]
    by_cases h : full a = true
    · rw [if_neg (by rw [e0, h]; simp), if_pos h]; rfl
    · rw [if_pos (by rw [e0]; simpa using h), if_neg h]
theorem pick_le {α : Type} (l : List α) (lo hi : Option Int) : (pickT l lo hi).length ≤ l.length := by
  simp only [pickT, List.length_take, List.length_drop]; omega
theorem pick_1 {α : Type} (a : α) (r : List α) : pickT (a :: r) none (some 1) = [a] := by
  simp [pickT, kms_lo, kms_hi]
theorem pick_2 {α : Type} (a : α) (r : List α) : pickT (a :: r) (some 1) (some (-1)) = r.dropLast := by
  have : kms_hi (some (-1)) (a :: r).length = r.length := by simp [kms_hi]
  rw [pickT, this]
  simp [kms_lo, List.dropLast_eq_take]
theorem pick_3 {α : Type} (a : α) (r : List α) : pickT (pickT (a :: r) (some 1) none) (some (-1)) none = r.drop (r.length - 1) := by
  have e : pickT (a :: r) (some 1) none = r := by simp [pickT, kms_lo, kms_hi]
  rw [e]
  have : kms_lo (some (-1)) r.length = r.length - 1 := by simp [kms_lo]
  rw [pickT, this]
  rw [show kms_hi none r.length = r.length from rfl]; exact List.take_of_length_le (by simp)
theorem pieces_runs {x : Str} {l : List (Str × Tok)} (f : Str × Tok → L) (hf : ∀ p, f p = p.1.cps.toList) (h : l.map (·.1) = Txt.split x (Str.ofString "*")) : ∃ p0 pr, pickT l none (some 1) ++ (pickT l (some 1) (some (-1))).filter full ++ pickT (pickT l (some 1) none) (some (-1)) none = p0 :: pr ∧ (f p0, pr.map f) = runs x.cps.toList ∧ ∀ p ∈ p0 :: pr, p ∈ l := by
  obtain ⟨p0, pr, rfl, h1⟩ := cut_split h
  refine ⟨p0, pr.dropLast.filter full ++ pr.drop (pr.length - 1), ?_, ?_, ?_⟩
  · rw [pick_1, pick_2, pick_3]; rfl
  · rw [runs_cut, h1, hf]
    dsimp only
    rw [← norm_eq f hf, show (List.map (fun y => y.1.cps.toList) pr) = pr.map f from List.map_congr_left fun p _ => (hf p).symm]
  · intro p hp
    rcases List.mem_cons.mp hp with rfl | hp
    · simp
    · rcases List.mem_append.mp hp with h | h
      · exact List.mem_cons_of_mem _ ((List.dropLast_sublist _).subset (List.mem_filter.mp h).1)
      · exact List.mem_cons_of_mem _ (List.mem_of_mem_drop h)
end
section
open PySem PySem.W PyProof.Rows PySem.Builtin.Str
theorem lo_le (lo : Option Int) (n : Nat) : kms_lo lo n ≤ n := by
  unfold kms_lo
  split
  · exact Nat.zero_le _
  · split <;> lia
theorem hi_le (hi : Option Int) (n : Nat) : kms_hi hi n ≤ n := by
  unfold kms_hi
  split
  · exact Nat.le_refl _
  · split <;> lia
theorem range1 (a b : Nat) : sliceRange (a : Int) (b : Int) 1 = sliceRange (a : Int) ((max a b : Nat) : Int) 1 := by
  by_cases h : a ≤ b
  · rw [Nat.max_eq_right h]
  · have e : max a b = a := by lia
    rw [e]
    simp only [sliceRange, show (1 : Int) > 0 by decide, if_true, show ¬ ((a : Int) < (b : Int)) by lia, if_false, Int.lt_irrefl]
theorem slice_cps (x : Str) (lo hi : Option Int) : (Txt.slice x lo hi).cps.toList = (x.cps.toList.drop (kms_lo lo x.length)).take (kms_hi hi x.length - kms_lo lo x.length) := by
  generalize ha : kms_lo lo x.length = a
  generalize hb : kms_hi hi x.length = b
  have h1 : a ≤ x.length := by rw [← ha]; exact lo_le _ _
  have h2 : b ≤ x.length := by rw [← hb]; exact hi_le _ _
  have key : ∀ (lo hi : Option Int), kms_lo lo x.length = a → ∀ c, kms_hi hi x.length = c → strSliceIndices lo hi 1 x.length = sliceRange (a : Int) (c : Int) 1 := by
    intro lo hi e1 c e2
    show sliceRange (sliceBounds lo hi none x.length).1 (sliceBounds lo hi none x.length).2.1 1 = _
    rw [kms_bounds, e1, e2]
  have e : Txt.slice x lo hi = Txt.slice x (some (a : Int)) (some ((max a b : Nat) : Int)) := by
    unfold Txt.slice
    rw [key lo hi ha b hb, key (some (a : Int)) (some ((max a b : Nat) : Int)) (by simp only [kms_lo]; rw [if_neg (by lia), Int.toNat_natCast]; lia) (max a b) (by simp only [kms_hi]; rw [if_neg (by lia)]; lia), ← range1]
  rw [e, beq_iff_eq.mp (slice_closesL (by lia) (by lia) (by lia))]
  show List.take _ (List.drop (a : Int).toNat _) = _
  rw [Int.toNat_natCast]
  congr 1
  lia
theorem slice_mid (x : Str) (i j : Nat) : (Txt.slice x (some (i : Int)) (some ((i : Int) + (j : Int)))).cps.toList = (x.cps.toList.drop i).take j := by
  have hx : x.cps.toList.length = x.length := by simp [Str.length]
  rw [slice_cps, show kms_lo (some (i : Int)) x.length = min i x.length by simp only [kms_lo]; rw [if_neg (by lia)]; lia, show kms_hi (some ((i : Int) + (j : Int))) x.length = min (i + j) x.length by simp only [kms_hi]; rw [if_neg (by lia)]; lia]
  by_cases h : i ≤ x.length
  · rw [Nat.min_eq_left h]
    by_cases h2 : i + j ≤ x.length
    · rw [Nat.min_eq_left h2, show i + j - i = j by lia]
    · rw [Nat.min_eq_right (by lia), List.take_of_length_le (by rw [List.length_drop, hx]; lia), List.take_of_length_le (by rw [List.length_drop, hx]; lia)]
  · rw [Nat.min_eq_right (by lia), List.drop_eq_nil_of_le (by lia), List.drop_eq_nil_of_le (by lia)]; simp
def bad : L := [91, 40, 41, 42, 43, 63, 123, 125, 124, 94, 36]
def rd : Nat → L → List (Nat × L) → Nat → L → Option (List (Nat × L))
  | _, [], done, k, Z => some (done ++ [(k, Z)])
  | 0, _ :: _, _, _, _ => none
  | n + 1, c :: t, done, k, Z =>
    if (c :: t).take 6 = [40, 63, 62, 46, 42, 63] then rd n ((c :: t).drop 6) (done ++ [(k, Z)]) 2 []
    else if (c :: t).take 2 = [46, 42] then rd n ((c :: t).drop 2) (done ++ [(k, Z)]) 1 []
    else if c = 41 ∧ k = 2 then rd n t (done ++ [(k, Z)]) 0 []
    else if c = 46 then rd n t done k (Z ++ [63])
    else if c ∈ bad then none
    else if c = 92 then (if t.take 1 = [] ∨ t.take 1 = [63] then none else rd n (t.drop 1) done k (Z ++ t.take 1))
    else rd n t done k (Z ++ [c])
theorem head2 (S : L) (h : S.head? ≠ some 42) : (46 :: S).take 2 ≠ [46, 42] := by
  cases S with
  | nil => simp
  | cons d r => simp at h ⊢; exact h
theorem bad_special : ∀ c ∈ bad, specials.contains c = true := by decide
theorem rd_one (c : Nat) (S : L) (h : S.head? ≠ some 42) (n : Nat) (done : List (Nat × L)) (k : Nat) (Z : L) : rd (n + 1) (one c ++ S) done k Z = rd n S done k (Z ++ [c]) := by
  unfold one
  split
  · next e =>
    subst e
    have := head2 S h
    show rd (n + 1) (46 :: S) done k Z = _
    rw [rd, if_neg (by simp), if_neg this, if_neg (by simp), if_pos rfl]
  · next e =>
    unfold esc
    split
    · show rd (n + 1) (92 :: c :: S) done k Z = _
      rw [rd, if_neg (by simp), if_neg (by simp), if_neg (by simp), if_neg (by simp), if_neg (by decide), if_pos rfl, if_neg (by simp [e])]
      rfl
    · next g =>
      have h1 : ∀ d, specials.contains d = true → c ≠ d := fun d hd q => g (q ▸ hd)
      show rd (n + 1) (c :: S) done k Z = _
      rw [rd, if_neg (by simp [h1 40 (by decide)]), if_neg (by simp [h1 46 (by decide)]), if_neg (by simp [h1 41 (by decide)]), if_neg (h1 46 (by decide)), if_neg (fun q => g (bad_special _ q)), if_neg (h1 92 (by decide))]
theorem one_head (c : Nat) (S : L) : (one c ++ S).head? ≠ some 42 := by
  unfold one
  split
  · simp
  · unfold esc
    split
    · simp
    · next g =>
      intro q
      simp at q
      exact g (q ▸ by decide)
theorem cod_head2 (r S : L) (h : S.head? ≠ some 42) : (cod r ++ S).head? ≠ some 42 := by
  cases r with
  | nil => exact h
  | cons c r => rw [show cod (c :: r) ++ S = one c ++ (cod r ++ S) by simp [cod]]; exact one_head _ _
theorem rd_run : ∀ (r S : L) (n : Nat) (done : List (Nat × L)) (k : Nat) (Z : L), S.head? ≠ some 42 → rd (n + r.length) (cod r ++ S) done k Z = rd n S done k (Z ++ r)
  | [], S, n, done, k, Z, h => by simp [cod]
  | c :: r, S, n, done, k, Z, h => by
    rw [show cod (c :: r) ++ S = one c ++ (cod r ++ S) by simp [cod], show n + (c :: r).length = (n + r.length) + 1 by simp; lia, rd_one _ _ (cod_head2 r S h), rd_run r S n done k _ h]
    simp
def partsT : List L → List (Nat × L)
  | [] => []
  | [X] => [(1, X)]
  | X :: Y :: r => (2, X) :: (0, []) :: partsT (Y :: r)
theorem tjT_head : ∀ l, (tjT l).head? ≠ some 42
  | [] => by simp [tjT]
  | [X] => by simp [tjT]
  | X :: Y :: r => by simp [tjT]
theorem rd_T : ∀ (l : List L) (done : List (Nat × L)) (k : Nat) (Z : L), ∃ n, rd n (tjT l) done k Z = some (done ++ (k, Z) :: partsT l)
  | [], done, k, Z => ⟨0, rfl⟩
  | [X], done, k, Z => by
    refine ⟨0 + X.length + 1, ?_⟩
    rw [tjT, rd, if_neg (by simp), if_pos rfl]
    show rd (0 + X.length) (cod X) _ _ _ = _
    rw [show cod X = cod X ++ [] by simp, rd_run _ _ _ _ _ _ (by simp)]
    simp [rd, partsT]
  | X :: Y :: r, done, k, Z => by
    obtain ⟨n, h⟩ := rd_T (Y :: r) (done ++ [(k, Z)] ++ [(2, X)]) 0 []
    refine ⟨(n + 1) + X.length + 1, ?_⟩
    rw [tjT, rd, if_pos (by simp)]
    show rd ((n + 1) + X.length) (cod X ++ 41 :: tjT (Y :: r)) _ _ _ = _
    rw [rd_run _ _ _ _ _ _ (by simp), rd, if_neg (by simp), if_neg (by simp), if_pos ⟨rfl, rfl⟩, List.nil_append, h]
    simp [partsT]
theorem rd_told (Y : L) : ∃ n, rd n (cod (runs Y).1 ++ tjT (runs Y).2) [] 0 [] = some ((0, (runs Y).1) :: partsT (runs Y).2) := by
  obtain ⟨n, h⟩ := rd_T (runs Y).2 [] 0 (runs Y).1
  exact ⟨n + (runs Y).1.length, by rw [rd_run _ _ _ _ _ _ (tjT_head _), List.nil_append, h]; rfl⟩
theorem takesP_T : ∀ (l : List L) (t : L), takesP (partsT l) t = takesT l t
  | [], t => rfl
  | [X], t => by
    show (match stepP (1, X) t with | none => false | some t' => takesP [] t') = _
    rw [takesT]
    show (match (if decide (X.length ≤ t.length) && fit X (t.drop (t.length - X.length)) then some [] else none : Option L) with | none => false | some t' => takesP [] t') = _
    split <;> next h => split at h <;> simp_all [takesP]
  | X :: Y :: r, t => by
    have e : takesP (partsT (X :: Y :: r)) t = match find X t with | none => false | some t' => takesP (partsT (Y :: r)) t' := by
      show (match find X t with | none => false | some t' => takesP ((0, []) :: partsT (Y :: r)) t') = _
      cases find X t with
      | none => rfl
      | some t' => rfl
    rw [e, takesT]
    cases find X t with
    | none => rfl
    | some t' => exact takesP_T (Y :: r) t'
theorem takesP_takes (p : L × List L) (t : L) : takesP ((0, p.1) :: partsT p.2) t = takes p t := by
  show (match (if fit p.1 t then some (t.drop p.1.length) else none : Option L) with | none => false | some t' => takesP (partsT p.2) t') = _
  unfold takes
  cases fit p.1 t with
  | false => rfl
  | true => exact takesP_T _ _
theorem partsT_kinds : ∀ (l : List L), (∀ p ∈ partsT l, p.1 ≤ 2) ∧ (∀ p ∈ (partsT l).dropLast, p.1 ≠ 1) ∧ ∀ p, (partsT l).getLast? = some p → p.1 = 1
  | [] => by simp [partsT]
  | [X] => by simp [partsT]
  | X :: Y :: r => by
    obtain ⟨h1, h2, h3⟩ := partsT_kinds (Y :: r)
    have hne : partsT (Y :: r) ≠ [] := by cases r <;> simp [partsT]
    refine ⟨?_, ?_, ?_⟩
    · simp [partsT]; intro a b hab; exact h1 _ hab
    · rw [partsT, List.dropLast_cons_of_ne_nil (by simp), List.dropLast_cons_of_ne_nil hne]
      intro p hp
      simp only [List.mem_cons] at hp
      rcases hp with rfl | rfl | hp
      · simp
      · simp
      · exact h2 p hp
    · intro p hp
      refine h3 p ?_
      rw [partsT] at hp
      rwa [List.getLast?_cons_of_ne_nil (by simp), List.getLast?_cons_of_ne_nil hne] at hp
theorem full_kinds (r0 : L) (l : List L) : (∀ p ∈ (0, r0) :: partsT l, p.1 ≤ 2) ∧ (∀ p ∈ ((0, r0) :: partsT l).dropLast, p.1 ≠ 1) ∧ ∀ p, ((0, r0) :: partsT l).getLast? = some p → p.1 ≠ 2 := by
  obtain ⟨h1, h2, h3⟩ := partsT_kinds l
  refine ⟨?_, ?_, ?_⟩
  · simp; intro a b hab; exact h1 _ hab
  · cases e : partsT l with
    | nil => simp
    | cons a r =>
      rw [← e, List.dropLast_cons_of_ne_nil (by rw [e]; simp)]
      intro p hp
      rcases List.mem_cons.mp hp with rfl | hp
      · simp
      · exact h2 p hp
  · intro p hp
    cases e : partsT l with
    | nil => rw [e] at hp; simp at hp; rw [← hp]; simp
    | cons a r =>
      rw [List.getLast?_cons_of_ne_nil (by rw [e]; simp)] at hp
      rw [h3 p hp]; decide
end
section
open PySem.Calls
section
variable {prog : Program} {w : World} {A : Around} {E : Value → Shared → Prop} {s : Shared} {h₀ : Heap} {L : Addr} {m : Str → Option Value} {env : Env}
def SrcS (prog : Program) (w : World) (A : Around) (h₀ : Heap) (L : Addr) (m : Str → Option Value) (env : Env) (elt : Expr) (x : Str) (scope : Scope) (cl : List (Str × Addr)) (Fin : Shared → List Value → List (Addr × Obj) → Prop) (xv : Value) (s₁ : Shared) : Prop :=
  ∃ y t news, xv = .str y t ∧ A.handled = none ∧ Fr h₀ L s₁.heap m ∧ News h₀ L s₁.heap news ∧ y.cps.all (· < 128) = true ∧ y.cps.size ≤ sizeLine ∧
    ∀ s₂ : Shared, (∃ h, s₂ = { s₁ with heap := h }) → LCg.CompRest prog w A h₀ L m env elt x scope cl s₂ (fun _ => True) (SignAt y) (Fin s₂) y.cps.size 0 [] news
theorem SrcS.intro {elt : Expr} {x : Str} {scope : Scope} {cl : List (Str × Addr)} {Fin : Shared → List Value → List (Addr × Obj) → Prop} {y : Str} {t : Tok} {news : List (Addr × Obj)} {s₁ : Shared}
    (hh : A.handled = none) (F : Fr h₀ L s₁.heap m) (N : News h₀ L s₁.heap news) (ha : y.cps.all (· < 128) = true) (hsz : y.cps.size ≤ sizeLine)
    (h : ∀ g, LCg.CompRest prog w A h₀ L m env elt x scope cl { s₁ with heap := g } (fun _ => True) (SignAt y) (Fin { s₁ with heap := g }) y.cps.size 0 [] news) :
    SrcS prog w A h₀ L m env elt x scope cl Fin (.str y t) s₁ := ⟨y, t, news, rfl, hh, F, N, ha, hsz, fun _ ⟨g, e⟩ => e ▸ h g⟩
theorem ListComp_S {elt iter : Expr} {x : Str} {px : Pos} {scope : Scope} {cl : List (Str × Addr)} {pos : Pos} {Q : Value → Shared → Prop} (F₀ : Fr h₀ L s.heap m)
    (hclos : closureFor scope env = pure cl) (hcell : ∀ y ∈ scope.names, y.2 ≠ .cell) (hkind : scope.kind = .function)
    (hnames : ∀ y ∈ scope.names, y.2 = .local → scope.names.lookup y.1 = some .local) (hx : scope.names.lookup x = some .local)
    (h : wpAny (model prog w) A (eval iter env) (SrcS prog w A h₀ L m env elt x scope cl (fun s₂ => LCg.FinE h₀ L m s₂ Q)) E s)
    (hs : ∀ x, foldedSetIterable iter env x = pure x := by intro _; rfl) :
    wpAny (model prog w) A (eval (.ListComp elt [⟨.Name x px, iter, [], 0⟩] scope pos) env) Q E s := by
  rw [eval_ListComp]
  refine wpAny_comprehension_free (use := none) rfl hs hclos hkind hnames (wpAny_mono h (fun xv s₁ h₁ => ?_) fun _ _ e => e)
  obtain ⟨y, t, news, rfl, hh, F, N, ha, hsz, R⟩ := h₁
  refine wpAny_pyIter_ascii ha ?_
  have up : ∀ (o : Obj) b o', s₁.heap.get? b = some o' → (s₁.heap.push o).get? b = some o' := fun o b o' e => Heap.get?_push_of_some _ e
  refine LCg.block_U (Walks.strAscii hh s₁.heap.objs.size y t) hsz (fun i h st => by obtain ⟨o, e, _⟩ := st; exact ⟨o, e⟩) (fun i h h' o nw st e e' _ _ _ => by obtain ⟨o', q, r⟩ := st; rw [e] at q; cases q; exact ⟨o, e', r⟩) hcell hkind hx ⟨_, Heap.get?_push_size _ rfl, rfl, rfl⟩ (fun b hb => ?_)
      (F.keeps (up _)) (N.grown (up _)) (Nat.ne_of_lt F.ns.lt) (next_is_new F) (fun p hp => Nat.ne_of_lt (Heap.lt_size (N p hp).1)) trivial (R _ ⟨_, rfl⟩) ?_
  · rw [List.mem_singleton.mp hb]
    show s₁.heap.objs.size < (s₁.heap.push _).objs.size
    rw [Heap.size_push]; exact Nat.lt_succ_self _
  · intro D C h tk m' ys news' F' N' o1 hn hC₀ hD₀ hCL hDL hCD offC fin
    refine ⟨m', hn, fun h'' hs'' => fin D h'' tk (F'.change hs'' hCL hC₀) (fun p hp => ?_) o1⟩
    refine ⟨hs''.extBut _ _ ?_ (N' p hp).1, (N' p hp).2⟩
    rcases List.mem_cons.mp hp with rfl | hp
    · exact Ne.symm hCD
    · exact offC p hp
end
end
section
def wt (p : L × List L) : Nat := 2 * p.1.length + (p.2.map fun r => 2 * r.length + 7).sum
theorem runs_wt : ∀ x : L, wt (runs x) ≤ 7 * x.length
  | [] => Nat.le_refl _
  | c :: r => by
    have ih := runs_wt r
    unfold runs
    by_cases h : c = 42
    · rw [if_pos h]
      split
      · simp only [wt, List.length_nil, List.length_cons] at ih ⊢; lia
      · simp only [wt, List.length_nil, List.length_cons, List.map_cons, List.sum_cons] at ih ⊢; lia
    · rw [if_neg h]
      simp only [wt, List.length_cons] at ih ⊢; lia
theorem one_len2 (c : Nat) : (one c).length ≤ 2 := by
  unfold one esc
  repeat' split
  all_goals first | decide | exact Nat.le_refl _ | (simp)
theorem cod_len : ∀ r : L, (cod r).length ≤ 2 * r.length
  | [] => Nat.le_refl _
  | c :: r => by
    rw [cod_cons, List.length_append, List.length_cons]
    have := cod_len r
    have := one_len2 c
    lia
theorem tjT_len : ∀ l : List L, (tjT l).length ≤ (l.map fun r => 2 * r.length + 7).sum
  | [] => Nat.le_refl _
  | [X] => by
    have := cod_len X
    simp only [tjT, List.length_cons, List.map_cons, List.map_nil, List.sum_cons, List.sum_nil]; lia
  | X :: Y :: r => by
    have ih := tjT_len (Y :: r)
    have := cod_len X
    rw [List.map_cons, List.sum_cons]
    have e : (tjT (X :: Y :: r)).length = 6 + ((cod X).length + (1 + (tjT (Y :: r)).length)) := by simp [tjT]; lia
    lia
theorem told_len (x : L) : (told x).length ≤ 7 * x.length + 7 := by
  have h := runs_wt x
  have h1 := cod_len (runs x).1
  have h2 := tjT_len (runs x).2
  have e : (told x).length = 4 + ((cod (runs x).1).length + ((tjT (runs x).2).length + 3)) := by simp [told]; lia
  unfold wt at h
  lia
theorem sum_mem {l : List Nat} {a : Nat} (h : a ∈ l) : a ≤ l.sum := by
  induction l with
  | nil => cases h
  | cons b l ih =>
    rw [List.sum_cons]
    rcases List.mem_cons.mp h with rfl | h
    · lia
    · have := ih h; lia
theorem parts_small (Y : L) : ∀ p ∈ (0, (runs Y).1) :: partsT (runs Y).2, p.1 ≤ 2 ∧ p.2.length ≤ 7 * Y.length := by
  have h := runs_wt Y
  unfold wt at h
  have h2 : ∀ l : List L, ∀ p ∈ partsT l, p.2 ∈ l ∨ p.2 = [] := by
    intro l
    induction l with
    | nil => intro p hp; cases hp
    | cons X l ih =>
      intro p hp
      cases l with
      | nil =>
        simp only [partsT, List.mem_singleton] at hp
        rw [hp]; exact .inl (.head _)
      | cons Y r =>
        simp only [partsT, List.mem_cons] at hp
        rcases hp with rfl | rfl | hp
        · exact .inl (.head _)
        · exact .inr rfl
        · rcases ih p hp with h | h
          · exact .inl (.tail _ h)
          · exact .inr h
  intro p hp
  refine ⟨(full_kinds (runs Y).1 (runs Y).2).1 p hp, ?_⟩
  rcases List.mem_cons.mp hp with rfl | hp
  · show (runs Y).1.length ≤ _; lia
  · rcases h2 _ p hp with h4 | h4
    · have h3 := sum_mem (List.mem_map_of_mem (f := fun r : L => 2 * r.length + 7) h4)
      lia
    · rw [h4]; exact Nat.zero_le _
theorem okk_plain {x : L} (h : okk x) : 91 ∉ x ∧ ∀ c ∈ x, c < 128 :=
  ⟨fun q => absurd (h 91 q) (by decide), fun c hc => (by decide : ∀ c ∈ toks, c < 128) c (h c hc)⟩
theorem okt_plain {x : L} (h : okt x) : 91 ∉ x ∧ ∀ c ∈ x, c < 128 :=
  ⟨fun q => by rcases h 91 q with e | e <;> revert e <;> decide, fun c hc => by
    rcases h c hc with e | e
    · lia
    · exact (by decide : ∀ c ∈ signs, c < 128) c e⟩
theorem word_plain {x : L} (h : okk x) : 91 ∉ word x ∧ ∀ c ∈ word x, c < 128 := by
  have hcc : ∀ c ∈ toks, ∀ d ∈ cc c, d < 128 ∧ d ≠ 91 := by decide
  have g : ∀ d ∈ word x, d < 128 ∧ d ≠ 91 := by
    intro d hd
    unfold word at hd
    rcases List.mem_append.mp hd with hd | hd
    · exact (by decide : ∀ d ∈ FR, d < 128 ∧ d ≠ 91) d hd
    · rcases List.mem_append.mp hd with hd | hd
      · obtain ⟨c, hc, h2⟩ := List.mem_flatMap.mp hd
        exact hcc c (h c hc) d h2
      · exact (by decide : ∀ d ∈ E2, d < 128 ∧ d ≠ 91) d hd
  exact ⟨fun q => (g 91 q).2 rfl, fun c hc => (g c hc).1⟩
end
section
def qC : Array Nat := #[14, 8, 1, 3, 3, 1, 1, 61, 0, 16, 61, 24, 16, 2, 2, 13, 11, 9, 0, 67043328, 126, 126, 0, 0, 0, 0, 0, 1, 1]
def hex (c : Nat) : Bool := (48 ≤ c && c ≤ 57) || (65 ≤ c && c ≤ 70) || (97 ≤ c && c ≤ 102)
open Sre in
theorem set_eq (c : Nat) (seen : Sre.Seen) : inSet qC c 29 17 true seen = if hex c = true then .ok (true, seen.add 9) else .ok (false, (seen.add 9).add 0) := by
  have e : inSet qC c 29 17 true seen = if (decide (c < 256) && (qC.getD (17 + (1 + c / 32)) 0).testBit (c % 32)) = true then .ok (true, seen.add 9) else .ok (false, (seen.add 9).add 0) := rfl
  have h : (decide (c < 256) && (qC.getD (17 + (1 + c / 32)) 0).testBit (c % 32)) = hex c := by
    by_cases q : c < 256
    · have : ∀ c : Nat, c < 256 → (decide (c < 256) && (qC.getD (17 + (1 + c / 32)) 0).testBit (c % 32)) = hex c := by decide +kernel
      exact this c q
    · rw [decide_eq_false q]
      simp only [hex, Bool.false_and]
      symm
      simp only [Bool.or_eq_false_iff, Bool.and_eq_false_iff, decide_eq_false_iff_not]
      lia
  rw [e, h]
open Sre in
theorem acc_eq (c : Nat) (seen : Sre.Seen) : accepts qC 15 c seen = if hex c = true then .ok (true, seen.add 9) else .ok (false, (seen.add 9).add 0) := set_eq c seen
def stepN : Nat → Sre.M → Sre.M
  | 0, m => m
  | n + 1, m => stepN n m.step
theorem stepN_add (a b : Nat) (m : Sre.M) : stepN (a + b) m = stepN b (stepN a m) := by
  induction a generalizing m with
  | zero => rw [Nat.zero_add]; rfl
  | succ a ih => rw [Nat.succ_add]; exact ih _
theorem step_end {m : Sre.M} (h : m.outcome.isSome = true) : m.step = m := by unfold Sre.M.step; rw [if_pos h]
theorem stepN_end {m : Sre.M} (h : m.outcome.isSome = true) (n : Nat) : stepN n m = m := by
  induction n with
  | zero => rfl
  | succ n ih => rw [stepN, step_end h, ih]
theorem runFor_eq (n : Nat) (m : Sre.M) : Sre.M.runFor n m = stepN n m := by
  induction n generalizing m with
  | zero => rfl
  | succ n ih =>
    unfold Sre.M.runFor
    by_cases h : m.outcome.isSome = true
    · rw [if_pos h, stepN_end h]
    · rw [if_neg h, ih]; rfl
open Sre in
/-- the machine as an attempt at s begins -/
def mAt (T : Array Nat) (s : Nat) (o : Bool) (hd : Nat) (seen : Sre.Seen) : M :=
  { code := qC, text := T, lim := T.size, start := s, lastStart := T.size, pc := 9, pos := s, handed := hd, outermost := o, marks := #[], frames := [{ wait := .nextStart, pc := 9, pos := s, outermost := o }], weight := 1, seen }
open Sre in
theorem search_eq (T : Array Nat) (p : Nat) (h : 3 ≤ T.size - p) : forSearch qC T 0 p T.size false = mAt T p true p (({} : Sre.Seen).add 14) := by
  unfold forSearch
  have e : (header qC).1 = 3 := rfl
  rw [e]
  dsimp only
  rw [if_neg (by simp; lia)]
  rfl
open Sre in
theorem search_short (T : Array Nat) (p : Nat) (h : T.size - p < 3) : ∃ m', stepN 1 (forSearch qC T 0 p T.size false) = m' ∧ m'.outcome = some .failed := by
  refine ⟨_, rfl, ?_⟩
  unfold forSearch
  have e : (header qC).1 = 3 := rfl
  rw [e]
  dsimp only
  rw [if_pos (by simp; lia)]
  rfl
def two : L → Bool
  | a :: b :: _ => hex a && hex b
  | _ => false
/-- from here: where the next code lies -/
def nextM : L → Option Nat
  | [] => none
  | c :: t => if c = 61 ∧ two t = true then some 0 else (nextM t).map (· + 1)
open Sre in
theorem att_hit {T : Array Nat} {s : Nat} {o : Bool} {hd : Nat} {seen : Sre.Seen} {a b : Nat} {t : L} (h : T.toList.drop s = 61 :: a :: b :: t) (ha : hex a = true) (hb : hex b = true) :
    ∃ m', stepN 6 (mAt T s o hd seen) = m' ∧ m'.outcome = some .matched ∧ m'.start = s ∧ m'.handed = s + 3 ∧ m'.lastmark = -1 ∧ m'.lastindex = -1 ∧ m'.marks = #[] := by
  have g : ∀ j x, (61 :: a :: b :: t)[j]? = some x → T.getD (s + j) 0 = x := by
    intro j x e
    rw [← h, List.getElem?_drop, Array.getElem?_toList] at e
    rw [Array.getD_eq_getD_getElem?, e]; rfl
  have hl : s + 3 ≤ T.size := by
    have := congrArg List.length h
    simp only [List.length_drop, Array.length_toList, List.length_cons] at this
    lia
  have g0 : T.getD s 0 = 61 := g 0 61 rfl
  have g1 : T.getD (s + 1) 0 = a := g 1 a rfl
  have g2 : T.getD (s + 1 + 1) 0 = b := g 2 b rfl
  have e1 : (mAt T s o hd seen).step = { mAt T s o hd seen with pc := 11, pos := s + 1, seen := seen.add 16 } := by
    have e : (mAt T s o hd seen).step = if s ≥ T.size then ({ mAt T s o hd seen with seen := seen.add 16 } : M).say false else
      match (Except.ok (T.getD s 0 == 61, seen.add 16) : Except String (Bool × Sre.Seen)) with
      | .error why => ({ mAt T s o hd seen with seen := seen.add 16 } : M).stick why
      | .ok (false, seen) => { mAt T s o hd seen with seen := seen, answer := some false }
      | .ok (true, seen) => { mAt T s o hd seen with seen, pc := 9 + 2, pos := s + 1 } := rfl
    rw [e, if_neg (by lia), g0]
    rfl
  have e2 : ({ mAt T s o hd seen with pc := 11, pos := s + 1, seen := seen.add 16 } : M).step = { mAt T s o hd seen with pc := 28, pos := s + 1 + 2, seen := ((((seen.add 16).add 24).add 13).add 9).add 9, frames := [{ wait := .giveBack, pc := 11, pos := s + 1 + 2, outermost := o, count := 2, kept := { } }, { wait := .nextStart, pc := 9, pos := s, outermost := o }], weight := 2, handed := s + 1 + 2 } := by
    have e : ∀ sn : Sre.Seen, ({ mAt T s o hd seen with pc := 11, pos := s + 1, seen := sn } : M).step = if ((2 : Nat) : Int) > (T.size : Int) - ((s + 1 : Nat) : Int) then ({ mAt T s o hd seen with pc := 11, pos := s + 1, seen := sn.add 24, answer := some false } : M) else
      match run qC T 15 (min 2 ((T.size : Int) - ((s + 1 : Nat) : Int)).toNat) (s + 1) 0 ((sn.add 24).add 13) with
      | .error why => ({ mAt T s o hd seen with pc := 11, pos := s + 1, seen := sn.add 24 } : M).stick why
      | .ok (n, seen') => if n < 2 then ({ mAt T s o hd seen with pc := 11, pos := s + 1, seen := seen' } : M).say false else ({ mAt T s o hd seen with pc := 11, pos := s + 1 + n, seen := seen' } : M).afterRun .giveBack n (({ mAt T s o hd seen with pc := 11, pos := s + 1 + n, seen := seen' } : M).keep false) := fun _ => rfl
    rw [e, if_neg (by lia), show min 2 ((T.size : Int) - ((s + 1 : Nat) : Int)).toNat = 2 by lia]
    have r : ∀ sn : Sre.Seen, run qC T 15 2 (s + 1) 0 sn = .ok (2, (sn.add 9).add 9) := by
      intro sn
      have r0 : ∀ sn : Sre.Seen, run qC T 15 2 (s + 1) 0 sn = (accepts qC 15 (T.getD (s + 1) 0) sn >>= fun x => if x.1 = true then (accepts qC 15 (T.getD (s + 1 + 1) 0) x.2 >>= fun x => if x.1 = true then run qC T 15 0 (s + 1 + 1 + 1) (0 + 1 + 1) x.2 else pure (0 + 1, x.2)) else pure (0, x.2)) := fun _ => rfl
      rw [r0, g1, acc_eq, if_pos ha]
      show (accepts qC 15 (T.getD (s + 1 + 1) 0) (sn.add 9) >>= fun x => if x.1 = true then run qC T 15 0 (s + 1 + 1 + 1) (0 + 1 + 1) x.2 else pure (0 + 1, x.2)) = _
      rw [g2, acc_eq, if_pos hb]
      rfl
    rw [r]
    rfl
  refine ⟨_, rfl, ?_⟩
  rw [show stepN 6 (mAt T s o hd seen) = stepN 4 ((mAt T s o hd seen).step).step from rfl, e1, e2]
  cases o <;> exact ⟨rfl, rfl, by show s + 1 + 2 = s + 3; rfl, rfl, rfl, rfl⟩
theorem att_fail {T : Array Nat} {s : Nat} {o : Bool} {hd : Nat} {seen : Sre.Seen} (h : T.size ≤ s) : (stepN 3 (mAt T s o hd seen)).outcome = some .failed := by
  have e : (mAt T s o hd seen).step = if s ≥ T.size then { mAt T s o hd seen with seen := seen.add 16, answer := some false } else
      match (Except.ok (T.getD s 0 == 61, seen.add 16) : Except String (Bool × Sre.Seen)) with
      | .error why => ({ mAt T s o hd seen with seen := seen.add 16 } : Sre.M).stick why
      | .ok (false, seen) => { mAt T s o hd seen with seen := seen, answer := some false }
      | .ok (true, seen) => { mAt T s o hd seen with seen, pc := 9 + 2, pos := s + 1 } := rfl
  have e2 : ∀ sn, ({ mAt T s o hd seen with seen := sn, answer := some false } : Sre.M).step = if s < T.size then mAt T (s + 1) false (s + 1) sn else { mAt T s o hd sn with answer := some false, frames := [], weight := 0 } := fun _ => rfl
  show ((mAt T s o hd seen).step.step.step).outcome = _
  rw [e, if_pos h, e2, if_neg (by lia)]
  rfl
open Sre in
theorem att_miss {T : Array Nat} {s : Nat} {o : Bool} {hd : Nat} {seen : Sre.Seen} {c : Nat} {t : L} (h : T.toList.drop s = c :: t) (hn : ¬ (c = 61 ∧ two t = true)) :
    ∃ k seen', k ≤ 3 ∧ stepN k (mAt T s o hd seen) = mAt T (s + 1) false (s + 1) seen' := by
  have g : ∀ j x, (c :: t)[j]? = some x → T.getD (s + j) 0 = x := by
    intro j x e
    rw [← h, List.getElem?_drop, Array.getElem?_toList] at e
    rw [Array.getD_eq_getD_getElem?, e]; rfl
  have hl : s + (t.length + 1) = T.size := by
    have := congrArg List.length h
    simp only [List.length_drop, Array.length_toList, List.length_cons] at this
    lia
  have g0 : T.getD s 0 = c := g 0 c rfl
  have e : (mAt T s o hd seen).step = if s ≥ T.size then { mAt T s o hd seen with seen := seen.add 16, answer := some false } else
      match (Except.ok (T.getD s 0 == 61, seen.add 16) : Except String (Bool × Sre.Seen)) with
      | .error why => ({ mAt T s o hd seen with seen := seen.add 16 } : Sre.M).stick why
      | .ok (false, seen) => { mAt T s o hd seen with seen := seen, answer := some false }
      | .ok (true, seen) => { mAt T s o hd seen with seen, pc := 11, pos := s + 1 } := rfl
  have e2 : ∀ sn pc pos, ({ mAt T s o hd seen with pc := pc, pos := pos, seen := sn, answer := some false } : Sre.M).step = if s < T.size then mAt T (s + 1) false (s + 1) sn else { mAt T s o hd sn with answer := some false, frames := [], weight := 0 } := fun _ _ _ => rfl
  by_cases hc : c = 61
  · subst hc
    have hn2 : ¬ (two t = true) := fun q => hn ⟨rfl, q⟩
    have e3 : ∀ sn : Sre.Seen, ({ mAt T s o hd seen with pc := 11, pos := s + 1, seen := sn } : M).step = if ((2 : Nat) : Int) > (T.size : Int) - ((s + 1 : Nat) : Int) then ({ mAt T s o hd seen with pc := 11, pos := s + 1, seen := sn.add 24, answer := some false } : M) else
      match run qC T 15 (min 2 ((T.size : Int) - ((s + 1 : Nat) : Int)).toNat) (s + 1) 0 ((sn.add 24).add 13) with
      | .error why => ({ mAt T s o hd seen with pc := 11, pos := s + 1, seen := sn.add 24 } : M).stick why
      | .ok (n, seen') => if n < 2 then ({ mAt T s o hd seen with pc := 11, pos := s + 1, seen := seen', answer := some false } : M) else ({ mAt T s o hd seen with pc := 11, pos := s + 1 + n, seen := seen' } : M).afterRun .giveBack n (({ mAt T s o hd seen with pc := 11, pos := s + 1 + n, seen := seen' } : M).keep false) := fun _ => rfl
    have e4 : ∃ sn', ({ mAt T s o hd seen with pc := 11, pos := s + 1, seen := seen.add 16 } : M).step = { mAt T s o hd seen with pc := 11, pos := s + 1, seen := sn', answer := some false } := by
      by_cases q : ((2 : Nat) : Int) > (T.size : Int) - ((s + 1 : Nat) : Int)
      · exact ⟨_, by rw [e3, if_pos q]⟩
      · match t, hn2, hl, g with
        | [], _, hl, _ => simp at hl; lia
        | [_], _, hl, _ => simp at hl; lia
        | a :: b :: t, hn2, hl, g =>
          have g1 : T.getD (s + 1) 0 = a := g 1 a rfl
          have g2 : T.getD (s + 1 + 1) 0 = b := g 2 b rfl
          have hn3 : ¬ ((hex a && hex b) = true) := hn2
          have r0 : ∀ sn : Sre.Seen, run qC T 15 2 (s + 1) 0 sn = (accepts qC 15 (T.getD (s + 1) 0) sn >>= fun x => if x.1 = true then (accepts qC 15 (T.getD (s + 1 + 1) 0) x.2 >>= fun x => if x.1 = true then run qC T 15 0 (s + 1 + 1 + 1) (0 + 1 + 1) x.2 else pure (0 + 1, x.2)) else pure (0, x.2)) := fun _ => rfl
          have r : ∀ sn : Sre.Seen, ∃ n sn', n < 2 ∧ run qC T 15 2 (s + 1) 0 sn = .ok (n, sn') := by
            intro sn
            rw [r0, g1, acc_eq]
            by_cases ha : hex a = true
            · rw [if_pos ha]
              have hb : ¬ (hex b = true) := fun q => hn3 (by rw [ha, q]; rfl)
              refine ⟨1, ((sn.add 9).add 9).add 0, by decide, ?_⟩
              show (accepts qC 15 (T.getD (s + 1 + 1) 0) (sn.add 9) >>= fun x => if x.1 = true then run qC T 15 0 (s + 1 + 1 + 1) (0 + 1 + 1) x.2 else pure (0 + 1, x.2)) = _
              rw [g2, acc_eq, if_neg hb]
              rfl
            · rw [if_neg ha]
              exact ⟨0, (sn.add 9).add 0, by decide, rfl⟩
          obtain ⟨n, sn', hn2, hr⟩ := r (((seen.add 16).add 24).add 13)
          refine ⟨sn', ?_⟩
          rw [e3, if_neg q, show min 2 ((T.size : Int) - ((s + 1 : Nat) : Int)).toNat = 2 by lia, hr]
          show (if n < 2 then _ else _) = _
          rw [if_pos hn2]
    obtain ⟨sn', e4⟩ := e4
    refine ⟨3, sn', by decide, ?_⟩
    show (mAt T s o hd seen).step.step.step = _
    rw [e, if_neg (by lia), g0]
    show ({ mAt T s o hd seen with pc := 11, pos := s + 1, seen := seen.add 16 } : M).step.step = _
    rw [e4, e2, if_pos (by lia)]
  · refine ⟨2, seen.add 16, by decide, ?_⟩
    show (mAt T s o hd seen).step.step = _
    rw [e, if_neg (by lia), g0, show (c == 61) = false from beq_false_of_ne hc]
    show ({ mAt T s o hd seen with seen := seen.add 16, answer := some false } : M).step = _
    exact (e2 _ 9 s).trans (if_pos (by lia))
/-- what a search hands back -/
def Found (s : Nat) (r : Option Nat) (m : Sre.M) : Prop := match r with
  | none => m.outcome = some .failed
  | some d => m.outcome = some .matched ∧ m.start = s + d ∧ m.handed = s + d + 3 ∧ m.lastmark = -1 ∧ m.lastindex = -1 ∧ m.marks = #[]
theorem Found.some {s : Nat} {r : Option Nat} {m : Sre.M} (h : Found s r m) : m.outcome.isSome = true := by
  cases r with
  | none => have : m.outcome = _ := h
            rw [this]; rfl
  | some d => rw [h.1]; rfl
theorem att_all {T : Array Nat} : ∀ (X : L) (s : Nat) (o : Bool) (hd : Nat) (seen : Sre.Seen), T.toList.drop s = X → ∃ k, k ≤ 6 * (X.length + 1) ∧ Found s (nextM X) (stepN k (mAt T s o hd seen))
  | [], s, o, hd, seen, h => by
    refine ⟨3, by simp, ?_⟩
    have hl : T.size ≤ s := by simpa using h
    exact att_fail hl
  | c :: t, s, o, hd, seen, h => by
    by_cases q : c = 61 ∧ two t = true
    · have hn : nextM (c :: t) = some 0 := by rw [nextM, if_pos q]
      rw [hn]
      obtain ⟨rfl, q2⟩ := q
      match t, q2, h with
      | a :: b :: t, q2, h =>
        have q3 : (hex a && hex b) = true := q2
        obtain ⟨m', e, h2⟩ := att_hit (o := o) (hd := hd) (seen := seen) h (Bool.and_eq_true_iff.mp q3).1 (Bool.and_eq_true_iff.mp q3).2
        exact ⟨6, by simp only [List.length_cons]; lia, by rw [e]; exact h2⟩
    · have hn : nextM (c :: t) = (nextM t).map (· + 1) := by rw [nextM, if_neg q]
      obtain ⟨k, seen', hk, e⟩ := att_miss (o := o) (hd := hd) (seen := seen) h q
      obtain ⟨k2, hk2, h2⟩ := att_all t (s + 1) false (s + 1) seen' (by rw [← List.drop_drop, h]; rfl)
      refine ⟨k + k2, by simp only [List.length_cons]; lia, ?_⟩
      rw [stepN_add, e, hn]
      cases hr : nextM t with
      | none => rw [hr] at h2; exact h2
      | some d =>
        rw [hr] at h2
        obtain ⟨x1, x2, x3, x4⟩ := h2
        exact ⟨x1, by rw [x2]; show s + 1 + d = s + (d + 1); lia, by rw [x3]; show s + 1 + d + 3 = s + (d + 1) + 3; lia, x4⟩
theorem nextM_short : ∀ {X : L}, X.length < 3 → nextM X = none
  | [], _ => rfl
  | [a], _ => by simp [nextM, two]
  | [a, b], _ => by simp [nextM, two]
  | a :: b :: c :: t, h => by simp only [List.length_cons] at h; lia
theorem search_all {T : Array Nat} {X : L} {s : Nat} (h : T.toList.drop s = X) : ∃ k, k ≤ 6 * (X.length + 1) ∧ Found s (nextM X) (stepN k (Sre.forSearch qC T 0 s T.size false)) := by
  have hl : X.length = T.size - s := by rw [← h]; simp
  by_cases q : 3 ≤ T.size - s
  · rw [search_eq T s q]
    exact att_all X s _ _ _ h
  · obtain ⟨m', e, h2⟩ := search_short T s (by lia)
    refine ⟨1, by lia, ?_⟩
    rw [e, nextM_short (by lia)]
    exact h2
end
section
/-- the sign that a code of two figures stands for (those that the law meets) -/
def valH (a b : Nat) : Option Nat := if a = 50 ∧ b = 56 then some 40 else if a = 50 ∧ b = 57 then some 41 else if a = 50 ∧ b = 69 then some 46 else if a = 51 ∧ b = 65 then some 58 else if a = 51 ∧ b = 69 then some 62 else if a = 51 ∧ b = 70 then some 63 else if a = 53 ∧ b = 67 then some 92 else none
inductive Sub : L → L → Prop
  | last {X : L} (h : nextM X = none) : Sub X X
  | step {u t r : L} {a b v : Nat} (h : nextM (u ++ 61 :: a :: b :: t) = some u.length) (hv : valH a b = some v) (k : Sub t r) : Sub (u ++ 61 :: a :: b :: t) (u ++ v :: r)
theorem Sub.skip {c : Nat} {t r : L} (h : ¬ (c = 61 ∧ two t = true)) (k : Sub t r) : Sub (c :: t) (c :: r) := by
  cases k with
  | last h2 => exact .last (by rw [nextM, if_neg h, h2]; rfl)
  | step h2 hv k => exact .step (u := c :: _) (by rw [List.cons_append, nextM, if_neg h, h2]; rfl) hv k
theorem Sub.hit {a b v : Nat} {t r : L} (ha : hex a = true) (hb : hex b = true) (hv : valH a b = some v) (k : Sub t r) : Sub (61 :: a :: b :: t) (v :: r) :=
  .step (u := []) (by rw [List.nil_append, nextM, if_pos ⟨rfl, by simp [two, ha, hb]⟩]; rfl) hv k
theorem cc_val : ∀ c ∈ toks, (cc c = [c] ∧ c ≠ 61) ∨ (cc c = [61, (cc c).getD 1 0, (cc c).getD 2 0] ∧ hex ((cc c).getD 1 0) = true ∧ hex ((cc c).getD 2 0) = true ∧ valH ((cc c).getD 1 0) ((cc c).getD 2 0) = some c) := by decide
theorem Sub_ccs : ∀ (Y : L), okk Y → Sub (ccs Y ++ E2) (Y ++ E2)
  | [], _ => .last (by decide)
  | c :: Y, h => by
    have ih := Sub_ccs Y (okk_tail h)
    rw [ccs_cons, List.append_assoc]
    rcases cc_val c (okk_head h) with ⟨e, h1⟩ | ⟨e, h1, h2, h3⟩
    · rw [e]; exact .skip (fun q => h1 q.1) ih
    · rw [e]; exact .hit h1 h2 h3 ih
theorem Sub_word (Y : L) (h : okk Y) : Sub (word Y) (FR ++ (Y ++ E2)) := by
  refine .skip (c := 61) (fun q => ?_) (.skip (fun q => ?_) (.skip (fun q => ?_) (.skip (fun q => ?_) (.skip (fun q => ?_) (.skip (fun q => ?_) (Sub_ccs Y h))))))
  · exact absurd q.2 (by simp [two, hex])
  all_goals exact absurd q.1 (by decide)
/-- what the first figures say -/
theorem nextM_some : ∀ {X : L} {d : Nat}, nextM X = some d → d < X.length
  | [], d, h => by cases h
  | c :: t, d, h => by
    rw [nextM] at h
    by_cases q : c = 61 ∧ two t = true
    · rw [if_pos q] at h; cases h; simp
    · rw [if_neg q] at h
      cases e : nextM t with
      | none => rw [e] at h; cases h
      | some d2 =>
        rw [e] at h; cases h
        have := nextM_some e
        simp only [List.length_cons]; omega
theorem Sub.len {X r : L} (k : Sub X r) : r.length ≤ X.length := by
  induction k with
  | last => exact Nat.le_refl _
  | step h hv k ih => simp only [List.length_append, List.length_cons]; omega
end
section
theorem slot_sub : Slot "re.Pattern" (Str.ofString "sub") "re.Pattern.sub" :=
  .of (owner := "re.Pattern") (n := "sub") (by rw [typeLookup_type, builtinLookup_eq_fast]; kernel_rfl) (by decide +kernel) (by decide +kernel) (by decide +kernel)
    (by first | exact .inl (by decide +kernel) | exact .inr (by decide +kernel)) (by rw [isSubtype_type]; kernel_rfl)
theorem type_sub : typeOf (.builtin "re.Pattern.sub") = pure (.type "method_descriptor") := by show builtinType _ = _; rw [builtinType_eq_fast]; kernel_rfl
theorem entry_sub : entryFor table "re.Pattern.sub" = some Builtin.«re.Pattern.sub» := entryFor_of_tree (by kernel_rfl)
theorem entry_loop : entryFor table "re.Pattern.sub.loop" = some Builtin.«re.Pattern.sub.loop» := entryFor_of_tree (by kernel_rfl)
theorem plain_loop : plainId "re.Pattern.sub.loop" = true := by decide +kernel
theorem slot_group : Slot "re.Match" (Str.ofString "group") "re.Match.group" :=
  .of (owner := "re.Match") (n := "group") (by rw [typeLookup_type, builtinLookup_eq_fast]; kernel_rfl) (by decide +kernel) (by decide +kernel) (by decide +kernel)
    (by first | exact .inl (by decide +kernel) | exact .inr (by decide +kernel)) (by rw [isSubtype_type]; kernel_rfl)
theorem type_group : typeOf (.builtin "re.Match.group") = pure (.type "method_descriptor") := by show builtinType _ = _; rw [builtinType_eq_fast]; kernel_rfl
theorem entry_group : entryFor table "re.Match.group" = some Builtin.«re.Match.group» := entryFor_of_tree (by kernel_rfl)
theorem owner_rePattern : Manifest.owners.lookup (String.ofList ['n', 'r', 'e', 't', 't', 'a', 'P', '.', 'e', 'r'].reverse) = some Manifest.sig_re_Pattern := by kernel_rfl
theorem owner_reMatch : Manifest.owners.lookup (String.ofList ['h', 'c', 't', 'a', 'M', '.', 'e', 'r'].reverse) = some Manifest.sig_re_Match := by kernel_rfl
theorem args_sub (a b c : Value) : argsOk "re.Pattern.sub" ⟨[a, b, c], []⟩ := by
  unfold argsOk; rw [signature?_of (id := "re.Pattern.sub") (n := ['b', 'u', 's']) (o := ['n', 'r', 'e', 't', 't', 'a', 'P', '.', 'e', 'r']) (by kernel_rfl) owner_rePattern]; kernel_rfl
theorem args_group (a b : Value) : argsOk "re.Match.group" ⟨[a, b], []⟩ := by
  unfold argsOk; rw [signature?_of (id := "re.Match.group") (n := ['p', 'u', 'o', 'r', 'g']) (o := ['h', 'c', 't', 'a', 'M', '.', 'e', 'r']) (by kernel_rfl) owner_reMatch]; kernel_rfl
theorem plainAttrs_rePattern : PlainAttrs "re.Pattern" :=
  ⟨⟨"object.__getattribute__", by rw [typeLookup_type, builtinLookup_eq_fast]; kernel_rfl, by decide +kernel⟩, by rw [typeLookup_type, builtinLookup_eq_fast]; kernel_rfl⟩
theorem plainAttrs_reMatch : PlainAttrs "re.Match" :=
  ⟨⟨"object.__getattribute__", by rw [typeLookup_type, builtinLookup_eq_fast]; kernel_rfl, by decide +kernel⟩, by rw [typeLookup_type, builtinLookup_eq_fast]; kernel_rfl⟩
theorem fn_call : typeLookup (.type "function") (Str.ofString "__call__") = pure (some (.builtin "function.__call__")) := by rw [typeLookup_type, builtinLookup_eq_fast]; kernel_rfl
end
section
open Builtin Builtin.Re
abbrev codeT : Obj := { cls := .type "tuple", data := .seq (qC.map fun (n : Nat) => Value.int (n : Int) 0) }
/-- a pattern of the table: its code lies in C -/
def PatAt (h : Heap) (P C : Addr) : Prop := (∃ (ps : Str) (t1 t2 : Tok), h.get? P = some { cls := .type "re.Pattern", data := .fields #[.str ps t1, .int 256 t2, .int 0 0, .none, .none, .ref C, .int 0 0] }) ∧ h.get? C = some codeT
theorem PatAt.keeps {h h' : Heap} {P C : Addr} (x : PatAt h P C) (k : ∀ b o, b = P ∨ b = C → h.get? b = some o → h'.get? b = some o) : PatAt h' P C := by
  obtain ⟨⟨ps, t1, t2, e⟩, e2⟩ := x
  exact ⟨⟨ps, t1, t2, k _ _ (.inl rfl) e⟩, k _ _ (.inr rfl) e2⟩
section
variable {prog : Program} {w : World} {A : Around} {s : Shared} {E : Value → Shared → Prop}
theorem whole_any {P C : Addr} {x : Str} {t : Tok} {Q : ReTarget → Shared → Prop} (hP : PatAt s.heap P C)
    (h : Q { pattern := .ref P, string := .str x t, code := qC, text := x.cps, kind := 0, groups := 0, pos := 0, lim := x.cps.size } s) : wpAny (model prog w) A (reWholeTarget (.ref P) (.str x t)) Q E s := by
  obtain ⟨⟨ps, t1, t2, e⟩, e2⟩ := hP
  unfold reWholeTarget
  refine wpAny_bind (wpAny_fieldsOf e rfl ?_)
  refine wpAny_bind (wpAny_of_eq (a := (x.cps, 0)) rfl ?_)
  dsimp only
  refine wpAny_bind (wpAny_of_eq (a := ()) rfl ?_)
  refine wpAny_bind (wpAny_bind (wpAny_seqItems e2 rfl ?_))
  have e3 : (((some (qC.map fun (n : Nat) => Value.int (n : Int) 0)).getD #[]).map reRawOf).map (·.toNat) = qC := by decide +kernel
  refine wpAny_pure (wpAny_pure ?_)
  rw [e3]
  exact h
theorem drive {Q : Sre.M → Shared → Prop} : ∀ (j n : Nat) (m : Sre.M), j < n → (stepN (4 * j) m).outcome.isSome = true → Q (stepN (4 * j) m) s → wpAny (model prog w) A (reDrive n m) Q E s
  | j, 0, m, h, _, _ => absurd h (Nat.not_lt_zero _)
  | 0, n + 1, m, h, h1, h2 => by
    have e : m.runFor 4 = m := by rw [runFor_eq]; exact stepN_end (m := m) h1 4
    show wpAny _ _ (if (m.runFor 4).outcome.isSome = true then pure (m.runFor 4) else (rule "sre.turn" >>= fun _ => reDrive n (m.runFor 4))) _ _ _
    rw [e]
    have h1' : m.outcome.isSome = true := h1
    rw [if_pos h1']
    exact wpAny_pure h2
  | j + 1, n + 1, m, h, h1, h2 => by
    show wpAny _ _ (if (m.runFor 4).outcome.isSome = true then pure (m.runFor 4) else (rule "sre.turn" >>= fun _ => reDrive n (m.runFor 4))) _ _ _
    rw [runFor_eq]
    have e : stepN (4 * (j + 1)) m = stepN (4 * j) (stepN 4 m) := by rw [show 4 * (j + 1) = 4 + 4 * j by lia, stepN_add]
    rw [e] at h1 h2
    by_cases q : (stepN 4 m).outcome.isSome = true
    · rw [if_pos q]
      rw [stepN_end q] at h2
      exact wpAny_pure h2
    · rw [if_neg q]
      exact wpAny_bind (wpAny_rule (drive j n _ (by lia) h1 h2))
theorem next_any {x : Str} {t : Tok} {P : Addr} {p : Nat} {X : L} {Q : Option Sre.M → Shared → Prop} (hX : x.cps.toList.drop p = X) (hl : X.length ≤ 1000000)
    (h : ∀ r, (match nextM X with | none => r = none | some d => ∃ m, r = some m ∧ m.start = p + d ∧ m.handed = p + d + 3 ∧ m.lastmark = -1 ∧ m.lastindex = -1 ∧ m.marks = #[]) → Q r s) :
    wpAny (model prog w) A (reNextFound { pattern := .ref P, string := .str x t, code := qC, text := x.cps, kind := 0, groups := 0, pos := 0, lim := x.cps.size } p false) Q E s := by
  show wpAny _ _ (reRunToEnd (Sre.forSearch qC x.cps 0 p x.cps.size false)) Q E s
  obtain ⟨k, hk, hf⟩ := search_all hX
  generalize Sre.forSearch qC x.cps 0 p x.cps.size false = m0 at hf ⊢
  unfold reRunToEnd
  have e : stepN (4 * k) m0 = stepN k m0 := by rw [show 4 * k = k + 3 * k by lia, stepN_add, stepN_end hf.some]
  refine wpAny_bind (drive k (2 ^ 64) m0 (Nat.lt_of_le_of_lt (m := 6 * 1000001) (by lia) (by decide)) (by rw [e]; exact hf.some) ?_)
  rw [e]
  generalize stepN k m0 = m at hf
  refine wpAny_bind (wpAny_forIn_list _ (fun _ _ s' => s' = s) _ (fun i rest b s' hs => ?_) (fun b s' hs => ?_) _ _ rfl)
  · subst hs
    show wpAny _ _ (if _ then _ else _) _ _ _
    split
    · exact wpAny_bind (wpAny_rule (wpAny_pure rfl))
    · exact wpAny_pure rfl
  · subst hs
    cases hr : nextM X with
    | none =>
      rw [hr] at hf h
      have ho : m.outcome = some .failed := hf
      rw [ho]
      exact wpAny_pure (h _ rfl)
    | some d =>
      rw [hr] at hf h
      obtain ⟨ho, h2⟩ := hf
      rw [ho]
      exact wpAny_pure (h _ ⟨m, rfl, h2⟩)
end
end
section
open Builtin Builtin.Re
/-- what a search has found: the object that the callback gets -/
def MatAt (h : Heap) (M : Addr) (x : Str) (b e : Nat) : Prop := ∃ (t : Tok) (P T : Addr) (lim : Nat), h.get? M = some { cls := .type "re.Match", data := .fields #[.str x t, .ref P, rawInt 0, rawInt lim, rawInt (-1), .ref T] } ∧
  h.get? T = some { cls := .type "tuple", data := .seq #[rawInt b, rawInt e] }
section
variable {prog : Program} {w : World} {A : Around} {s : Shared} {E : Value → Shared → Prop}
theorem newMatch_any {x : Str} {t : Tok} {P : Addr} {lim : Nat} {m : Sre.M} {Q : Value → Shared → Prop} (h3 : m.lastindex = -1)
    (h : ∀ M h', s.heap.get? M = none → s.heap.StaysIn h' → MatAt h' M x m.start m.handed → Q (.ref M) { s with heap := h' }) :
    wpAny (model prog w) A (reNewMatch (.ref P) (.str x t) 0 0 lim m) Q E s := by
  unfold reNewMatch
  refine wpAny_bind (wpAny_newTuple (items := [rawInt m.start, rawInt m.handed]) ?_)
  rw [h3]
  have e0 : s.heap.get? s.heap.objs.size = none := Heap.get?_none_of_le (Nat.le_refl _)
  have e1 := Heap.get?_push_size s.heap (o := { cls := .type "tuple", data := .seq #[rawInt m.start, rawInt m.handed] }) rfl
  have up : ∀ (h1 : Heap) (o : Obj), h1.StaysIn (h1.push o) := fun h1 o b o' e => Heap.get?_push_of_some _ e
  refine wpAny_newObj_type (h _ _ ?_ (fun b o e => up _ _ _ _ (up _ _ _ _ e)) ⟨t, P, s.heap.objs.size, lim, Heap.get?_push_size _ rfl, up _ _ _ _ e1⟩)
  exact Heap.get?_none_of_le (by simp)
theorem slice_any {b e : Nat} {T : Array Nat} {Q : Value → Shared → Prop} (hT : T.size ≤ 1000000) (h : Q (.str ⟨T.extract b e⟩ s.toks) { s with toks := s.toks + 1 }) : wpAny (model prog w) A (reSlice T 0 b e) Q E s := by
  refine wpAny_mkStr h ?_
  rw [PySem.sizeLine_eq]
  have : (⟨T.extract b e⟩ : Str).length = min e T.size - b := by show (T.extract b e).size = _; simp
  lia
theorem push_any {LS : Addr} {vs : Array Value} {c : Nat} {v : Value} {Q : Unit → Shared → Prop} (hL : s.heap.get? LS = some (W.listOf vs c)) (hz : vs.size ≤ 1000000)
    (h : ∀ h' c', h'.get? LS = some (W.listOf (vs.push v) c') → (∀ b o, b ≠ LS → s.heap.get? b = some o → h'.get? b = some o) → Q () { s with heap := h' }) : wpAny (model prog w) A (updateSeq LS (·.push v)) Q E s := by
  refine wpAny_updateSeq hL rfl (h _ (c + 1) ?_ fun b o hb e => ?_) (by rw [PySem.sizeLine_eq]; lia) (by rw [PySem.sizeLine_eq]; simp; lia)
  · rw [Heap.get?_update_self _ hL (by rw [mapSeq_push]; rfl), mapSeq_push]
  · rw [Heap.get?_update_other _ _ (Ne.symm hb)]; exact e
theorem sv_push {ps : List (Str × Tok)} {y : Str} {u : Tok} : (strValues ps).toArray.push (.str y u) = (strValues (ps ++ [(y, u)])).toArray := by
  simp [strValues]
def joinC (ps : List (Str × Tok)) : L := (ps.map fun p => p.1.cps.toList).flatten
theorem sumC (ps : List (Str × Tok)) : (ps.map (·.1.length)).sum = (joinC ps).length := by
  simp [joinC, List.length_flatten, Function.comp_def]
  rfl
theorem joinC_snoc (ps : List (Str × Tok)) (p : Str × Tok) : joinC (ps ++ [p]) = joinC ps ++ p.1.cps.toList := by simp [joinC]
abbrev rtOf (P : Addr) (x : Str) (t : Tok) : ReTarget := { pattern := .ref P, string := .str x t, code := qC, text := x.cps, kind := 0, groups := 0, pos := 0, lim := x.cps.size }
theorem lenR (x : Str) : x.cps.toList.length = x.length := by simp [Str.length]
theorem sub_loop {P C U LS : Addr} {x : Str} {t : Tok} {R : Result → Shared → Prop} (hx : x.length ≤ 100000)
    (cb : ∀ (s' : Shared) (M : Addr) (b v : Nat) (a1 a2 : Nat) (Q' : Value → Shared → Prop), (∀ b o, b ≠ LS → s.heap.get? b = some o → s'.heap.get? b = some o) → MatAt s'.heap M x b (b + 3) → (x.cps.toList.drop b).take 3 = [61, a1, a2] → valH a1 a2 = some v →
      (∀ h' tk z tz, s'.heap.StaysIn h' → z.cps.toList = [v] → Q' (.str z tz) { s' with heap := h', toks := tk }) → wpAny (model prog w) A.in1 (call (.ref U) [.ref M]) Q' (fun e s' => R (.error e) s') s') :
    ∀ {X r : L} (k : Sub X r) (s2 : Shared) (p : Nat) (n : Int) (ps : List (Str × Tok)) (c : Nat), x.cps.toList.drop p = X → p ≤ x.length → (∀ b o, b ≠ LS → s.heap.get? b = some o → s2.heap.get? b = some o) → PatAt s2.heap P C → P ≠ LS → C ≠ LS → s2.heap.get? LS = some (W.listOf (strValues ps).toArray c) → ps.length ≤ 2 * p → (joinC ps).length ≤ p →
      (∀ h' tk z tz, (∀ b o, b ≠ LS → s2.heap.get? b = some o → h'.get? b = some o) → z.cps.toList = joinC ps ++ r → R (.ok (.ret (.str z tz))) { s2 with heap := h', toks := tk }) →
      codeAny (model prog w) A (.builtin "re.Pattern.sub.loop" ⟨[.ref P, .str x t, .ref U, rawInt 1, rawInt 0, rawInt n, rawInt p, rawInt p, .bool false, .ref LS, .bool false], []⟩) R s2 := by
  intro X r k
  induction k with
  | last hn =>
    intro s2 p n ps c hX hp hk hP d1 d2 hL hpl hjl hR
    refine codeAny_builtin entry_loop ?_
    rw [Around.under_plainId plain_loop _]
    unfold Builtin.«re.Pattern.sub.loop»
    refine wpAny_bind (whole_any hP ?_)
    show wpAny _ _ (reNextFound (rtOf P x t) p false >>= _) _ _ _
    refine wpAny_bind (next_any hX (by rw [← hX, List.length_drop, lenR]; lia) fun r hr => ?_)
    rw [hn] at hr
    have hr : r = none := hr
    subst hr
    have hpx : x.cps.size = x.length := rfl
    have fin : ∀ (h' : Heap) (tk : Nat) (ps' : List (Str × Tok)) (c' : Nat), (∀ b o, b ≠ LS → s2.heap.get? b = some o → h'.get? b = some o) → h'.get? LS = some (W.listOf (strValues ps').toArray c') → ps'.length ≤ 500000 → joinC ps' = joinC ps ++ x.cps.toList.drop p →
        wpAny (model prog w) A.in1 (do
          let joiner ← reSlice x.cps 0 0 0
          let __do_lift ← seqItems? (Value.ref LS)
          let text ← if (__do_lift.getD #[]).isEmpty = true then pure joiner else call (.builtin "str.join") [joiner, .ref LS]
          ret text) (fun fin s' => match fin with | .done f => R (.ok f) s' | .again c' => c'.quiet = true ∧ codeAny (model prog w) A c' R s') (fun e s' => R (.error e) s') { s2 with heap := h', toks := tk } := by
      intro h' tk ps' c' hk' hL' hl' hj
      refine wpAny_bind (slice_any (by lia) ?_)
      refine wpAny_bind (wpAny_seqItems hL' rfl ?_)
      show wpAny _ _ (if (strValues ps').toArray.isEmpty = true then ret (.str _ tk) else (call (.builtin "str.join") [.str _ tk, .ref LS] >>= fun text => ret text)) _ _ _
      rw [show (⟨x.cps.extract 0 0⟩ : Str) = Str.ofString "" by simp; rfl]
      split
      · rename_i q
        have : ps' = [] := by cases ps' with | nil => rfl | cons a b => simp [strValues] at q
        subst this
        refine wpAny_pure (hR _ _ _ _ hk' ?_)
        rw [← hX, ← hj]; rfl
      · refine wpAny_bind (join_L (ps := ps') ⟨_, hL', rfl, _, rfl⟩ ?_ fun z t' k' hz => ?_)
        · rw [sumC, hj, List.length_append, List.length_drop, lenR]; lia
        · refine wpAny_pure (hR _ _ _ _ hk' ?_)
          rw [hz, ← hX, ← hj]
          simp [joinC, List.flatMap]
    show wpAny _ _ (if p < x.cps.size then (reSlice x.cps 0 p x.cps.size >>= _) else _) _ _ _
    split
    · refine wpAny_bind (slice_any (by lia) ?_)
      show wpAny _ _ (updateSeq LS (·.push _) >>= _) _ _ _
      refine wpAny_bind (push_any (s := { s2 with toks := s2.toks + 1 }) hL (by simp [len_strValues]; lia) fun h' c' hL' hk' => ?_)
      rw [sv_push] at hL'
      refine fin h' (s2.toks + 1) _ c' hk' hL' (by simp; lia) ?_
      rw [joinC_snoc]
      congr 1
      simp [hpx]
      rw [List.take_of_length_le]; rw [List.length_drop, lenR]
      exact Nat.le_refl _
    · exact fin s2.heap s2.toks ps c (fun _ _ _ e => e) hL (by lia) (by rw [List.drop_eq_nil_of_le (by rw [lenR]; lia)]; simp)
  | step hn hv k ih =>
    intro s2 p n ps c hX hp hk hP d1 d2 hL hpl hjl hR
    rename_i u t' r' a b v
    have hlen : p + (u.length + (t'.length + 3)) = x.length := by
      have := congrArg List.length hX
      simp only [List.length_drop, lenR, List.length_append, List.length_cons] at this
      lia
    refine codeAny_builtin entry_loop ?_
    rw [Around.under_plainId plain_loop _]
    unfold Builtin.«re.Pattern.sub.loop»
    refine wpAny_bind (whole_any hP ?_)
    show wpAny _ _ (reNextFound (rtOf P x t) p false >>= _) _ _ _
    refine wpAny_bind (next_any hX (by rw [← hX, List.length_drop, lenR]; lia) fun rr hr => ?_)
    rw [hn] at hr
    obtain ⟨m, rfl, m1, m2, m3, m4, m5⟩ := hr
    have hdr : x.cps.toList.drop (p + u.length) = 61 :: a :: b :: t' := by rw [← List.drop_drop, hX, List.drop_left]
    have hdr3 : x.cps.toList.drop (p + u.length + 3) = t' := by rw [← List.drop_drop, hdr]; rfl
    have hsl : (⟨x.cps.extract p m.start⟩ : Str).cps.toList = u := by
      rw [m1]
      simp only [Array.toList_extract, List.extract_eq_take_drop]
      rw [hX, Nat.add_sub_cancel_left, List.take_left]
    have go : ∀ (h' : Heap) (tk : Nat) (ps' : List (Str × Tok)) (c' : Nat), (∀ b o, b ≠ LS → s2.heap.get? b = some o → h'.get? b = some o) → h'.get? LS = some (W.listOf (strValues ps').toArray c') → ps'.length ≤ 2 * p + 1 → joinC ps' = joinC ps ++ u →
        wpAny (model prog w) A.in1 (do
          let found ← reNewMatch (.ref P) (.str x t) 0 0 x.cps.size m
          let item ← holding [found] (call (.ref U) [found])
          if (item != Value.none) = true then do
            let __r ← updateSeq LS (·.push item)
            again (.builtin "re.Pattern.sub.loop" ⟨[.ref P, .str x t, .ref U, rawInt 1, rawInt 0, rawInt (n + 1), rawInt m.handed, rawInt m.handed, .bool (m.handed == m.start), .ref LS, .bool false], []⟩)
          else again (.builtin "re.Pattern.sub.loop" ⟨[.ref P, .str x t, .ref U, rawInt 1, rawInt 0, rawInt (n + 1), rawInt m.handed, rawInt m.handed, .bool (m.handed == m.start), .ref LS, .bool false], []⟩))
          (fun fin s' => match fin with | .done f => R (.ok f) s' | .again c' => c'.quiet = true ∧ codeAny (model prog w) A c' R s') (fun e s' => R (.error e) s') { s2 with heap := h', toks := tk } := by
      intro h' tk ps' c' hk' hL' hl' hj
      refine wpAny_bind (newMatch_any m4 fun M h1 hM hst hm => ?_)
      refine wpAny_bind (wpAny_holding (cb _ M m.start v a b _ (fun b o hb e => hst _ _ (hk' _ _ hb (hk _ _ hb e))) (by rw [m2, ← m1] at hm; exact hm) (by rw [m1, hdr]; rfl) hv fun h2 tk2 z tz hst2 hz => ?_))
      show wpAny _ _ (updateSeq LS (·.push (.str z tz)) >>= _) _ _ _
      refine wpAny_bind (push_any (s := { s2 with heap := h2, toks := tk2 }) (hst2 _ _ (hst _ _ hL')) (by simp [len_strValues]; lia) fun h3 c3 hL3 hk3 => ?_)
      rw [sv_push] at hL3
      have hk4 : ∀ b o, b ≠ LS → s2.heap.get? b = some o → h3.get? b = some o := fun b o hb e => hk3 b o hb (hst2 _ _ (hst _ _ (hk' _ _ hb e)))
      refine wpAny_pure ⟨plainId_quiet plain_loop _, ?_⟩
      rw [m2, m1, show (p + u.length + 3 == p + u.length) = false from beq_false_of_ne (by lia)]
      refine ih { s2 with heap := h3, toks := tk2 } (p + u.length + 3) (n + 1) (ps' ++ [(z, tz)]) c3 hdr3 (by lia) (fun b o hb e => hk4 b o hb (hk b o hb e)) (hP.keeps fun b o hb e => hk4 b o (by rcases hb with rfl | rfl <;> assumption) e) d1 d2 hL3 (by simp; lia) ?_ fun h4 tk4 z4 tz4 hk5 hz4 => ?_
      · rw [joinC_snoc, hj, List.length_append, List.length_append, hz]
        simp only [List.length_cons, List.length_nil]; lia
      · refine hR h4 tk4 z4 tz4 (fun b o hb e => hk5 b o hb (hk4 b o hb e)) ?_
        rw [hz4, joinC_snoc, hj, hz]
        simp
    show wpAny _ _ (if p < m.start then (reSlice x.cps 0 p m.start >>= _) else _) _ _ _
    split
    · refine wpAny_bind (slice_any (by have : x.cps.size = x.length := rfl; lia) ?_)
      show wpAny _ _ (updateSeq LS (·.push _) >>= _) _ _ _
      refine wpAny_bind (push_any (s := { s2 with toks := s2.toks + 1 }) hL (by simp [len_strValues]; lia) fun h' c' hL' hk' => ?_)
      rw [sv_push] at hL'
      exact go h' (s2.toks + 1) _ c' hk' hL' (by simp; lia) (by rw [joinC_snoc, hsl])
    · have hu : u = [] := List.eq_nil_of_length_eq_zero (by lia)
      exact go s2.heap s2.toks ps c (fun _ _ _ e => e) hL (by lia) (by rw [hu]; simp)
end
end
section
open Builtin Builtin.Re
section
variable {prog : Program} {w : World} {A : Around} {s : Shared} {E : Value → Shared → Prop}
theorem ba_no : isSubtype (.type "str") (.type "bytearray") = pure false := by rw [isSubtype_type]; kernel_rfl
theorem call_sub {P C U : Addr} {x : Str} {t : Tok} {X r : L} {Q : Value → Shared → Prop} (hP : PatAt s.heap P C) (hU : s.TypeIs (.ref U) "function") (hx : x.length ≤ 100000) (hX : x.cps.toList = X) (k : Sub X r)
    (cb : ∀ (s' : Shared) (M : Addr) (b v : Nat) (a1 a2 : Nat) (Q' : Value → Shared → Prop), s.heap.StaysIn s'.heap → MatAt s'.heap M x b (b + 3) → (x.cps.toList.drop b).take 3 = [61, a1, a2] → valH a1 a2 = some v →
      (∀ h' tk z tz, s'.heap.StaysIn h' → z.cps.toList = [v] → Q' (.str z tz) { s' with heap := h', toks := tk }) → wpAny (model prog w) A.in1 (call (.ref U) [.ref M]) Q' E s')
    (h : ∀ h' tk z tz, s.heap.StaysIn h' → z.cps.toList = r → Q (.str z tz) { s with heap := h', toks := tk }) :
    wpAny (model prog w) A (call (.builtin "re.Pattern.sub") [.ref P, .ref U, .str x t]) Q E s := by
  have hTP : s.TypeIs (.ref P) "re.Pattern" := by obtain ⟨⟨ps, t1, t2, e⟩, _⟩ := hP; exact ⟨_, e, rfl⟩
  refine wpAny_call (codeAny_call_builtin slot_sub.plain entry_sub (slot_sub.check _ _ _ _ _ _ _ _ hTP (args_sub _ _ _) ?_))
  unfold Builtin.«re.Pattern.sub» reSubstitute
  refine wpAny_bind (wpAny_of_eq (a := [some (.ref U), some (.str x t), none]) (by rfl) ?_)
  refine wpAny_bind (wpAny_pure ?_)
  refine wpAny_bind (wpAny_specialOf hU fn_call ?_)
  refine wpAny_bind (wpAny_pure ?_)
  refine wpAny_bind (wpAny_pure ?_)
  refine wpAny_bind (wpAny_holding (whole_any hP ?_))
  show wpAny _ _ (reNotHeld "re.Pattern.sub" (.str x t) >>= fun _ => newList [] >>= _) _ _ _
  refine wpAny_bind ?_
  unfold reNotHeld
  refine wpAny_bind (wpAny_isInstance (typeIs_str s x t) ba_no ?_)
  refine wpAny_pure ?_
  have hl : ∀ a o, s.heap.get? a = some o → a ≠ s.heap.objs.size := fun a o e => Nat.ne_of_lt (Heap.lt_size e)
  have up : ∀ b o, s.heap.get? b = some o → (s.heap.push (W.listOf #[] 0)).get? b = some o := fun b o e => Heap.get?_push_of_some _ e
  refine wpAny_bind (wpAny_newList (items := []) ?_)
  refine wpAny_pure ⟨plainId_quiet plain_loop _, ?_⟩
  refine sub_loop (s := { s with heap := s.heap.push (W.listOf #[] 0) }) (C := C) hx (fun s' M b v a1 a2 Q' hs hm h1 h2 h3 => cb s' M b v a1 a2 Q' (fun a o e => hs a o (hl a o e) (up a o e)) hm h1 h2 h3) k _ 0 0 [] 0 hX (Nat.zero_le _) (fun _ _ _ e => e) (hP.keeps fun b o _ e => up b o e) ?_ ?_ (Heap.get?_push_size _ rfl) (Nat.le_refl _) (Nat.le_refl _) fun h' tk z tz hk hz => ?_
  · obtain ⟨⟨ps, t1, t2, e⟩, _⟩ := hP; exact hl _ _ e
  · exact hl _ _ hP.2
  · exact h h' tk z tz (fun a o e => hk a o (hl a o e) (up a o e)) (by rw [hz]; rfl)
theorem call_group {M : Addr} {x : Str} {b e : Nat} {Q : Value → Shared → Prop} (hM : MatAt s.heap M x b e) (hx : x.length ≤ 1000000)
    (h : ∀ k u, Q (.str ⟨x.cps.extract b e⟩ u) { s with toks := k }) : wpAny (model prog w) A (call (.builtin "re.Match.group") [.ref M, .int 0 t]) Q E s := by
  obtain ⟨t', P, T, lim, e1, e2⟩ := hM
  refine wpAny_call_entry slot_group ⟨_, e1, rfl⟩ entry_group ?_ (args_group _ _)
  unfold Builtin.«re.Match.group»
  refine wpAny_bind (wpAny_of_eq (a := ()) rfl ?_)
  show wpAny _ _ (reFound (.ref M) >>= fun x => reGroupNumber x (.int 0 t) >>= fun g => reGroupText x g .none >>= fun v => ret v) _ _ _
  unfold reFound
  refine wpAny_bind (wpAny_bind (wpAny_fieldsOf e1 rfl ?_))
  refine wpAny_bind (wpAny_bind (wpAny_seqItems e2 rfl (wpAny_pure (wpAny_pure ?_))))
  have e3 : (((some #[rawInt (b : Int), rawInt (e : Int)]).getD #[]).map reRawOf) = #[(b : Int), (e : Int)] := by simp [reRawOf, rawInt]
  rw [e3]
  refine wpAny_bind (wpAny_of_eq (a := 0) ?_ ?_)
  · rfl
  unfold reGroupText
  show wpAny _ _ ((if (decide ((b : Int) < 0) || decide ((e : Int) < 0)) = true then pure Value.none else (pure (x.cps, 0) >>= fun y => reSlice y.1 y.2 b e)) >>= fun v => ret v) _ _ _
  rw [if_neg (by simp)]
  refine wpAny_bind (wpAny_bind (wpAny_pure (slice_any hx ?_)))
  exact wpAny_pure ⟨_, rfl, h _ _⟩
section
variable {pl : Sem Bool}
theorem gm_sub {P C : Addr} {Q : Value × List Value → Shared → Prop} (hP : PatAt s.heap P C) (h : Q (.builtin "re.Pattern.sub", [.ref P]) s) : wpAny (model prog w) A (getMethod (.ref P) (Str.ofString "sub") pl) Q E s := by
  obtain ⟨⟨ps, t1, t2, e⟩, _⟩ := hP
  exact getMethod_builtin ⟨_, e, rfl⟩ plainAttrs_rePattern slot_sub type_sub (fun a ha => by cases ha; exact ⟨_, e, rfl⟩) h
theorem gm_group {M : Addr} {x : Str} {b e : Nat} {Q : Value × List Value → Shared → Prop} (hM : MatAt s.heap M x b e) (h : Q (.builtin "re.Match.group", [.ref M]) s) : wpAny (model prog w) A (getMethod (.ref M) (Str.ofString "group") pl) Q E s := by
  obtain ⟨t', P, T, lim, e1, e2⟩ := hM
  exact getMethod_builtin ⟨_, e1, rfl⟩ plainAttrs_reMatch slot_group type_group (fun a ha => by cases ha; exact ⟨_, e1, rfl⟩) h
end
end
end
section
theorem typeCall_int_2 (a b : Value) : checkTypeCall "int" ⟨[a, b], []⟩ = pure () := by kernel_rfl
theorem newCall_int_2 (a b : Value) : checkBuiltinCall "int.__new__" ⟨[.type "int", a, b], []⟩ = pure () := by kernel_rfl
def hexT (x : Str) : List Nat := if x.cps.all (fun x => decide (x < 128)) = true then x.cps.toList else Unicode.numberText x.cps.toList
theorem gives_hex {x : Str} {u k : Tok} {n : Int} (hr : (int_private% "readNumeral") 0 (Int.toNat 16) (List.takeWhile (fun x => x != 0) (hexT x)) = (int_private% "Numeral.value") n)
    (h0 : (List.takeWhile (fun x => x != 0) (hexT x)).length ≤ 640) (ha : ((List.takeWhile (fun x => x != 0) (hexT x)).length == (hexT x).length) = true) : Gives (Builtin.«int.__new__» ⟨[.type "int", .str x u, .int 16 k], []⟩) (.int n) :=
  .of_wp fun M A E s Q h => by
    obtain ⟨hp, g, d, tk, os⟩ := s
    have f1 := F.conv_sub_int
    have f2 := F.madeHere_int
    unfold hexT at hr h0 ha
    repeat (any_goals (first | assumption | (with_reducible refine wpAny_ite_true (decide_eq_true h0) ?_) | wp_step))
    rw [hr]
    dsimp only
    refine wpAny_ite_true (decide_eq_true ha) ?_
    repeat (any_goals (first | assumption | wp_step))
    exact ⟨_, rfl, h⟩
section
variable {prog : Program} {w : World} {A : Around} {E : Value → Shared → Prop} {s : Shared}
theorem call_int_2 {x y : Value} {S : PySem.Spec} {Q : Value → Shared → Prop} (g : Meets (Builtin.«int.__new__» ⟨[.type "int", x, y], []⟩) S) (h : S A.in1 (wants (fun obj s₁ => s₁.TypeIs obj "int" ∧ Q obj s₁) E) s) :
    wpAny (model prog w) A (call (.type "int") [x, y]) Q E s :=
  callType_new F.called_int F.newNe_int (typeCall_int_2 x y) (newCall_int_2 x y) (fun obj => F.args_object_init_3 obj x y) F.entry_int_new g h
theorem int_hex {a b v : Nat} {u k : Tok} {Q : Value → Shared → Prop} (hv : valH a b = some v) (h : ∀ t' k', Q (.int (v : Int) t') { s with toks := k' }) : wpAny (model prog w) A (call (.type "int") [.str ⟨#[a, b]⟩ u, .int 16 k]) Q E s := by
  unfold valH at hv
  split at hv
  · rename_i q; obtain ⟨rfl, rfl⟩ := q; cases hv; exact call_int_2 (gives_hex (n := 40) (by kernel_rfl) (by decide +kernel) (by decide +kernel)).meets (show (Made.int 40).post _ s from ⟨rfl, h _ _⟩)
  split at hv
  · rename_i q; obtain ⟨rfl, rfl⟩ := q; cases hv; exact call_int_2 (gives_hex (n := 41) (by kernel_rfl) (by decide +kernel) (by decide +kernel)).meets (show (Made.int 41).post _ s from ⟨rfl, h _ _⟩)
  split at hv
  · rename_i q; obtain ⟨rfl, rfl⟩ := q; cases hv; exact call_int_2 (gives_hex (n := 46) (by kernel_rfl) (by decide +kernel) (by decide +kernel)).meets (show (Made.int 46).post _ s from ⟨rfl, h _ _⟩)
  split at hv
  · rename_i q; obtain ⟨rfl, rfl⟩ := q; cases hv; exact call_int_2 (gives_hex (n := 58) (by kernel_rfl) (by decide +kernel) (by decide +kernel)).meets (show (Made.int 58).post _ s from ⟨rfl, h _ _⟩)
  split at hv
  · rename_i q; obtain ⟨rfl, rfl⟩ := q; cases hv; exact call_int_2 (gives_hex (n := 62) (by kernel_rfl) (by decide +kernel) (by decide +kernel)).meets (show (Made.int 62).post _ s from ⟨rfl, h _ _⟩)
  split at hv
  · rename_i q; obtain ⟨rfl, rfl⟩ := q; cases hv; exact call_int_2 (gives_hex (n := 63) (by kernel_rfl) (by decide +kernel) (by decide +kernel)).meets (show (Made.int 63).post _ s from ⟨rfl, h _ _⟩)
  split at hv
  · rename_i q; obtain ⟨rfl, rfl⟩ := q; cases hv; exact call_int_2 (gives_hex (n := 92) (by kernel_rfl) (by decide +kernel) (by decide +kernel)).meets (show (Made.int 92).post _ s from ⟨rfl, h _ _⟩)
  · cases hv
theorem val_small {a b v : Nat} (hv : valH a b = some v) : v < 128 := by
  unfold valH at hv
  repeat' (split at hv; · cases hv; decide)
  cases hv
theorem chr_any {v : Nat} {u : Tok} {Q : Value → Shared → Prop} (hv : v < 128) (h : ∀ t' k', Q (.str ⟨#[v]⟩ t') { s with toks := k' }) : wpAny (model prog w) A (call (.builtin "chr") [.int (v : Int) u]) Q E s := by
  refine chr_of_range (by lia) (by lia) ?_
  rw [Int.toNat_natCast]
  exact h _ _
end
end
section
section
variable {prog : Program} {w : World} {A : Around} {E : Value → Shared → Prop} {s : Shared}
theorem occ_no {x : Str} {c n : Nat} (h : c ∉ x.cps.toList) : (Builtin.Str.occurrences x ⟨#[c]⟩ 0 x.length n).isEmpty = true := by
  cases e : Builtin.Str.occurrences x ⟨#[c]⟩ 0 x.length n with
  | nil => rfl
  | cons i l =>
    have h1 := StrLaws.occ_spec x ⟨#[c]⟩ 0 x.length n i (by rw [e]; exact .head _)
    have h2 := (StrLaws.found_iff x ⟨#[c]⟩).mpr ⟨i, h1⟩
    rw [StrLaws.found_one] at h2
    exact absurd (of_decide_eq_true h2) h
theorem replace_none {x z : Str} {t u v : Tok} {c : Nat} {Q : Value → Shared → Prop} (hc : c ∉ x.cps.toList) (h : Q (.str x t) s) : wpAny (model prog w) A (call (.builtin "str.replace") [.str x t, .str ⟨#[c]⟩ u, .str z v]) Q E s := by
  have e : ((Builtin.Str.occurrences x ⟨#[c]⟩ 0 x.length (x.length + 1)).isEmpty || ((⟨#[c]⟩ : Str).length == 0 && z.length == 0)) = true := by rw [occ_no hc]; rfl
  have g := PySem.gives_str_replace x ⟨#[c]⟩ z t u v (fun q => by rw [e] at q; cases q)
  rw [if_pos e] at g
  exact call_gives F.slot_str_replace (typeIs_str _ _ _) F.entry_str_replace (F.args_str_replace_3 _ _ _) g h
end
end
section
open Builtin
theorem args_bytes_decode_2 (a b : Value) : argsOk "bytes.decode" ⟨[a, b], []⟩ := by
  unfold argsOk; rw [signature?_of (id := "bytes.decode") (n := ['e', 'd', 'o', 'c', 'e', 'd']) (o := ['s', 'e', 't', 'y', 'b']) (by kernel_rfl) FB.owner_bytes]; kernel_rfl
section
variable {prog : Program} {w : World} {A : Around} {E : Value → Shared → Prop} {s : Shared}
theorem dec_entry {c : UInt8} {cs : List UInt8} {t u : Tok} : «bytes.decode» ⟨[.bytes (c :: cs).toArray t, .str (Str.ofString "latin1") u], []⟩ = (mkStr (Str.ofString "utf-8") >>= fun _ => mkStr (Str.ofString "latin1") >>= fun e => mkStr (Str.ofString "bytes.decode") >>= fun d =>
    call (.builtin "_codecs.decode.text") [.bytes (c :: cs).toArray t, e, .none, d] >>= fun v => ret v) := by kernel_rfl
theorem dec_road {id : String} {b : Array UInt8} : _codecs.decodeRoad id b (PySem.Str.ofString "latin1") none [] = (_codecs.runDecoder id _codecs.latin1Decoder none true b 0 [] >>= fun r => mkStr ⟨r.1⟩) := by kernel_rfl
theorem run_latin {id : String} {b : Array UInt8} {Q : Array Nat × Nat → Shared → Prop} (hb : b.size ≤ 1000000) (h : ∀ n, Q ((b.toList.map fun u => u.toNat).toArray, n) s) : wpAny (model prog w) A (_codecs.runDecoder id _codecs.latin1Decoder none true b 0 []) Q E s := by
  unfold _codecs.runDecoder
  dsimp only
  rw [Std.Legacy.Range.forIn_eq_forIn_range']
  have hsz : ([:b.size] : Std.Legacy.Range).size = b.size := by simp [Std.Legacy.Range.size]
  refine wpAny_bind (wpAny_forIn_list _ (fun rest st s' => s' = s ∧ st.1 + rest.length = b.size ∧ st.2.1 = ((b.toList.take st.1).map fun u => u.toNat).toArray) _ (fun i rest st s' hs => ?_) (fun st s' hs => ?_) _ _ ⟨rfl, by simp, rfl⟩)
  · obtain ⟨p, out, st⟩ := st
    obtain ⟨rfl, h1, h2⟩ := hs
    dsimp only at h1 h2 ⊢
    simp only [List.length_cons] at h1
    have ho : out.size = p := by rw [h2]; simp; lia
    rw [if_neg (by rw [ho, PySem.sizeLine_eq]; lia)]
    rw [if_neg (by lia)]
    show wpAny _ _ (pure (ForInStep.yield (p + 1, out ++ #[(b.getD p 0).toNat], st))) _ _ _
    refine wpAny_pure ⟨rfl, by show p + 1 + _ = _; lia, ?_⟩
    have e : b.toList.take (p + 1) = b.toList.take p ++ [b.getD p 0] := by
      rw [List.take_succ_eq_append_getElem (by simp; lia)]
      congr 2
      simp [Array.getD, show p < b.size by lia]
    show out ++ #[(b.getD p 0).toNat] = _
    rw [e, h2]; simp
  · obtain ⟨p, out, st⟩ := st
    obtain ⟨rfl, h1, h2⟩ := hs
    dsimp only at h1 h2 ⊢
    rw [h2, List.take_of_length_le (by simp at h1 ⊢; lia)]
    exact wpAny_pure (h _)
theorem enc_tree (x : Str) (t u : Tok) : «str.encode» ⟨[.str x t, .str (Str.ofString "latin1") u], []⟩ = (do ret (← _codecs.encodeRoad "str.encode" (.str x t) x (Str.ofString "latin1") none)) := by kernel_rfl
theorem enc_road {id : String} {x : Str} {v : Value} : _codecs.encodeRoad id v x (PySem.Str.ofString "latin1") none = (_codecs.encodeNarrow id _codecs.latin1Codec none v x >>= fun r => mkBytes r) := by kernel_rfl
theorem dec_latin {c : UInt8} {cs : List UInt8} {t u : Tok} {Q : Value → Shared → Prop} (hl : cs.length ≤ 100000) (h : ∀ t' k, Q (.str ⟨((c :: cs).map fun u => u.toNat).toArray⟩ t') { s with toks := k }) :
    wpAny (model prog w) A (call (.builtin "bytes.decode") [.bytes (c :: cs).toArray t, .str (Str.ofString "latin1") u]) Q E s := by
  refine wpAny_call_entry FB.slot_bytes_decode (typeIs_bytes _ _ _) FB.entry_bytes_decode ?_ (args_bytes_decode_2 _ _)
  rw [dec_entry]
  refine wpAny_bind (wpAny_mkStr ?_ (by decide))
  refine wpAny_bind (wpAny_mkStr ?_ (by decide))
  refine wpAny_bind (wpAny_mkStr ?_ (by decide))
  refine wpAny_bind (call_function_meets (S := fun _ R s => ∀ t' k, R (.ok (.ret (.str ⟨((c :: cs).map fun u => u.toNat).toArray⟩ t'))) { s with toks := k }) KBd.kind_text KBd.plain_text KBd.entry_text (KBd.args_text _ _ _ _) (.of_wp fun prog w A R s hS => ?_) fun t' k => ?_)
  · show wpAny _ _ (Bytes.bytesLike _ (.bytes _ t) >>= fun r => _) _ _ s
    refine wpAny_bind (wpAny_of_eq KBd.like_eq ?_)
    refine wpAny_bind (wpAny_of_eq KBd.held_eq ?_)
    show wpAny _ _ (_codecs.decodeRoad _ _ (PySem.Str.ofString "latin1") none [] >>= fun v => _) _ _ s
    rw [dec_road]
    refine wpAny_bind (wpAny_bind (run_latin (by simp; lia) fun n => ?_))
    refine wpAny_mkStr (wpAny_pure ⟨_, rfl, hS _ _⟩) ?_
    rw [PySem.sizeLine_eq]
    show (List.toArray _).size ≤ _
    simp; lia
  · exact wpAny_pure ⟨_, rfl, h _ _⟩
theorem enc_latin {x : Str} {t u : Tok} {Q : Value → Shared → Prop} (hl : x.length ≤ 100000) (hc : ∀ c ∈ x.cps.toList, c < 256) (h : ∀ t' k, Q (.bytes (x.cps.toList.map fun c => c.toUInt8).toArray t') { s with toks := k }) :
    wpAny (model prog w) A (call (.builtin "str.encode") [.str x t, .str (Str.ofString "latin1") u]) Q E s := by
  refine wpAny_call_entry F.slot_str_encode (typeIs_str _ _ _) F.entry_str_encode ?_ (F.args_str_encode_2 _ _)
  rw [enc_tree, enc_road]
  refine wpAny_bind (wpAny_bind ?_)
  unfold _codecs.encodeNarrow
  dsimp only
  rw [Std.Legacy.Range.forIn_eq_forIn_range']
  have hsz : ([:x.length] : Std.Legacy.Range).size = x.length := by simp [Std.Legacy.Range.size]
  have hlen : x.cps.size = x.length := rfl
  refine wpAny_bind (wpAny_forIn_list _ (fun rest st s' => s' = s ∧ ((st.1 = 0 ∧ st.2.1 = #[] ∧ rest.length = x.length) ∨ (st.1 = x.length ∧ st.2.1 = (x.cps.toList.map fun c => c.toUInt8).toArray))) _ (fun i rest st s' hs => ?_) (fun st s' hs => ?_) _ _ ⟨rfl, .inl ⟨rfl, rfl, by simp⟩⟩)
  · obtain ⟨p, out, st⟩ := st
    obtain ⟨rfl, h1⟩ := hs
    dsimp only at h1 ⊢
    rcases h1 with ⟨rfl, rfl, h3⟩ | ⟨rfl, rfl⟩
    · rw [if_neg (by decide)]
      simp only [List.length_cons] at h3
      have h0 : 0 < x.cps.size := by lia
      rw [Array.getElem?_eq_getElem h0]
      have hb : ∀ c ∈ x.cps.toList, _codecs.latin1Codec.bad c = false := fun c hm => by
        have := hc c hm
        show decide (c ≥ 256) = false
        exact decide_eq_false (by lia)
      dsimp only
      rw [hb _ (by simp)]
      rw [if_pos (by decide)]
      refine wpAny_pure ⟨rfl, .inr ?_⟩
      have hf : Array.findIdx? _codecs.latin1Codec.bad (x.cps.extract 0) = none := by
        rw [Array.findIdx?_eq_none_iff]
        intro c hm
        rw [hb c (by simpa using hm)]
      rw [hf]
      refine ⟨?_, ?_⟩
      · show 0 + (x.cps.extract 0).size = _
        simp [hlen]
      · show Array.foldl _ #[] ((x.cps.extract 0).extract 0 (x.cps.extract 0).size) = _
        have e : ((x.cps.extract 0).extract 0 (x.cps.extract 0).size) = x.cps := by simp
        rw [e, ← Array.foldl_toList]
        have g : ∀ (l : List Nat) (acc : Array UInt8), l.foldl (fun acc y => acc ++ (_codecs.latin1Codec.bytesOf y).toArray) acc = acc ++ (l.map fun c => c.toUInt8).toArray := by
          intro l
          induction l with
          | nil => intro acc; simp
          | cons c l ih =>
            intro acc
            rw [List.foldl_cons, ih]
            show acc ++ #[c.toUInt8] ++ _ = _
            simp
        rw [g]; simp
    · rw [if_neg (by rw [PySem.sizeLine_eq]; simp [hlen]; lia)]
      rw [Array.getElem?_eq_none (by lia)]
      dsimp only
      refine wpAny_pure (show wpAny _ _ (pure _) _ _ _ from wpAny_pure (wpAny_mkBytes (wpAny_pure ⟨_, rfl, h _ _⟩) ?_))
      rw [PySem.sizeLine_eq]; simp [hlen]; lia
  · obtain ⟨p, out, st⟩ := st
    obtain ⟨rfl, h1⟩ := hs
    dsimp only at h1 ⊢
    have h2 : out = (x.cps.toList.map fun c => c.toUInt8).toArray := by
      rcases h1 with ⟨_, h2, h3⟩ | ⟨_, h2⟩
      · have : x.cps.toList = [] := List.eq_nil_of_length_eq_zero (by simp at h3 ⊢; rw [← hlen] at h3; simpa using h3.symm)
        rw [h2, this]; rfl
      · exact h2
    subst h2
    refine wpAny_pure (wpAny_mkBytes (wpAny_pure ⟨_, rfl, h _ _⟩) ?_)
    rw [PySem.sizeLine_eq]; simp [hlen]; lia
end
end
section
theorem rows_Ffits : True := by
  k_with_none
  k_with "m:storeName" => (dsimp (config := { beta := false, eta := false, iota := false, proj := true, zeta := false }) only; walk_at "storeName")
  k_with "m:call builtin:len" => (k_dflt (((with_reducible show wpAny _ _ (call (Value.builtin "len") [Value.ref _]) _ _ _); (with_unfolding_all refine' len_L ?k1 ?k2 ?_); (case k1 => is_list); (case k2 => first | assumption | (simp only [List.size_toArray, List.length_map, len_strValues, List.length_cons, List.length_nil]; omega)))))
  k_with "m:exec For Name Call cons nil" => (k_dflt (((with_unfolding_all refine' wpAny_For ?_ ?hs); (case hs => (intro _; with_unfolding_all rfl)))))
  k_with "m:subscriptTail Name Name ref int" => (k_dflt (((with_reducible show wpAny _ _ (subscriptTail _ _ (Value.ref _) (Value.int _ _)) _ _ _); (with_unfolding_all refine' itemL ?k0 ?k1 ?k2 ?k3 ?_ ?hs ?ht); (case k0 => is_list); (case k3 => with_unfolding_all assumption); (case k1 => omega); (case k2 => omega); (case hs => with_unfolding_all rfl); (case ht => (intro _; with_unfolding_all rfl)))))
  k_with "m:subscriptTail" => (k_dflt (((with_reducible show wpAny _ _ (subscriptTail _ _ (Value.ref _) (Value.int _ _)) _ _ _); (with_unfolding_all refine' itemT ?k0 ?k1 ?k2 ?k3 ?_ ?hs); (case k0 => first | assumption | exact IsTup.keeps (by assumption) (Fr.keep (by assumption))); (case k1 => decide); (case k2 => decide); (case k3 => with_unfolding_all rfl); (case hs => with_unfolding_all rfl))))
  trivial
theorem t_fits {w : World} {mean mg mb} {A : Around} {s : Shared} {Q E : Value → Shared → Prop} (a : Addr) (x : Str) (t : Tok) (k : Nat) (tt : Tok) (vs : Array Value) (Z : List Nat)
  (X : (KF w.params).In s.heap) (T : Top qV LV mean mg mb s.heap) (hroom : A.depth + 1 < recursionLimit) (hu : A.units + 10 < cLine) (hh : A.handled = none) (ha : s.heap.IsList a vs) (hat : AtomsAt s.heap vs Z) (hx : x.length ≤ 3000) (hv : vs.size ≤ 3000) (hk2 : k ≤ x.length)
  (hq : ∀ h' tk, s.heap.StaysIn h' → Q (.bool (fit Z (x.cps.toList.drop k))) { s with heap := h', toks := tk }) :
  wpAny (model PySem.Challenge.rw_in0170_01.row.prog w) A (call (.ref 190) [.ref a, .str x t, .int (k : Int) tt]) Q E s := by
  revert X
  k_fill
  intro X
  refine' enter [(Str.ofString "atoms", .ref a), (Str.ofString "name", .str x t), (Str.ofString "at", .int (k : Int) tt)] X T ?k1 ?k6 ?k7 ?k9 ?kB ?_ ?c2 ?c3 ?c4 ?c5
  case k1 => lia
  case k6 => k_is
  case k7 => k_is
  case k9 => exact BindsTo.of_eq rfl
  case c5 => decide
  case kB => exact locs rfl
  case c2 => exact rfl
  case c3 => exact rfl
  case c4 => exact rfl
  intro L h₁ F N
  have hv' : vs.size ≤ 1000000 := by lia
  have hZ : vs.size = Z.length := hat.1
  have hlen : (x.cps.toList.drop k).length = x.length - k := by simp [Str.length]
  k_steps
  · have e : fit Z (x.cps.toList.drop k) = false := by
      rw [Bool.eq_false_iff, Ne, fit_iff, hlen]
      rintro ⟨h, _⟩
      lia
    rw [e] at hq
    exact hq _ _ F.keep
  rename_i hle tk1 h2 tk2 t1 u1 v1 hr F2 N2 hkk
  have hk2 : k + vs.size ≤ x.length := by lia
  refine iter_rangeP (n := vs.size) (fun i m news => news = [] ∧ (∀ (j c : Nat), j < i → Z[j]? = some c → c = 63 ∨ (x.cps.toList.drop k)[j]? = some c) ∧ ∃ u, m = fun y => if y = Str.ofString "k" then u y else List.lookup y
      [(Str.ofString "atoms", Value.ref a), (Str.ofString "name", Value.str x t),
          (Str.ofString "at", Value.int (k : Int) tt)].reverse) hh hr (small_of (by lia)) (rsize_of _) F2 N2 ⟨rfl, ?_, fun _ => none, bind_none rfl⟩ ?_ ?_
  · intro j c hj; lia
  · intro I i t2 m₁ news₁ h tk3 oI hi hJ off F3 N3 P hP
    obtain ⟨rfl, hJ, u, rfl⟩ := hJ
    have hiZ : i < Z.length := by rw [← hat.1]; exact hi
    obtain ⟨c, hc⟩ : ∃ c, Z[i]? = some c := ⟨Z[i], List.getElem?_eq_getElem hiZ⟩
    have hq2 : ∃ r t, vs[i]? = some (Value.ref r) ∧ IsTup s.heap r [Value.bool (atom c).1, Value.str (atom c).2 t].toArray := hat.2 i c hc
    obtain ⟨r, tr, hr1, hr2⟩ := hq2
    have hr3 : vs[((0 : Int) + (i : Int)).toNat]? = some (.ref r) := by rw [Int.zero_add, Int.toNat_natCast]; exact hr1
    have hit : Txt.item x ((k : Int) + (0 + (i : Int))) = ⟨#[x.cps.toList.getD (k + i) 0]⟩ := itemN (by lia) (by lia)
    have hd : (x.cps.toList.drop k)[i]? = some (x.cps.toList.getD (k + i) 0) := by
      have : k + i < x.cps.toList.length := by simp only [Array.length_toList]; have : x.cps.size = x.length := rfl; lia
      rw [List.getElem?_drop, List.getD_eq_getElem?_getD, List.getElem?_eq_getElem this]; rfl
    k_steps
    · rename (_ == _) = true => hlast
      rw [hit, test_atom] at hlast
      have e : fit Z (x.cps.toList.drop k) = false := by
        rw [Bool.eq_false_iff, Ne, fit_iff]
        rintro ⟨_, h⟩
        have := h i c hc
        rw [hd] at this
        simp only [Option.some.injEq] at this
        rw [Bool.not_eq_true', Bool.or_eq_false_iff, beq_eq_false_iff_ne, beq_eq_false_iff_ne] at hlast
        rcases this with q | q
        · exact hlast.1 q
        · exact hlast.2 q.symm
      rw [e] at hq
      exact hP _ _ (hq _ _ (Fr.keep (by assumption)))
    · rename (_ == _) = false => hlast
      rw [hit, test_atom] at hlast
      refine hP _ _ (mkT (news₂ := []) (by assumption) (by assumption) (fun _ h => nomatch h) ⟨rfl, ?_, _, bind_again⟩)
      intro j c' hj hc'
      rcases Nat.lt_or_ge j i with q | q
      · exact hJ j c' q hc'
      · obtain rfl : j = i := by lia
        rw [hc] at hc'; cases hc'
        rw [hd]
        rw [Bool.not_eq_false', Bool.or_eq_true, beq_iff_eq, beq_iff_eq] at hlast
        exact hlast.imp id fun h => by rw [h]
  · rintro m₁ news₁ h tk3 ⟨rfl, hJ, u, rfl⟩ F3 N3
    have e : fit Z (x.cps.toList.drop k) = true := fit_iff.mpr ⟨by rw [hlen]; lia, fun i c hc => hJ i c (by
      rcases Nat.lt_or_ge i Z.length with q | q
      · lia
      · rw [List.getElem?_eq_none q] at hc; cases hc) hc⟩
    rw [e] at hq
    k_steps
    exact hq _ _ (Fr.keep (by assumption))
theorem t_fitsI {w : World} {mean mg mb} {A : Around} {s : Shared} {Q E : Value → Shared → Prop} (a : Addr) (x : Str) (t : Tok) (k : Int) (tt : Tok) (vs : Array Value) (Z : List Nat)
  (X : (KF w.params).In s.heap) (T : Top qV LV mean mg mb s.heap) (hroom : A.depth + 1 < recursionLimit) (hu : A.units + 10 < cLine) (hh : A.handled = none) (ha : s.heap.IsList a vs) (hat : AtomsAt s.heap vs Z) (hx : x.length ≤ 3000) (hv : vs.size ≤ 3000) (hk0 : 0 ≤ k) (hk2 : k ≤ x.length)
  (hq : ∀ h' tk, s.heap.StaysIn h' → Q (.bool (fit Z (x.cps.toList.drop k.toNat))) { s with heap := h', toks := tk }) :
  wpAny (model PySem.Challenge.rw_in0170_01.row.prog w) A (call (.ref 190) [.ref a, .str x t, .int k tt]) Q E s := by
  obtain ⟨n, rfl⟩ := Int.eq_ofNat_of_zero_le hk0
  exact t_fits a x t n tt vs Z X T hroom hu hh ha hat hx hv (by lia) hq
theorem rows_Ffits_end : True := by
  k_with_none
  trivial
end
section
theorem rows_Ftakes : True := by
  k_with_none
  k_with "m:storeName" => (dsimp (config := { beta := false, eta := false, iota := false, proj := true, zeta := false }) only; walk_at "storeName")
  k_with "m:exec For" => (k_dflt (((with_unfolding_all refine' wpAny_For ?_ ?hsₓ); (case hsₓ => (intro _; with_unfolding_all rfl)))))
  k_with "m:assign Tuple" => (k_dflt (((with_unfolding_all refine' assign_T2 ?k0ₓ (by assumption) (by assumption) ?k1ₓ ?_ ?k2ₓ ?k3ₓ ?k4ₓ); (case k0ₓ => assumption); (case k1ₓ => first | assumption | exact IsTup.keeps (by assumption) (Fr.keep (by assumption))); (case k2ₓ => with_unfolding_all rfl); (case k3ₓ => with_unfolding_all rfl); (case k4ₓ => with_unfolding_all rfl); intro _ _ _ _)))
  k_with "m:exec While" => (((with_reducible show wpAny _ _ (exec (Stmt.While _ _ _ _) _) _ _ _); refine Stop.mk ?_))
  k_with "m:call ref" => ((k_dflt (((with_unfolding_all refine' t_fitsI _ _ _ _ _ _ _ ?k1ₓ ?k2ₓ ?k3ₓ ?k4ₓ ?k5ₓ ?k6ₓ ?k7ₓ ?k8ₓ ?k9ₓ ?k10ₓ ?k11ₓ ?_); (case k1ₓ => exact Frag.In.keeps (by assumption) (Fr.keep (by assumption))); (case k2ₓ => exact Top.keeps (by assumption) (Fr.keep (by assumption))); (case k3ₓ => k_dflt (exact dep_lt (by with_reducible assumption) (by decide))); (case k4ₓ => k_dflt (exact unit_lt (by with_reducible assumption) (by decide))); (case k5ₓ => assumption); (case k6ₓ => is_list); (case k7ₓ => exact AtomsAt.keeps (by assumption) (Fr.keep (by assumption))); (case k8ₓ => assumption); (case k9ₓ => lia); (case k10ₓ => lia); (case k11ₓ => lia); intro _ _ st'ₓ; (have F'ₓ := Fr.keeps (by assumption) st'ₓ); (have N'ₓ := News.grown (by assumption) st'ₓ))); revert st'ₓ F'ₓ N'ₓ; intro _ _ _))
  trivial
theorem t_takes {w : World} {mean mg mb} {A : Around} {s : Shared} {Q E : Value → Shared → Prop} (a : Addr) (x : Str) (t : Tok) (vs : Array Value) (ps : List (Nat × List Nat))
  (X : (KF w.params).In s.heap) (T : Top qV LV mean mg mb s.heap) (hroom : A.depth + 16 < recursionLimit) (hu : A.units + 160 < cLine) (hh : A.handled = none) (ha : s.heap.IsList a vs) (hat : PartsAt s.heap vs ps) (hps : ∀ p ∈ ps, p.1 ≤ 2 ∧ p.2.length ≤ 3000) (hx : x.length ≤ 3000)
  (hq : ∀ h' tk, s.heap.StaysIn h' → Q (.bool (takesP ps x.cps.toList)) { s with heap := h', toks := tk }) :
  wpAny (model PySem.Challenge.rw_in0170_01.row.prog w) A (call (.ref 197) [.ref a, .str x t]) Q E s := by
  revert X
  k_fill
  intro X
  refine' enter [(Str.ofString "parts", .ref a), (Str.ofString "name", .str x t)] X T ?k1 ?k6 ?k7 ?k9 ?kB ?_ ?c2 ?c3 ?c4 ?c5
  case k1 => lia
  case k6 => k_is
  case k7 => k_is
  case k9 => exact BindsTo.of_eq rfl
  case c5 => decide
  case kB => exact locs rfl
  case c2 => exact rfl
  case c3 => exact rfl
  case c4 => exact rfl
  intro L h₁ F N
  k_steps
  rename_i h2 F2 N2
  refine iter_listTP (items := vs) (fun i m news => news = [] ∧ ∃ (at' : Nat) (tt : Tok), at' ≤ x.length ∧ takesP (ps.drop i) (x.cps.toList.drop at') = takesP ps x.cps.toList ∧ m (Str.ofString "at") = some (.int (at' : Int) tt) ∧ ∀ y, y ≠ Str.ofString "at" → y ∉ [Str.ofString "kind", Str.ofString "atoms"] → m y = List.lookup y [(Str.ofString "parts", Value.ref a), (Str.ofString "name", Value.str x t)].reverse) hh F2 N2 ⟨rfl, 0, _, Nat.zero_le _, rfl, rfl, fun y h1 h2 => by simp [h1]⟩ ?_ ?_ ?_
  · rintro i m news h ⟨rfl, _⟩ F3 N3
    exact ha.at fun o e => F3.keep _ o e
  · intro I i v m₁ news₁ h tk3 oI hi hJ off F3 N3 P hP
    obtain ⟨rfl, at', tt, hat1, hat2, hm1, hm2⟩ := hJ
    rw [env1 hm1 hm2] at F3
    generalize m₁ = u at F3
    have hiZ : i < ps.length := by
      rw [← hat.1]; exact (Array.getElem?_eq_some_iff.mp hi).1
    have hc : ps[i]? = some ps[i] := List.getElem?_eq_getElem hiZ
    have hp := hps ps[i] (List.getElem_mem hiZ)
    have hq2 := hat.2 i _ hc
    obtain ⟨r, tr, a2, avs, hr1, hr2, hr3, hr4⟩ := hq2
    rw [hr1] at hi
    cases hi
    have hd : ps.drop i = ps[i] :: ps.drop (i + 1) := List.drop_eq_getElem_cons hiZ
    rw [hd] at hat2
    generalize ps[i] = p at hc hp hr2 hr4 hat2 hd
    obtain ⟨kd, Z⟩ := p
    have hZ : avs.size = Z.length := hr4.1
    have hlen : (x.cps.toList.drop at').length = x.length - at' := by simp [Str.length]
    have hZ3 : Z.length ≤ 3000 := hp.2
    replace hr4 : AtomsAt s.heap avs Z := hr4
    have h3 : kd = 0 ∨ kd = 1 ∨ kd = 2 := by have := hp.1; dsimp only at this; lia
    rcases h3 with rfl | rfl | rfl
    · have hr2 : IsTup s.heap r [Value.str (Str.ofString "run") tr, Value.ref a2].toArray := hr2
      k_steps
      · rename fit _ _ = true => hf
        rw [Int.toNat_natCast] at hf
        refine hP _ _ (mkT (news₂ := []) (by assumption) (by assumption) (fun _ h => nomatch h) ⟨rfl, at' + avs.size, _, ?_, ?_, rfl, ?_⟩)
        · have := fit_iff.mp hf; rw [hlen] at this; lia
        · rw [← hat2, takesP_cons]
          have e : stepP (0, Z) (x.cps.toList.drop at') = some ((x.cps.toList.drop at').drop Z.length) := by show (if fit _ _ then _ else _) = _; rw [hf]; rfl
          rw [e, List.drop_drop, hZ]
        · intro y h1 h2
          simp only [List.mem_cons, List.not_mem_nil, or_false, not_or] at h2
          simp [h1, h2.1, h2.2]
      · rename fit _ _ = false => hf
        rw [Int.toNat_natCast] at hf
        have e : takesP ps x.cps.toList = false := by
          rw [← hat2, takesP_cons]
          have e : stepP (0, Z) (x.cps.toList.drop at') = none := by show (if fit _ _ then _ else _) = _; rw [hf]; rfl
          rw [e]
        rw [e] at hq
        exact hP _ _ (hq _ _ (Fr.keep (by assumption)))
    · have hr2 : IsTup s.heap r [Value.str (Str.ofString "free") tr, Value.ref a2].toArray := hr2
      have hst : stepP (1, Z) (x.cps.toList.drop at') = if decide (Z.length ≤ x.length - at') && fit Z (x.cps.toList.drop (at' + (x.length - at' - Z.length))) then some [] else none := by
        show (if decide (Z.length ≤ (x.cps.toList.drop at').length) && fit Z ((x.cps.toList.drop at').drop ((x.cps.toList.drop at').length - Z.length)) then some [] else none) = _
        rw [List.drop_drop, hlen]
      k_steps
      · rename fit _ _ = true => hf
        rename _ ≤ (x.length : Int) => hle
        have e1 : ((x.length : Int) - (avs.size : Int)).toNat = at' + (x.length - at' - Z.length) := by lia
        have e2 : (x.length : Int) - (avs.size : Int) + (avs.size : Int) = (x.length : Int) := by lia
        rw [e1] at hf
        refine hP _ _ (mkT (news₂ := []) (by assumption) (by assumption) (fun _ h => nomatch h) ⟨rfl, x.length, _, Nat.le_refl _, ?_, congrArg (fun z => some (Value.int z _)) e2, ?_⟩)
        · rw [← hat2, takesP_cons, hst, hf, if_pos (by rw [Bool.and_true]; exact decide_eq_true (by lia))]
          have e3 : x.cps.toList.drop x.length = [] := List.drop_eq_nil_of_le (by simp [Str.length])
          rw [e3]
        · intro y h1 h2
          simp only [List.mem_cons, List.not_mem_nil, or_false, not_or] at h2
          simp [h1, h2.1, h2.2]
      · rename fit _ _ = false => hf
        rename _ ≤ (x.length : Int) => hle
        have e1 : ((x.length : Int) - (avs.size : Int)).toNat = at' + (x.length - at' - Z.length) := by lia
        rw [e1] at hf
        have e : takesP ps x.cps.toList = false := by
          rw [← hat2, takesP_cons, hst, hf, Bool.and_false]; rfl
        rw [e] at hq
        exact hP _ _ (hq _ _ (Fr.keep (by assumption)))
      · rename fit _ _ = true => hf
        rw [Int.toNat_natCast] at hf
        have := fit_iff.mp hf
        rw [hlen] at this
        lia
      · have e : takesP ps x.cps.toList = false := by
          rw [← hat2, takesP_cons, hst, if_neg]
          intro q
          rw [Bool.and_eq_true, decide_eq_true_eq] at q
          lia
        rw [e] at hq
        exact hP _ _ (hq _ _ (Fr.keep (by assumption)))
    · have hr2 : IsTup s.heap r [Value.str (Str.ofString "held") tr, Value.ref a2].toArray := hr2
      k_steps
      rename Fr _ _ _ _ => F4
      rename News _ _ _ _ => N4
      refine While_inv2 (fun n m news => news = [(I, oI)] ∧ ∃ (at2 : Nat) (tt2 : Tok), at2 ≤ x.length ∧ n = x.length - at2 ∧ find Z (x.cps.toList.drop at2) = find Z (x.cps.toList.drop at') ∧ m (Str.ofString "at") = some (.int (at2 : Int) tt2) ∧ ∀ y, y ≠ Str.ofString "at" → m y = (fun z => if z = Str.ofString "atoms" then some (Value.ref a2) else if z = Str.ofString "kind" then some (Value.str (Str.ofString "held") tr) else List.lookup z [(Str.ofString "parts", Value.ref a), (Str.ofString "name", Value.str x t)].reverse) y) (n₀ := x.length - at') F4 N4 ⟨rfl, at', tt, hat1, rfl, rfl, rfl, ?_⟩ ?_
      · intro y h1
        by_cases e1 : y = Str.ofString "atoms"
        · simp [e1]
        · by_cases e2 : y = Str.ofString "kind"
          · simp [e2]
          · simp [h1, e1, e2]
      · rintro n m₂ news₂ h4 tk4 F5 N5 ⟨rfl, at2, tt2, hb1, rfl, hb2, hm3, hm4⟩
        rw [env0 hm3 hm4] at F5
        have hlen2 : (x.cps.toList.drop at2).length = x.length - at2 := by simp [Str.length]
        have go : fit Z (x.cps.toList.drop (at2 : Int).toNat) = true → takesP (ps.drop (i + 1)) (x.cps.toList.drop (at2 + avs.size)) = takesP ps x.cps.toList ∧ at2 + avs.size ≤ x.length := by
          intro hf
          rw [Int.toNat_natCast] at hf
          have h1 := fit_iff.mp hf
          rw [hlen2] at h1
          refine ⟨?_, by lia⟩
          rw [← hat2, takesP_cons]
          have e : stepP (2, Z) (x.cps.toList.drop at') = some (x.cps.toList.drop (at2 + avs.size)) := by
            show find Z _ = _
            rw [← hb2, find_hit hf, List.drop_drop, hZ]
          rw [e]
        k_steps
        · rename fit _ _ = true => hf
          refine hP _ _ (mkT (news₂ := []) (by assumption) (by assumption) (fun _ h => nomatch h) ⟨rfl, at2 + avs.size, _, (go hf).2, (go hf).1, rfl, ?_⟩)
          intro y h1 h2
          simp only [List.mem_cons, List.not_mem_nil, or_false, not_or] at h2
          simp [h1, h2.1, h2.2]
        · rename fit _ _ = false => hf
          rw [Int.toNat_natCast] at hf
          rename _ ≤ (x.length : Int) => hle
          by_cases hz : at2 = x.length
          · exfalso
            have : Z = [] := List.eq_nil_of_length_eq_zero (by lia)
            rw [this] at hf
            cases hf
          · refine (mkW (n' := x.length - (at2 + 1)) (by assumption) (by assumption) (by lia) ⟨rfl, at2 + 1, _, by lia, rfl, ?_, rfl, ?_⟩)
            · rw [← hb2, find_miss hf (fun q => by rw [q] at hlen2; simp only [List.length_nil] at hlen2; lia), List.drop_drop]
            · intro y h1
              simp [h1]
        · rename fit _ _ = true => hf
          refine hP _ _ (mkT (news₂ := []) (by assumption) (by assumption) (fun _ h => nomatch h) ⟨rfl, at2 + avs.size, _, (go hf).2, (go hf).1, rfl, ?_⟩)
          intro y h1 h2
          simp only [List.mem_cons, List.not_mem_nil, or_false, not_or] at h2
          simp [h1, h2.1, h2.2]
        · have e : takesP ps x.cps.toList = false := by
            rw [← hat2, takesP_cons]
            have e : stepP (2, Z) (x.cps.toList.drop at') = none := by
              show find Z _ = _
              rw [← hb2, find_short (by rw [hlen2]; lia)]
            rw [e]
          rw [e] at hq
          exact hP _ _ (hq _ _ (Fr.keep (by assumption)))
  · rintro m₁ news₁ h tk3 ⟨rfl, at', tt, hat1, hat2, hm1, hm2⟩ F3 N3
    rw [env1 hm1 hm2] at F3
    rw [hat.1, List.drop_length] at hat2
    have e : takesP ps x.cps.toList = decide (at' = x.length) := by
      rw [← hat2]
      show (x.cps.toList.drop at').isEmpty = _
      rw [Bool.eq_iff_iff, List.isEmpty_iff, decide_eq_true_eq, List.drop_eq_nil_iff]
      have : x.cps.toList.length = x.length := by simp [Str.length]
      lia
    have e2 : takesP ps x.cps.toList = ((at' : Int) == (x.length : Int)) := by
      rw [e, Bool.eq_iff_iff, decide_eq_true_eq, beq_iff_eq]
      lia
    rw [e2] at hq
    k_steps
    exact hq _ _ (Fr.keep (by assumption))
theorem rows_Ftakes_end : True := by
  k_with_none
  trivial
end
section
theorem rows_Ftold : True := by
  k_with_none
  k_with "m:storeName" => (dsimp (config := { beta := false, eta := false, iota := false, proj := true, zeta := false }) only; walk_at "storeName")
  k_with "m:call builtin:len" => (k_dflt (((with_reducible show wpAny _ _ (call (Value.builtin "len") [Value.ref _]) _ _ _); (with_unfolding_all refine' len_L ?k1ₓ ?k2ₓ ?_); (case k1ₓ => is_list); (case k2ₓ => first | assumption | (simp only [List.size_toArray, List.length_map, len_strValues, List.length_cons, List.length_nil]; omega)))))
  k_with "m:exec For" => (k_dflt (((with_unfolding_all refine' wpAny_For ?_ ?hsₓ); (case hsₓ => (intro _; with_unfolding_all rfl)))))
  k_with "m:ite" => (first
    | (with_reducible refine ite_eqT ?kₓ ?_; (case kₓ => (simp only [List.size_toArray, len_strValues, List.length_cons, List.length_nil]; omega)))
    | (with_reducible refine ite_eqF ?kₓ ?_; (case kₓ => (simp only [List.size_toArray, len_strValues, List.length_cons, List.length_nil]; omega)))
    | (with_reducible refine ite_dT ?kₓ ?_; (case kₓ => (simp only [List.size_toArray, len_strValues, List.length_cons, List.length_nil]; omega)))
    | (with_reducible refine ite_dF ?kₓ ?_; (case kₓ => (simp only [List.size_toArray, len_strValues, List.length_cons, List.length_nil]; omega))))
  k_with "m:subscriptTail Name UnaryOp ref int" => (k_dflt (((with_reducible show wpAny _ _ (subscriptTail _ _ (Value.ref _) (Value.int _ _)) _ _ _); (refine' itemSt ?k0ₓ ?k1ₓ ?k2ₓ ?k3ₓ ?k4ₓ ?_ ?hsₓ); (case k0ₓ => with_reducible is_list); (case k1ₓ => (simp only [List.length_cons, List.length_nil]; omega)); (case k2ₓ => (simp only [List.length_cons, List.length_nil]; omega)); (case k3ₓ => (simp only [List.length_cons, List.length_nil]; omega)); (case k4ₓ => first | assumption | with_unfolding_all assumption | with_unfolding_all rfl); (case hsₓ => with_unfolding_all rfl))))
  k_with "m:subscriptTail Name Constant ref int" => (k_dflt (((with_reducible show wpAny _ _ (subscriptTail _ _ (Value.ref _) (Value.int _ _)) _ _ _); (refine' itemSt ?k0ₓ ?k1ₓ ?k2ₓ ?k3ₓ ?k4ₓ ?_ ?hsₓ); (case k0ₓ => with_reducible is_list); (case k1ₓ => (simp only [List.length_cons, List.length_nil]; omega)); (case k2ₓ => (simp only [List.length_cons, List.length_nil]; omega)); (case k3ₓ => (simp only [List.length_cons, List.length_nil]; omega)); (case k4ₓ => first | assumption | with_unfolding_all assumption | with_unfolding_all rfl); (case hsₓ => with_unfolding_all rfl))))
  k_with "m:compareOp Eq ref ref" => (k_dflt (((refine' eq_strs ?k0ₓ ?k1ₓ ?k2ₓ ?_); (case k0ₓ => is_list); (case k1ₓ => is_list); (case k2ₓ => (show _ + 3 < cLine; omega)))))
  k_with "m:subscriptTail" => ((k_dflt (((with_reducible show wpAny _ _ (subscriptTail _ (Expr.Slice (some _) none none _) (Value.str _ _) (Value.ref _)) _ _ _); (have Fₜ : Fr _ _ _ _ := by with_reducible assumption); (have Nₜ : News _ _ _ _ := by with_reducible assumption); (refine slice_strN_sn (hsz := ?hszₓ) (s := ⟨_, _, _, _, _⟩) Fₜ Nₜ ?_); (case hszₓ => (rw [PySem.sizeLine_eq]; omega)); intro _ _ _ _ _)); clear Fₜ Nₜ))
  k_with "m:binaryOp Add str str" => (k_dflt (((refine' PyProof.Rows.add_str ?_ ?hszₓ); (case hszₓ => (rw [PySem.sizeLine_eq]; (simp only [show (PySem.Str.ofString "?").length = 1 from rfl]); omega)); intro _ _)))
  k_with "m:subscriptTail Name Slice ref ref" => (k_dflt (((with_reducible show wpAny _ _ (subscriptTail _ (PySem.Expr.Slice _ _ none _) (Value.ref _) (Value.ref _)) _ _ _); (refine' sliceSt ?Fₓ ?Nₓ ?lₓ ?pₓ ?qₓ ?eₓ ?_ ?sₓ ?tₓ ?zₓ; (case Fₓ => with_reducible assumption); (case Nₓ => with_reducible assumption); (case lₓ => is_list); (case pₓ => with_reducible constructor); (case qₓ => with_reducible constructor); (case eₓ => first | with_reducible assumption | with_unfolding_all rfl); (case sₓ => with_unfolding_all rfl); (case tₓ => (intro _; with_unfolding_all rfl)); (case zₓ => (simp only [List.length_cons, List.length_nil]; omega))); intro _ _ _ _ _)))
  k_with "m:subscriptTail Name Constant ref int" => (k_dflt (((with_reducible show wpAny _ _ (subscriptTail _ _ (Value.ref _) (Value.int _ _)) _ _ _); (refine' itemSt ?k0ₓ ?k1ₓ ?k2ₓ ?k3ₓ ?k4ₓ ?_ ?hsₓ); (case k0ₓ => exact News.isList (by with_reducible assumption) (by k_mem)); (case k1ₓ => (simp only [List.length_cons, List.length_nil]; omega)); (case k2ₓ => (simp only [List.length_cons, List.length_nil]; omega)); (case k3ₓ => (simp only [List.length_cons, List.length_nil]; omega)); (case k4ₓ => first | assumption | with_unfolding_all assumption | with_unfolding_all rfl); (case hsₓ => with_unfolding_all rfl))))
  trivial
def cp (x : Str × Tok) : List Nat := x.1.cps.toList
theorem str_eq {x y : Str} : x = y ↔ x.cps.toList = y.cps.toList := by
  cases x; cases y; simp
theorem t_told {w : World} {mean mg mb} {A : Around} {s : Shared} {Q E : Value → Shared → Prop} (a b : Addr) (p0 q0 : Str × Tok) (pr qr : List (Str × Tok)) (very : Bool)
  (X : (KF w.params).In s.heap) (T : Top qV LV mean mg mb s.heap) (hroom : A.depth + 1 < recursionLimit) (hu : A.units + 10 < cLine) (hh : A.handled = none) (ha : s.heap.IsList a (strValues (p0 :: pr)).toArray) (hb : s.heap.IsList b (strValues (q0 :: qr)).toArray) (hls : ∀ x ∈ p0 :: pr, x.1.length ≤ 3000) (hls2 : ∀ x ∈ q0 :: qr, x.1.length ≤ 3000) (hp : pr.length ≤ 3000) (hq1 : qr.length ≤ 3000)
  (hq : ∀ h' tk, s.heap.StaysIn h' → Q (.bool (lawTold very (cp p0, pr.map cp) (cp q0, qr.map cp))) { s with heap := h', toks := tk }) :
  wpAny (model PySem.Challenge.rw_in0170_01.row.prog w) A (call (.ref 209) [.ref a, .ref b, .bool very]) Q E s := by
  revert X
  k_fill
  intro X
  refine' enter [(Str.ofString "p", .ref a), (Str.ofString "q", .ref b), (Str.ofString "very", .bool very)] X T ?k1 ?k6 ?k7 ?k9 ?kB ?_ ?c2 ?c3 ?c4 ?c5
  case k1 => omega
  case k6 => k_is
  case k7 => k_is
  case k9 => exact BindsTo.of_eq rfl
  case c5 => decide
  case kB => exact locs rfl
  case c2 => exact rfl
  case c3 => exact rfl
  case c4 => exact rfl
  intro L h₁ F N
  have hl0 := hls p0 (by simp)
  have hlq0 := hls2 q0 (by simp)
  match pr, ha, hp with
  | [], ha, hp =>
    have e : decide (List.map (·.1) [p0] = List.map (·.1) (q0 :: qr)) = lawTold very (cp p0, List.map cp []) (cp q0, qr.map cp) := by
      show _ = decide (_ = _)
      rw [Bool.eq_iff_iff, decide_eq_true_eq, decide_eq_true_eq]
      simp [cp, str_eq]
    rw [← e] at hq
    k_steps
    exact hq _ _ (Fr.keep (by assumption))
  | [p1], ha, hp =>
    match qr, hb, hq1 with
    | [], hb, hq1 =>
      have e : lawTold very (cp p0, List.map cp [p1]) (cp q0, List.map cp []) = ((cp p0 ++ [63]).isPrefixOf (cp q0) && ends ((cp q0).drop ((cp p0).length + 1)) (cp p1)) := rfl
      rw [e] at hq
      k_steps
      · rename Txt.startswith _ _ = true => hs
        rw [starts_eq, show (p0.1 ++ Str.ofString "?").cps.toList = cp p0 ++ [63] from by rw [str_app, q63]; rfl] at hs
        have e2 : Txt.endswith (Txt.slice q0.fst (some ((p0.fst.length : Int) + 1)) none) p1.fst = ((cp p0 ++ [63]).isPrefixOf (cp q0) && ends ((cp q0).drop ((cp p0).length + 1)) (cp p1)) := by
          rw [show cp q0 = q0.1.cps.toList from rfl, hs, Bool.true_and, ends_eq, show ((p0.fst.length : Int) + 1) = ((p0.fst.length + 1 : Nat) : Int) from rfl, slice_from]
          simp [cp, Str.length]
        rw [e2]
        exact hq _ _ (Fr.keep (by assumption))
      · rename Txt.startswith _ _ = false => hs
        have hs2 := hs
        rw [starts_eq, show (p0.1 ++ Str.ofString "?").cps.toList = cp p0 ++ [63] from by rw [str_app, q63]; rfl] at hs2
        rw [show cp q0 = q0.1.cps.toList from rfl, hs2, Bool.false_and, ← hs] at hq
        exact hq _ _ (Fr.keep (by assumption))
    | [q1], hb, hq1 =>
      have e : lawTold very (cp p0, List.map cp [p1]) (cp q0, List.map cp [q1]) = if cp q0 = cp p0 then ends (cp q1) (cp p1) else (cp p0 ++ [63]).isPrefixOf (cp q0) && ends (cp q1) (cp p1) := rfl
      rw [e] at hq
      k_steps
      · rename (_ == _) = true => hs
        rw [beq_iff_eq] at hs
        rw [if_pos (show cp q0 = cp p0 by simp [cp, hs]), show ends (cp q1) (cp p1) = Txt.endswith q1.1 p1.1 from (ends_eq _ _).symm] at hq
        exact hq _ _ (Fr.keep (by assumption))
      · rename Txt.startswith _ _ = true => hs
        rename (_ == _) = false => hn
        rw [starts_eq, show (p0.1 ++ Str.ofString "?").cps.toList = cp p0 ++ [63] from by rw [str_app, q63]; rfl] at hs
        rw [if_neg (show ¬ cp q0 = cp p0 from fun q => by rw [str_eq.mpr q] at hn; simp at hn), show cp q0 = q0.1.cps.toList from rfl, hs, Bool.true_and, show ends (cp q1) (cp p1) = Txt.endswith q1.1 p1.1 from (ends_eq _ _).symm] at hq
        exact hq _ _ (Fr.keep (by assumption))
      · rename Txt.startswith _ _ = false => hs
        rename (_ == _) = false => hn
        have hs2 := hs
        rw [starts_eq, show (p0.1 ++ Str.ofString "?").cps.toList = cp p0 ++ [63] from by rw [str_app, q63]; rfl] at hs2
        rw [if_neg (show ¬ cp q0 = cp p0 from fun q => by rw [str_eq.mpr q] at hn; simp at hn), show cp q0 = q0.1.cps.toList from rfl, hs2, Bool.false_and, ← hs] at hq
        exact hq _ _ (Fr.keep (by assumption))
    | q1 :: q2 :: qr, hb, hq1 =>
      simp only [List.length_cons] at hq1
      obtain ⟨ql, hql⟩ : ∃ ql, (q2 :: qr).getLast? = some ql := ⟨_, List.getLast?_eq_some_getLast (by simp)⟩
      have hlast : pyAt (q0 :: q1 :: q2 :: qr) (-1) = some ql := by
        unfold pyAt
        rw [if_pos (by decide), ← hql, List.getLast?_eq_getElem?]
        simp only [List.length_cons]
        rw [show ((-1 : Int) + ((qr.length + 1 + 1 + 1 : Nat) : Int)).toNat = qr.length + 1 + 1 by omega]
        simp
      have hgl : (cp q2 :: qr.map cp).getLast (by simp) = cp ql := by
        have e : (cp q2 :: qr.map cp).getLast? = some (cp ql) := by
          rw [show cp q2 :: qr.map cp = (q2 :: qr).map cp from rfl, List.getLast?_map, hql]; rfl
        rw [List.getLast?_eq_some_getLast (by simp)] at e
        exact Option.some.inj e
      have e : lawTold very (cp p0, List.map cp [p1]) (cp q0, List.map cp (q1 :: q2 :: qr)) = ((cp p0 ++ [63]).isPrefixOf (cp q0) && ends (cp ql) (cp p1)) := by
        rw [← hgl]; rfl
      rw [e] at hq
      k_steps
      · rename Txt.startswith _ _ = true => hs
        rw [starts_eq, show (p0.1 ++ Str.ofString "?").cps.toList = cp p0 ++ [63] from by rw [str_app, q63]; rfl] at hs
        rw [show cp q0 = q0.1.cps.toList from rfl, hs, Bool.true_and, show ends (cp ql) (cp p1) = Txt.endswith ql.1 p1.1 from (ends_eq _ _).symm] at hq
        exact hq _ _ (Fr.keep (by assumption))
      · rename Txt.startswith _ _ = false => hs
        have hs2 := hs
        rw [starts_eq, show (p0.1 ++ Str.ofString "?").cps.toList = cp p0 ++ [63] from by rw [str_app, q63]; rfl] at hs2
        rw [show cp q0 = q0.1.cps.toList from rfl, hs2, Bool.false_and, ← hs] at hq
        exact hq _ _ (Fr.keep (by assumption))
  | p1 :: p2 :: pr, ha, hp =>
    simp only [List.length_cons] at hp
    obtain ⟨pl, hpl⟩ : ∃ pl, (p2 :: pr).getLast? = some pl := ⟨_, List.getLast?_eq_some_getLast (by simp)⟩
    have hlastp : pyAt (p0 :: p1 :: p2 :: pr) (-1) = some pl := at1 _ _ _ _ hpl
    have hglp : (cp p2 :: pr.map cp).getLast (by simp) = cp pl := last1 cp p2 pr hpl
    match qr, hb, hq1 with
    | [], hb, hq1 =>
      have e : lawTold very (cp p0, List.map cp (p1 :: p2 :: pr)) (cp q0, List.map cp []) = false := rfl
      rw [e] at hq
      k_steps
      exact hq _ _ (Fr.keep (by assumption))
    | [q1], hb, hq1 =>
      have e : lawTold very (cp p0, List.map cp (p1 :: p2 :: pr)) (cp q0, List.map cp [q1]) = false := rfl
      rw [e] at hq
      k_steps
      exact hq _ _ (Fr.keep (by assumption))
    | q1 :: q2 :: qr, hb, hq1 =>
      simp only [List.length_cons] at hq1
      obtain ⟨ql, hql⟩ : ∃ ql, (q2 :: qr).getLast? = some ql := ⟨_, List.getLast?_eq_some_getLast (by simp)⟩
      have hlast : pyAt (q0 :: q1 :: q2 :: qr) (-1) = some ql := at1 _ _ _ _ hql
      have hgl : (cp q2 :: qr.map cp).getLast (by simp) = cp ql := last1 cp q2 qr hql
      obtain ⟨qm, hqm⟩ : ∃ qm, pyAt (q0 :: q1 :: q2 :: qr) (-2) = some qm := by
        unfold pyAt
        rw [if_pos (by decide)]
        simp only [List.length_cons]
        exact ⟨_, List.getElem?_eq_getElem (by simp only [List.length_cons]; omega)⟩
      have hqm2 : ((cp q1 :: cp q2 :: qr.map cp).dropLast.getLastD []) = cp qm := last2 cp [] q0 q1 q2 qr hqm
      have hsp : pickT (p0 :: p1 :: p2 :: pr) (some 1) (some (-1)) = (p1 :: p2 :: pr).dropLast := by
        rw [List.dropLast_eq_take]
        have h1 : kms_lo (some 1) (pr.length + 1 + 1 + 1) = 1 := by simp [kms_lo]
        have h2 : kms_hi (some (-1)) (pr.length + 1 + 1 + 1) = pr.length + 1 + 1 := by simp [kms_hi]
        unfold pickT
        simp only [List.length_cons, h1, h2]
        rfl
      have hsq : pickT (q0 :: q1 :: q2 :: qr) (some 1) (some (-2)) = (q1 :: q2 :: qr).dropLast.dropLast := by
        rw [dl2]
        have h1 : kms_lo (some 1) (qr.length + 1 + 1 + 1) = 1 := by simp [kms_lo]
        have h2 : kms_hi (some (-2)) (qr.length + 1 + 1 + 1) = qr.length + 1 := by simp [kms_hi]
        unfold pickT
        simp only [List.length_cons, h1, h2]
        rfl
      have e : lawTold very (cp p0, List.map cp (p1 :: p2 :: pr)) (cp q0, List.map cp (q1 :: q2 :: qr)) = 
        if cp q0 ≠ cp p0 ∨ ends (cp ql) (cp pl) = false then false else
          match (((q1 :: q2 :: qr).dropLast.dropLast.map cp).foldl (lstep very) ((p1 :: p2 :: pr).dropLast.map cp)) with
          | [a] => lcmp very (cp qm) a
          | _ => false := by
        rw [← hgl, ← hglp, ← hqm2, List.map_dropLast, List.map_dropLast, List.map_dropLast]
        rfl
      rw [e] at hq
      have hms : ∀ x ∈ (q1 :: q2 :: qr).dropLast.dropLast, x.1.length ≤ 3000 := fun x hx => hls2 x (.tail _ (List.dropLast_subset _ (List.dropLast_subset _ hx)))
      have hlf : ∀ x ∈ (p1 :: p2 :: pr).dropLast, x.1.length ≤ 3000 := fun x hx => hls x (.tail _ (List.dropLast_subset _ hx))
      have hms2 : (q1 :: q2 :: qr).dropLast.dropLast.length ≤ 3000 := by rw [dl2]; simp; omega
      have hlf2 : (p1 :: p2 :: pr).dropLast.length ≤ 3000 := by simp; omega
      generalize (q1 :: q2 :: qr).dropLast.dropLast = ms at hq hsq hms hms2
      generalize (p1 :: p2 :: pr).dropLast = lf at hq hsp hlf hlf2
      k_steps
      · rename (_ != _) = true => hn
        have hne : cp q0 ≠ cp p0 := fun q => by rw [str_eq.mpr q] at hn; simp at hn
        rw [if_pos (.inl hne)] at hq
        exact hq _ _ (Fr.keep (by assumption))
      rotate_left
      · rename Txt.endswith _ _ = false => hn
        rw [ends_eq] at hn
        rw [if_pos (.inr hn)] at hq
        exact hq _ _ (Fr.keep (by assumption))
      · rename (_ != _) = false => hn
        rename Txt.endswith _ _ = true => hm
        rw [ends_eq] at hm
        have hne : cp q0 = cp p0 := by
          have : q0.1 = p0.1 := by simpa using hn
          unfold cp; rw [this]
        rw [if_neg (by rw [show ends (cp ql) (cp pl) = true from hm]; simp [hne])] at hq
        rename_i Dp h1 l1 h2 F1 N1 Dq h3 F2 N2 l2
        have N2' : News s.heap L h3 [(Dp, W.listOf (strValues lf).toArray 0), (Dq, W.listOf (strValues ms).toArray 0)] := fun p hp => N2 p (by simp only [List.mem_cons, List.not_mem_nil, or_false] at hp ⊢; exact hp.symm)
        refine iter_listP (items := (strValues ms).toArray) (fun i m news => ∃ (D : Addr) (left : List (Str × Tok)), news = [(D, W.listOf (strValues left).toArray 0), (Dq, W.listOf (strValues ms).toArray 0)] ∧ left.length ≤ 3000 ∧ (∀ x ∈ left, x.1.length ≤ 3000) ∧ left.map cp = ((ms.take i).map cp).foldl (lstep very) (lf.map cp) ∧ m (Str.ofString "left") = some (.ref D) ∧ ∀ y, y ≠ Str.ofString "left" → y ∉ [Str.ofString "run"] → m y = List.lookup y [(Str.ofString "p", Value.ref a), (Str.ofString "q", Value.ref b), (Str.ofString "very", Value.bool very)].reverse) hh F2 N2' ⟨Dp, lf, rfl, hlf2, hlf, rfl, rfl, fun y h1 h2 => by simp [h1]⟩ ?_ ?_ ?_
        · rintro i m news h ⟨D, left, rfl, _⟩ F3 N3
          is_list
        · intro I i v m₁ news₁ h tk3 oI hi hJ off F3 N3 P hP
          refine ex2 hJ fun D left h0_ => an6 h0_ fun e1_ hl1 hl2 hl3 hm1 hm2 => ?_
          clear hJ h0_
          subst e1_
          rw [env1 hm1 hm2] at F3
          generalize m₁ = u at F3
          obtain ⟨x, hx, rfl⟩ : ∃ x, ms[i]? = some x ∧ v = .str x.1 x.2 := by
            simp only [strValues, List.getElem?_toArray, List.getElem?_map, Option.map_eq_some_iff] at hi
            obtain ⟨x, hx, hx2⟩ := hi
            exact ⟨x, hx, hx2.symm⟩
          have hx3 : x.1.length ≤ 3000 := hms x (List.mem_of_getElem? hx)
          have htk : ((ms.take (i + 1)).map cp).foldl (lstep very) (lf.map cp) = lstep very (left.map cp) (cp x) := by
            rw [List.take_add_one, hx, List.map_append, List.foldl_append, ← hl3]; rfl
          have hbase : ∀ (y : Str), y ≠ Str.ofString "left" → y ∉ [Str.ofString "run"] → (if y = Str.ofString "run" then some (Value.str x.1 x.2) else if y = Str.ofString "left" then some (Value.ref D) else if y ∈ [Str.ofString "run"] then u y else List.lookup y [(Str.ofString "p", Value.ref a), (Str.ofString "q", Value.ref b), (Str.ofString "very", Value.bool very)].reverse) = List.lookup y [(Str.ofString "p", Value.ref a), (Str.ofString "q", Value.ref b), (Str.ofString "very", Value.bool very)].reverse := by
            intro y h1 h2
            have h3 : y ≠ Str.ofString "run" := by simpa using h2
            simp [h1, h3]
          match left, hl1, hl2, hl3, htk with
          | [], hl1, hl2, hl3, htk =>
            k_steps
            refine hP _ _ (mkT (news₂ := [(D, _), (Dq, _)]) (by assumption) (by assumption) off ⟨D, [], rfl, hl1, hl2, htk.symm, rfl, hbase⟩)
          | [l0], hl1, hl2, hl3, htk =>
            k_steps
            refine hP _ _ (mkT (news₂ := [(D, _), (Dq, _)]) (by assumption) (by assumption) off ⟨D, [l0], rfl, hl1, hl2, htk.symm, rfl, hbase⟩)
          | l0 :: l1 :: lr, hl1, hl2, hl3, htk =>
            have hcut : pickT (l0 :: l1 :: lr) (some 1) none = l1 :: lr := by
              have h1 : kms_lo (some 1) (lr.length + 1 + 1) = 1 := by simp [kms_lo]
              have h2 : kms_hi none (lr.length + 1 + 1) = lr.length + 1 + 1 := rfl
              unfold pickT
              simp only [List.length_cons, h1, h2]
              simp
            simp only [List.length_cons] at hl1
            have hl00 := hl2 l0 (by simp)
            cases very with
            | true =>
              k_steps
              · rename (_ == _) = true => hc
                rename Addr => D2
                rename ∀ _ ∈ _, _ < D2 => l3
                rename News _ _ _ ((D2, _) :: _) => N4
                refine hP _ _ (mkT (news₂ := [(D2, _), (Dq, _)]) (by assumption) (fun p hp => N4 p (by simp only [List.mem_cons, List.not_mem_nil, or_false] at hp ⊢; rcases hp with hp | hp | hp <;> simp [hp])) ?_ ⟨D2, l1 :: lr, rfl, by simp only [List.length_cons]; omega, fun z hz => hl2 z (.tail _ hz), ?_, rfl, ?_⟩)
                · intro p hp
                  simp only [List.mem_cons, List.not_mem_nil, or_false] at hp
                  rcases hp with hp | hp
                  · rw [hp]; exact Ne.symm (Nat.ne_of_lt (l3 (I, oI) (by simp)))
                  · rw [hp]; exact off _ (by simp)
                · rw [htk]
                  have hcc : lcmp true (cp x) (cp l0) = true := by
                    rw [beq_iff_eq] at hc
                    show (cp x == cp l0) = true
                    simp [cp, hc]
                  show _ = if lcmp true (cp x) (cp l0) = true then _ else _
                  rw [if_pos hcc]
                  rfl
                · intro y h1 h2
                  have h3 : y ≠ Str.ofString "run" := by simpa using h2
                  simp [h1, h3]
              · rename (_ == _) = false => hc
                refine hP _ _ (mkT (news₂ := [(D, _), (Dq, _)]) (by assumption) (by assumption) off ⟨D, l0 :: l1 :: lr, rfl, by simp only [List.length_cons]; omega, hl2, ?_, rfl, hbase⟩)
                rw [htk]
                have hcc : ¬ lcmp true (cp x) (cp l0) = true := by
                  intro q
                  have q2 : cp x = cp l0 := by simpa [lcmp] using q
                  rw [str_eq.mpr q2] at hc
                  simp at hc
                show _ = if lcmp true (cp x) (cp l0) = true then _ else _
                rw [if_neg hcc]
            | false =>
              k_steps
              · rename Txt.endswith _ _ = true => hc
                rename Addr => D2
                rename ∀ _ ∈ _, _ < D2 => l3
                rename News _ _ _ ((D2, _) :: _) => N4
                refine hP _ _ (mkT (news₂ := [(D2, _), (Dq, _)]) (by assumption) (fun p hp => N4 p (by simp only [List.mem_cons, List.not_mem_nil, or_false] at hp ⊢; rcases hp with hp | hp | hp <;> simp [hp])) ?_ ⟨D2, l1 :: lr, rfl, by simp only [List.length_cons]; omega, fun z hz => hl2 z (.tail _ hz), ?_, rfl, ?_⟩)
                · intro p hp
                  simp only [List.mem_cons, List.not_mem_nil, or_false] at hp
                  rcases hp with hp | hp
                  · rw [hp]; exact Ne.symm (Nat.ne_of_lt (l3 (I, oI) (by simp)))
                  · rw [hp]; exact off _ (by simp)
                · rw [htk]
                  have hcc : lcmp false (cp x) (cp l0) = true := by
                    rw [ends_eq] at hc
                    exact hc
                  show _ = if lcmp false (cp x) (cp l0) = true then _ else _
                  rw [if_pos hcc]
                  rfl
                · intro y h1 h2
                  have h3 : y ≠ Str.ofString "run" := by simpa using h2
                  simp [h1, h3]
              · rename Txt.endswith _ _ = false => hc
                refine hP _ _ (mkT (news₂ := [(D, _), (Dq, _)]) (by assumption) (by assumption) off ⟨D, l0 :: l1 :: lr, rfl, by simp only [List.length_cons]; omega, hl2, ?_, rfl, hbase⟩)
                rw [htk]
                have hcc : ¬ lcmp false (cp x) (cp l0) = true := by
                  rw [ends_eq] at hc
                  show ¬ ends (cp x) (cp l0) = true
                  rw [show ends (cp x) (cp l0) = false from hc]
                  decide
                show _ = if lcmp false (cp x) (cp l0) = true then _ else _
                rw [if_neg hcc]
        · rintro m₁ news₁ h tk3 ⟨D, left, rfl, hl1, hl2, hl3, hm1, hm2⟩ F3 N3
          rw [env1 hm1 hm2] at F3
          generalize m₁ = u at F3
          rw [show (strValues ms).toArray.size = ms.length by simp [strValues], List.take_of_length_le (Nat.le_refl _)] at hl3
          rw [← hl3] at hq
          match left, hl1, hl2, hl3, hq with
          | [], hl1, hl2, hl3, hq =>
            replace hq : ∀ (h' : Heap) (tk : Nat), s.heap.StaysIn h' → Q (Value.bool false) { s with heap := h', toks := tk } := hq
            k_steps
            exact hq _ _ (Fr.keep (by assumption))
          | l0 :: l1 :: lr, hl1, hl2, hl3, hq =>
            replace hq : ∀ (h' : Heap) (tk : Nat), s.heap.StaysIn h' → Q (Value.bool false) { s with heap := h', toks := tk } := hq
            simp only [List.length_cons] at hl1
            k_steps
            exact hq _ _ (Fr.keep (by assumption))
          | [l0], hl1, hl2, hl3, hq =>
            have hl00 := hl2 l0 (by simp)
            have hqm3 : qm.1.length ≤ 3000 := hls2 qm (by unfold pyAt at hqm; exact List.mem_of_getElem? hqm)
            cases very with
            | true =>
              replace hq : ∀ (h' : Heap) (tk : Nat), s.heap.StaysIn h' → Q (Value.bool (cp qm == cp l0)) { s with heap := h', toks := tk } := hq
              rw [show (cp qm == cp l0) = (qm.1 == l0.1) by rw [Bool.eq_iff_iff, beq_iff_eq, beq_iff_eq]; exact str_eq.symm] at hq
              k_steps
              exact hq _ _ (Fr.keep (by assumption))
            | false =>
              replace hq : ∀ (h' : Heap) (tk : Nat), s.heap.StaysIn h' → Q (Value.bool (ends (cp qm) (cp l0))) { s with heap := h', toks := tk } := hq
              rw [show ends (cp qm) (cp l0) = Txt.endswith qm.1 l0.1 from (ends_eq _ _).symm] at hq
              k_steps
              exact hq _ _ (Fr.keep (by assumption))
theorem rows_Ftold_end : True := by
  k_with_none
  trivial
end
section
theorem rows_Fp : True := by
  k_with_none
  k_with "m:storeName" => (dsimp (config := { beta := false, eta := false, iota := false, proj := true, zeta := false }) only; walk_at "storeName")
  k_with "m:binaryOp FloorDiv int int" => (((with_reducible show wpAny _ _ (binaryOp Operator.FloorDiv (Value.int _ _) (Value.int (_ ^ _) _)) _ _ _); (refine floordiv_int (pow_small8 ?ka ?kb).2 ?_ (Or.inl (PyProof.noPylong_small (pow_small8 ?ka ?kb).1)); (case ka => first | exact Or.inl rfl | exact Or.inr rfl); (case kb => omega))))
  trivial
def One (p : Str × Tok) : Prop := ∃ c, p.1.cps.toList = [c] ∧ (c = 42 ∨ c ∈ signs)
theorem item_one {x : Str} {i : Nat} (h : i < x.length) (hs : okr x.cps.toList) : ∃ c, (Txt.item x (0 + (i : Int))).cps.toList = [c] ∧ (c = 42 ∨ c ∈ signs) := by
  rw [itemN (n := i) (by lia) h]
  refine ⟨_, rfl, .inr ?_⟩
  have h2 : i < x.cps.toList.length := by simpa [Str.length] using h
  rw [List.getD_eq_getElem?_getD, List.getElem?_eq_getElem h2]
  exact hs _ (List.getElem_mem h2)
theorem t_p {w : World} {mean mg mb} {A : Around} {s : Shared} {Q E : Value → Shared → Prop} (x : Str) (t : Tok) (y : Int) (u : Tok)
  (X : (KF w.params).In s.heap) (T : Top qV LV mean mg mb s.heap) (hroom : A.depth + 1 < recursionLimit) (hu : A.units + 10 < cLine) (hh : A.handled = none) (hx : x.length = 5) (hcol : okr x.cps.toList)
  (hq : ∀ h' tk a ps k, s.heap.StaysIn h' → h'.get? a = some (W.listOf (strValues ps).toArray k) → s.heap.get? a = none → ps.length = 5 → (∀ p ∈ ps, One p) → Q (.ref a) { s with heap := h', toks := tk }) :
  wpAny (model PySem.Challenge.rw_in0170_01.row.prog w) A (call (.ref 214) [.str x t, .int y u]) Q E s := by
  revert X
  k_fill
  intro X
  refine' enterC [(Str.ofString "columns", .str x t), (Str.ofString "y", .int y u)] X T ?k1 ?k6 ?k7 ?k9 ?kB ?kD ?_ ?c2 ?c3 ?c4
  case k1 => lia
  case k6 => k_is
  case k7 => k_is
  case k9 => exact BindsTo.of_eq rfl
  case kB => exact rfl
  case kD => decide +kernel
  case c2 => exact rfl
  case c3 => exact rfl
  case c4 => exact rfl
  intro L h₁ tk₁ cells₁ F N Y
  k_cells Y
  try dsimp only
  k_steps
  rename_i F1 o1 o2 d1 d2 N1 h2 tk2 t2 u2 v2 hr F2 N2 k2
  refine LCg.CompSrc.range hh F2 N2 hr (by decide) (n := 5) rfl (by rw [PySem.sizeLine_eq]; decide) fun g => ?_
  clear hr k2 F2 N1 N2 F1
  suffices hgen : ∀ j i ps, i + j = 5 → ps.length = i → (∀ p ∈ ps, One p) → LCg.CompRest _ w _ _ _ _ _ _ _ _ _ _ _ _ _ j i (strValues ps) _ from hgen 5 0 [] rfl rfl (fun _ h => nomatch h)
  intro j
  induction j with
  | zero =>
    intro i ps hi hps hone
    refine LCg.CompRest.zero ?_
    k_steps
    rename_i D h4 tk4 F4 N4 of4
    exact hq _ _ _ ps _ (Fr.keep F4) (N4 _ (.head _)).1 (N4 _ (.head _)).2.2 (by lia) hone
  | succ j ih =>
    intro i ps hi hps hone
    refine LCg.CompRest.succ ?_
    intro v I oI C oC D m2 h3 tk3 E' hv hC hx' F' N' off' ne'
    obtain ⟨tv, rfl⟩ := hv
    have hi5 : i < 5 := by lia
    have hsnoc : ∀ (z : Str) (tz : Tok), strValues ps ++ [Value.str z tz] = strValues (ps ++ [(z, tz)]) := fun z tz => by simp [strValues]
    have hsn : ∀ (z : Str) (tz : Tok), One (z, tz) → ∀ p ∈ ps ++ [(z, tz)], One p := fun z tz h p hp => by
      rcases List.mem_append.mp hp with hp | hp
      · exact hone p hp
      · rw [List.mem_singleton.mp hp]; exact h
    dsimp only
    k_steps
    · refine LCg.CompEnd.intro (by assumption) (by assumption) [(_, o1), (_, o2)] (fun p hp => hp) (by assumption) trivial ?_
      rw [hsnoc]
      exact ih _ _ (by lia) (by simp only [List.length_append, List.length_singleton]; lia) (hsn _ _ ⟨42, rfl, .inl rfl⟩)
    · refine LCg.CompEnd.intro (by assumption) (by assumption) [(_, o1), (_, o2)] (fun p hp => hp) (by assumption) trivial ?_
      rw [hsnoc]
      exact ih _ _ (by lia) (by simp only [List.length_append, List.length_singleton]; lia) (hsn _ _ ⟨63, rfl, .inr (by decide)⟩)
    · refine LCg.CompEnd.intro (by assumption) (by assumption) [(_, o1), (_, o2)] (fun p hp => hp) (by assumption) trivial ?_
      rw [hsnoc]
      exact ih _ _ (by lia) (by simp only [List.length_append, List.length_singleton]; lia) (hsn _ _ (item_one (by lia) hcol))
theorem rows_Fp_end : True := by
  k_with_none
  trivial
end
section
theorem rows_Fq : True := by
  k_with_none
  k_with "m:storeName" => (dsimp (config := { beta := false, eta := false, iota := false, proj := true, zeta := false }) only; walk_at "storeName")
  k_with "m:exec For Name Call cons nil" => (k_dflt (((with_unfolding_all refine' wpAny_For ?_ ?hs); (case hs => (intro _; with_unfolding_all rfl)))))
  k_with "m:subscriptTail Name Name ref int" => (k_dflt (((with_reducible show wpAny _ _ (subscriptTail _ _ (Value.ref _) (Value.int _ _)) _ _ _); (refine' itemSt ?k0 ?k1 ?k2 ?k3 ?k4 ?_ ?hs); (case k0 => with_reducible is_list); (case k1 => first | assumption | lia | (simp only [List.length_cons, List.length_nil]; lia)); (case k2 => first | assumption | lia | (simp only [List.length_cons, List.length_nil]; lia)); (case k3 => first | assumption | lia | (simp only [List.length_cons, List.length_nil]; lia)); (case k4 => first | assumption | with_unfolding_all assumption | with_unfolding_all rfl); (case hs => with_unfolding_all rfl))))
  k_with "m:binaryOp FloorDiv int int" => (k_dflt (((with_reducible show wpAny _ _ (binaryOp Operator.FloorDiv (Value.int _ _) (Value.int (_ ^ _) _)) _ _ _); (refine floordiv_int (pow_small8 ?ka ?kb).2 ?_ (Or.inl (PyProof.noPylong_small (pow_small8 ?ka ?kb).1)); (case ka => first | exact Or.inl rfl | exact Or.inr rfl); (case kb => lia)))))
  k_with "m:unpackItems ref" => (k_dflt (((refine' unpackItemsN_ ?k1 ?k2 ?k3 ?k4 ?k5 ?_; (case k1 => with_reducible assumption); (case k2 => with_reducible assumption); (case k3 => first | exact News.isTup (by with_reducible assumption) (by exact .head _) | exact News.isTup (by with_reducible assumption) (by exact .tail _ (.head _))); (case k4 => exact deeper_handled (by with_reducible assumption)); (case k5 => with_unfolding_all rfl)); intro _ _ _)))
  trivial
def Sm (y : Str) : Prop := y.length ≤ 3 ∧ okt y.cps.toList
theorem sm_of {y : Str} {l : List Nat} (h : y.cps.toList = l) (h2 : l.length ≤ 3) (h3 : ∀ c ∈ l, c = 42 ∨ c ∈ signs) : Sm y :=
  ⟨by rw [← h] at h2; simpa [Str.length] using h2, by rw [h]; exact h3⟩
theorem t_q {w : World} {mean mg mb} {A : Around} {s : Shared} {Q E : Value → Shared → Prop} (c : Str) (t : Tok) (a : Addr) (ps : List (Str × Tok)) (x : Int) (u0 : Tok)
  (X : (KF w.params).In s.heap) (T : Top qV LV mean mg mb s.heap) (hroom : A.depth + 1 < recursionLimit) (hu : A.units + 10 < cLine) (hh : A.handled = none) (hx : c.length = 5) (hcol : okr c.cps.toList) (ha : s.heap.IsList a (strValues ps).toArray) (hps : ps.length = 5) (hone : ∀ p ∈ ps, One p)
  (hq : ∀ h' tk z tz, s.heap.StaysIn h' → okt z.cps.toList → z.length ≤ 15 → Q (.str z tz) { s with heap := h', toks := tk }) :
  wpAny (model PySem.Challenge.rw_in0170_01.row.prog w) A (call (.ref 221) [.str c t, .ref a, .int x u0]) Q E s := by
  revert X
  k_fill
  intro X
  refine' enter [(Str.ofString "columns", .str c t), (Str.ofString "mine", .ref a), (Str.ofString "x", .int x u0)] X T ?k1 ?k6 ?k7 ?k9 ?kB ?_ ?c2 ?c3 ?c4 ?c5
  case k1 => lia
  case k6 => k_is
  case k7 => k_is
  case k9 => exact BindsTo.of_eq rfl
  case c5 => decide
  case kB => exact locs rfl
  case c2 => exact rfl
  case c3 => exact rfl
  case c4 => exact rfl
  intro L h₁ F N
  k_steps
  rename_i h2 F1 N1 h3 tk3 t2 u2 v2 hr F2 N2 k2
  dsimp only at F2 hr ⊢
  refine iter_rangeP (n := 5) (fun i m news => news = [] ∧ ∃ (z : Str) (tz : Tok), okt z.cps.toList ∧ z.length ≤ 3 * i ∧ m (Str.ofString "told") = some (.str z tz) ∧ ∀ y, y ≠ Str.ofString "told" → y ∉ [Str.ofString "k", Str.ofString "sign", Str.ofString "d"] → m y = List.lookup y [(Str.ofString "columns", Value.str c t), (Str.ofString "mine", Value.ref a), (Str.ofString "x", Value.int x u0)].reverse) hh hr (by decide) rfl F2 N2 ⟨rfl, _, _, ?_, ?_, rfl, fun y h1 h2 => by simp [h1]⟩ ?_ ?_
  · exact fun d hd => nomatch (show d ∈ ([] : List Nat) from hd)
  · decide
  · intro I i t3 m₁ news₁ h tk3 oI hi hJ off F3 N3 P hP
    obtain ⟨rfl, z, tz, hz1, hz2, hm1, hm2⟩ := hJ
    rw [env1 hm1 hm2] at F3
    generalize m₁ = u at F3
    have hi5 : i < ps.length := by lia
    have hpi : pyAt ps (0 + (i : Int)) = some ps[i] := by
      unfold pyAt
      rw [if_neg (by lia), show (0 + (i : Int)).toNat = i by lia]
      exact List.getElem?_eq_getElem hi5
    have hp1 := hone _ (List.getElem_mem hi5)
    generalize ps[i] = p at hpi hp1
    have hk1 : -(ps.length : Int) ≤ 0 + (i : Int) := by lia
    have hk2 : 0 + (i : Int) < (ps.length : Int) := by lia
    have hk3 : ps.length ≤ 1000000 := by lia
    have hit := item_one (i := i) (x := c) (by lia) hcol
    obtain ⟨ci, hci, hci2⟩ := hit
    obtain ⟨pc, hpc, hpc2⟩ := hp1
    have s1 : Sm (Str.ofString "*") := sm_of (l := [42]) (by decide) (by decide) (by decide)
    have s2 : Sm (Str.ofString "?") := sm_of (l := [63]) (by decide) (by decide) (by decide)
    have s3 : Sm (Txt.item c (0 + (i : Int))) := sm_of hci (by simp) (fun d hd => by rw [List.mem_singleton.mp hd]; exact hci2)
    have s4 : Sm (Str.ofString "") := sm_of (l := []) (by decide) (by decide) (by decide)
    have s5 : Sm (Str.ofString "*" ++ Txt.item c (0 + (i : Int)) ++ Str.ofString "*") := sm_of (l := [42, ci, 42]) (by rw [str_app, str_app, hci]; rfl) (by simp) (fun d hd => by simp only [List.mem_cons, List.not_mem_nil, or_false] at hd; rcases hd with rfl | rfl | rfl <;> first | exact .inl rfl | exact hci2)
    have s6 : Sm (Str.ofString "*" ++ Txt.item c (0 + (i : Int))) := sm_of (l := [42, ci]) (by rw [str_app, hci]; rfl) (by simp) (fun d hd => by simp only [List.mem_cons, List.not_mem_nil, or_false] at hd; rcases hd with rfl | rfl <;> first | exact .inl rfl | exact hci2)
    have s7 : Sm (Txt.item c (0 + (i : Int)) ++ Str.ofString "*") := sm_of (l := [ci, 42]) (by rw [str_app, hci]; rfl) (by simp) (fun d hd => by simp only [List.mem_cons, List.not_mem_nil, or_false] at hd; rcases hd with rfl | rfl <;> first | exact .inl rfl | exact hci2)
    have s8 : Sm (Str.ofString "?*") := sm_of (l := [63, 42]) (by decide) (by decide) (by decide)
    have s9 : Sm p.1 := sm_of hpc (by simp) (fun d hd => by rw [List.mem_singleton.mp hd]; exact hpc2)
    have fin : ∀ (y : Str) (m' : Str → Option Value) (ty : Tok), m' (Str.ofString "told") = some (.str (z ++ y) ty) → Sm y → 
        (∀ y, y ≠ Str.ofString "told" → y ∉ [Str.ofString "k", Str.ofString "sign", Str.ofString "d"] → m' y = List.lookup y [(Str.ofString "columns", Value.str c t), (Str.ofString "mine", Value.ref a), (Str.ofString "x", Value.int x u0)].reverse) →
        ∃ (z : Str) (tz : Tok), okt z.cps.toList ∧ z.length ≤ 3 * (i + 1) ∧ m' (Str.ofString "told") = some (.str z tz) ∧ ∀ y, y ≠ Str.ofString "told" → y ∉ [Str.ofString "k", Str.ofString "sign", Str.ofString "d"] → m' y = List.lookup y [(Str.ofString "columns", Value.str c t), (Str.ofString "mine", Value.ref a), (Str.ofString "x", Value.int x u0)].reverse := by
      intro y m' ty hm hy hm'
      refine ⟨z ++ y, ty, ?_, ?_, hm, hm'⟩
      · rw [str_app]; exact fun c hc => (List.mem_append.mp hc).elim (hz1 c) (hy.2 c)
      · have : (z ++ y).length = z.length + y.length := by have := congrArg List.length (str_app z y); simpa [Str.length] using this
        have := hy.1
        lia
    have hpl : p.1.length ≤ 3 := s9.1
    clear hci hpc hci2 hpc2
    k_steps
    all_goals
      rename News _ _ _ _ => nn
      refine hP _ _ (mkT (news₂ := []) (by assumption) (fun p hp => nn p (by rw [List.mem_singleton.mp hp]; simp)) (fun _ h => nomatch h) ⟨rfl, fin _ _ _ rfl (by assumption) ?_⟩)
      intro y h1 h2
      simp only [List.mem_cons, List.not_mem_nil, or_false, not_or] at h2
      simp [h1, h2.1, h2.2.1, h2.2.2]
  · rintro m₁ news₁ h tk3 ⟨rfl, z, tz, hz1, hz2, hm1, hm2⟩ F3 N3
    rw [env1 hm1 hm2] at F3
    generalize m₁ = u at F3
    k_steps
    exact hq _ _ _ _ (Fr.keep (by assumption)) hz1 (by lia)
theorem rows_Fq_end : True := by
  k_with_none
  trivial
end
section
theorem pick_small {l : List (Str × Tok)} {x : Str} (h : l.map (·.1) = Txt.split x (Str.ofString "*")) (hx : x.length ≤ 3000) : l.length ≤ 1000000 := by
  have := split_small h; lia
theorem pick_small1 {l : List (Str × Tok)} {x : Str} {lo hi : Option Int} (h : l.map (·.1) = Txt.split x (Str.ofString "*")) (hx : x.length ≤ 3000) : (pickT l lo hi).length ≤ 1000000 :=
  Nat.le_trans (pick_le l lo hi) (pick_small h hx)
theorem addSt {prog : Program} {w : World} {A : Around} {E : Value → Shared → Prop} {s : Shared} {h₀ : Heap} {L a b : Addr} {m : Str → Option Value} {news : List (Addr × Obj)} {ps qs : List (Str × Tok)} {Q : Value → Shared → Prop} (F : Fr h₀ L s.heap m) (N : News h₀ L s.heap news) (ha : s.heap.IsList a (strValues ps).toArray) (hb : s.heap.IsList b (strValues qs).toArray) (hz : ps.length + qs.length ≤ 1000000)
    (h : ∀ D h', Fr h₀ L h' m → News h₀ L h' ((D, listOf (strValues (ps ++ qs)).toArray 0) :: news) → Q (.ref D) { s with heap := h' }) : wpAny (model prog w) A (binaryOp .Add (.ref a) (.ref b)) Q E s := by
  refine add_lists F N ha hb (fun h' F' N' => ?_) (by rw [PySem.sizeLine_eq, len_strValues, len_strValues]; lia)
  rw [show strValues ps ++ strValues qs = strValues (ps ++ qs) by simp [strValues]] at N'
  exact h _ h' F' N'
theorem rows_Fruns : True := by
  k_with_none
  k_with "m:storeName" => (dsimp (config := { beta := false, eta := false, iota := false, proj := true, zeta := false }) only; walk_at "storeName")
  k_with "m:binaryOp Add ref ref" => (k_dflt (((refine' addSt ?Fₓ ?Nₓ ?aₓ ?bₓ ?zₓ ?_; (case Fₓ => with_reducible assumption); (case Nₓ => with_reducible assumption); (case aₓ => is_list); (case bₓ => is_list); (case zₓ => first | omega | (simp only [List.length_append]; omega))); intro _ _ _ _)))
  k_with "m:subscriptTail Name Slice ref ref" => (k_dflt (((with_reducible show wpAny _ _ (subscriptTail _ (PySem.Expr.Slice _ _ none _) (Value.ref _) (Value.ref _)) _ _ _); (refine' sliceSt ?Fₓ ?Nₓ ?lₓ ?pₓ ?qₓ rfl ?_ ?sₓ ?tₓ ?zₓ; (case Fₓ => with_reducible assumption); (case Nₓ => with_reducible assumption); (case lₓ => first | is_list | exact News.isList (by with_reducible assumption) (by k_mem)); (case pₓ => with_reducible constructor); (case qₓ => with_reducible constructor); (case sₓ => with_unfolding_all rfl); (case tₓ => (intro _; with_unfolding_all rfl)); (case zₓ => first | exact pick_small (by assumption) (by assumption) | exact pick_small1 (by assumption) (by assumption))); intro _ _ _ _ _)))
  k_with "m:eval ListComp" => (k_dflt ((with_unfolding_all refine LCt.ListComp_T (F₀ := by with_reducible assumption) (by with_unfolding_all rfl) (by decide) (by rfl) (by decide) (by rfl) ?_)))
  trivial
theorem t_runs {w : World} {mean mg mb} {A : Around} {s : Shared} {Q E : Value → Shared → Prop} (x : Str) (t : Tok)
  (X : (KF w.params).In s.heap) (T : Top qV LV mean mg mb s.heap) (hroom : A.depth + 1 < recursionLimit) (hu : A.units + 10 < cLine) (hh : A.handled = none) (hx : x.length ≤ 3000)
  (hq : ∀ h' tk a p0 pr, s.heap.StaysIn h' → h'.IsList a (strValues (p0 :: pr)).toArray → (cp p0, pr.map cp) = runs x.cps.toList → (∀ y ∈ p0 :: pr, y.1.length ≤ x.length) → pr.length ≤ x.length + 1 → Q (.ref a) { s with heap := h', toks := tk }) :
  wpAny (model PySem.Challenge.rw_in0170_01.row.prog w) A (call (.ref 202) [.str x t]) Q E s := by
  revert X
  k_fill
  intro X
  refine' enter [(Str.ofString "text", .str x t)] X T ?k1 ?k6 ?k7 ?k9 ?kB ?_ ?c2 ?c3 ?c4 ?c5
  case k1 => lia
  case k6 => k_is
  case k7 => k_is
  case k9 => exact BindsTo.of_eq rfl
  case c5 => decide
  case kB => exact locs rfl
  case c2 => exact rfl
  case c3 => exact rfl
  case c4 => exact rfl
  intro L h₁ F N
  have hx6 : x.length ≤ 1000000 := by lia
  k_steps
  rename_i l h3 k hl hl2 hl3 hl4 h4 F4 N4 D1 h5 F5 N5 of5 D2 h6 F6 N6 of6
  refine LCt.CompSrcT.ledger hh F6 N6 (.head _) (by rw [PySem.sizeLine_eq, List.size_toArray, len_strValues]; exact Nat.le_trans (pick_small1 hl hx) (by decide)) fun g => ?_
  clear N5 F5 F4 N4 F6 N6 of5
  generalize hz : pickT l (some 1) (some (-1)) = mid
  have hml : ∀ y ∈ mid, y ∈ l := fun y hy => by rw [← hz] at hy; exact List.mem_of_mem_drop (List.mem_of_mem_take hy)
  have hms : (strValues mid).toArray.size = mid.length := by rw [List.size_toArray, len_strValues]
  rw [hms]
  suffices hgen : ∀ j i, i + j = mid.length → LCt.CompRestT _ w _ _ _ _ _ _ _ _ _ _ _ _ _ _ j i (strValues ((mid.take i).filter full)) _ from hgen mid.length 0 (by lia)
  intro j
  induction j with
  | zero =>
    intro i hi
    have e : i = mid.length := by lia
    subst e
    rw [List.take_length]
    refine LCt.CompRestT.zero ?_
    have q0 := split_small hl
    have q1 : (pickT l none (some 1)).length ≤ 3002 := Nat.le_trans (pick_le _ _ _) (by lia)
    have q2 : (mid.filter full).length ≤ 3002 := by
      have h1 : mid.length ≤ l.length := by rw [← hz]; exact pick_le _ _ _
      have h2 := List.length_filter_le full mid
      lia
    have q3 : (pickT (pickT l (some 1) none) (some (-1)) none).length ≤ 3002 := Nat.le_trans (pick_le _ _ _) (Nat.le_trans (pick_le _ _ _) (by lia))
    obtain ⟨p0, pr, e1, e2, e3⟩ := pieces_runs cp (fun _ => rfl) hl
    rw [hz] at e1
    have e4 : pr.length ≤ x.length + 1 := by
      obtain ⟨r0, rr, e5, e6⟩ := cut_split hl
      have h1 := congrArg List.length e1
      rw [e5, pick_1, pick_3, ← hz, e5, pick_2] at h1
      rw [e5, List.length_cons] at q0
      have h2 := List.length_filter_le full rr.dropLast
      simp only [List.length_append, List.length_cons, List.length_nil, List.length_drop, List.length_dropLast] at h1 h2
      lia
    k_steps
    rename News _ _ _ _ => N9
    rw [e1] at N9
    exact hq _ _ _ p0 pr (Fr.keep (by assumption)) ⟨_, (N9 _ (.head _)).1, rfl, _, rfl⟩ e2 (fun y hy => hl3 _ (List.mem_map_of_mem (e3 y hy))) e4
  | succ j ih =>
    intro i hi
    have him : i < mid.length := by lia
    have hs : (mid.take (i + 1)).filter full = (mid.take i).filter full ++ if full mid[i] then [mid[i]] else [] := by
      rw [List.take_succ_eq_append_getElem him, List.filter_append, List.filter_cons]
      rfl
    refine LCt.CompRestT.succ ?_
    intro v I oI C oC D m2 h7 tk3 E' hv hC hx' F' N' off' ne'
    have hv2 : v = .str mid[i].1 mid[i].2 := by
      have hv : (strValues mid).toArray[i]? = some v := hv
      simp [strValues, List.getElem?_eq_getElem him] at hv
      exact hv.symm
    have hl9 := hl3 mid[i].1 (List.mem_map_of_mem (hml _ (List.getElem_mem him)))
    subst hv2
    generalize mid[i] = q at hs hx' hl9
    dsimp only
    k_steps
    · rename (_ : Int) ≠ 0 => hb
      have hb : full q = true := by simp only [full, bne_iff_ne]; lia
      refine LCg.CompEnd.intro (by assumption) (by assumption) [(_, _), (_, _), (_, _)] (fun p hp => hp) (by assumption) (.inr ⟨_, .head _, rfl, _, rfl⟩) ?_
      rw [show strValues ((mid.take i).filter full) ++ [Value.str q.1 q.2] = strValues ((mid.take (i + 1)).filter full) by rw [hs, if_pos hb]; simp [strValues]]
      exact ih _ (by lia)
    · rename (_ : Int) = 0 => hb
      have hb : full q = false := by simp only [full, bne_eq_false_iff_eq]; lia
      refine LCg.CompEnd.intro (by assumption) (by assumption) [(_, _), (_, _), (_, _)] (fun p hp => hp) (by assumption) (.inr ⟨_, .head _, rfl, _, rfl⟩) ?_
      rw [show strValues ((mid.take i).filter full) = strValues ((mid.take (i + 1)).filter full) by rw [hs, if_neg (by rw [hb]; decide), List.append_nil]]
      exact ih _ (by lia)
theorem rows_Fruns_end : True := by
  k_with_none
  trivial
end
section
theorem rows_Fmode : True := by
  k_with_none
  k_with "m:storeName" => (dsimp (config := { beta := false, eta := false, iota := false, proj := true, zeta := false }) only; walk_at "storeName")
  k_with "m:exec For" => (((with_unfolding_all refine' wpAny_For ?_ ?hsₓ); (case hsₓ => (intro _; with_unfolding_all rfl))))
  k_with "m:assign Tuple" => (((with_unfolding_all refine' assign_T2 ?k0ₓ (by assumption) (by assumption) ?k1ₓ ?_ ?k2ₓ ?k3ₓ ?k4ₓ); (case k0ₓ => assumption); (case k1ₓ => first | assumption | exact IsTup.keeps (by assumption) (Fr.keep (by assumption))); (case k2ₓ => with_unfolding_all rfl); (case k3ₓ => with_unfolding_all rfl); (case k4ₓ => with_unfolding_all rfl); intro _ _ _ _))
  k_with "m:pyIter ref" => (((with_reducible show wpAny _ _ (pyIter (Value.ref _)) _ _ _); refine Stop.mk ?_))
  k_with "m:call builtin:str.join" => (((refine' join_L ?k1ₓ ?k2ₓ ?_); (case k1ₓ => is_list); (case k2ₓ => first | with_reducible assumption | omega); intro _ _ _ _))
  k_with "m:call builtin:list.append" => ((((with_reducible show wpAny _ _ (call (Value.builtin _) [Value.ref _, _]) _ _ _); (have Fₜ := (by with_reducible assumption : Fr _ _ _ _)); (have Nₜ := (by with_reducible assumption : News _ _ _ _)); first
    | ((k_dflt (refine' appendN (own := []) Fₜ Nₜ all0 ?h2ₓ ?hzₓ ?_)); (case h2ₓ => repeat' (first | exact all0 | (refine all1 ?_ ?_) | with_reducible assumption | exact Ne.symm (by with_reducible assumption))); (case hzₓ => first | with_reducible assumption | omega); intro _ _ N'ₓ; (try simp only [List.nil_append, List.cons_append] at N'ₓ))
    | ((k_dflt (refine' appendN (own := [_]) Fₜ Nₜ ?h1ₓ ?h2ₓ ?hzₓ ?_)); (case h1ₓ => repeat' (first | exact all0 | (refine all1 ?_ ?_) | with_reducible assumption | exact Ne.symm (by with_reducible assumption))); (case h2ₓ => repeat' (first | exact all0 | (refine all1 ?_ ?_) | with_reducible assumption | exact Ne.symm (by with_reducible assumption))); (case hzₓ => first | with_reducible assumption | omega); intro _ _ N'ₓ; (try simp only [List.nil_append, List.cons_append] at N'ₓ))
    | ((k_dflt (refine' appendN (own := [_, _]) Fₜ Nₜ ?h1ₓ ?h2ₓ ?hzₓ ?_)); (case h1ₓ => repeat' (first | exact all0 | (refine all1 ?_ ?_) | with_reducible assumption | exact Ne.symm (by with_reducible assumption))); (case h2ₓ => repeat' (first | exact all0 | (refine all1 ?_ ?_) | with_reducible assumption | exact Ne.symm (by with_reducible assumption))); (case hzₓ => first | with_reducible assumption | omega); intro _ _ N'ₓ; (try simp only [List.nil_append, List.cons_append] at N'ₓ))
    | ((k_dflt (refine' appendN (own := [_, _, _]) Fₜ Nₜ ?h1ₓ ?h2ₓ ?hzₓ ?_)); (case h1ₓ => repeat' (first | exact all0 | (refine all1 ?_ ?_) | with_reducible assumption | exact Ne.symm (by with_reducible assumption))); (case h2ₓ => repeat' (first | exact all0 | (refine all1 ?_ ?_) | with_reducible assumption | exact Ne.symm (by with_reducible assumption))); (case hzₓ => first | with_reducible assumption | omega); intro _ _ N'ₓ; (try simp only [List.nil_append, List.cons_append] at N'ₓ))); clear Fₜ Nₜ; revert N'ₓ; intro _))
  trivial
theorem t_ifmt {w : World} {mean mg mb} {A : Around} {s : Shared} {Q E : Value → Shared → Prop} (n : Int) (t : Tok)
  (X : (KF w.params).In s.heap) (T : Top qV LV mean mg mb s.heap) (hroom : A.depth + 1 < recursionLimit) (hu : A.units + 10 < cLine) (hh : A.handled = none) (h0 : 0 ≤ n) (h1 : n < 65536)
  (hq : ∀ h' tk t, s.heap.StaysIn h' → Q (.int (Builtin.bitAnd n 61440) t) { s with heap := h', toks := tk }) :
  wpAny (model PySem.Challenge.rw_in0170_01.row.prog w) A (call (.ref 131) [.int n t]) Q E s := by
  revert X
  k_fill
  intro X
  refine' enter [(Str.ofString "mode", .int n t)] X T ?k1 ?k6 ?k7 ?k9 ?kB ?_ ?c2 ?c3 ?c4 ?c5
  case k1 => lia
  case k6 => k_is
  case k7 => k_is
  case k9 => exact BindsTo.of_eq rfl
  case c5 => decide
  case kB => exact locs rfl
  case c2 => exact rfl
  case c3 => exact rfl
  case c4 => exact rfl
  intro L h₁ F N
  k_steps
  exact hq _ _ _ (Fr.keep (by assumption))
def PairAt (h : Heap) (v : Value) (p : Nat × Nat) : Prop := ∃ r t1 t2, v = .ref r ∧ IsTup h r [Value.int (p.1 : Int) t1, Value.str ⟨#[p.2]⟩ t2].toArray
def RowAt (h : Heap) (v : Value) (row : List (Nat × Nat)) : Prop := ∃ r vs, v = .ref r ∧ IsTup h r vs ∧ vs.size = row.length ∧ ∀ (i : Nat) p, row[i]? = some p → ∃ v, vs[i]? = some v ∧ PairAt h v p
def tableL : List (List (Nat × Nat)) := [[(40960, 108), (49152, 115), (32768, 45), (24576, 98), (16384, 100), (8192, 99), (4096, 112)], [(256, 114)], [(128, 119)], [(2112, 115), (2048, 83), (64, 120)], [(32, 114)], [(16, 119)], [(1032, 115), (1024, 83), (8, 120)], [(4, 114)], [(2, 119)], [(513, 116), (512, 84), (1, 120)]]
def hits (i n b : Nat) : Bool := if i = 0 then n &&& 61440 == b else n &&& b == b
def rowPick (i n : Nat) (row : List (Nat × Nat)) : Nat := match row.find? (fun p => hits i n p.1) with
  | some p => p.2
  | none => if i = 0 then 63 else 45
def modeL (n : Nat) : List Nat := (List.range 10).map fun i => rowPick i n (tableL.getD i [])
theorem tabs {P : Params} {h : Heap} (X : (KF P).In h) : ∃ vs, IsTup h 164 vs ∧ vs.size = 10 ∧ ∀ (i : Nat) row, tableL[i]? = some row → ∃ v, vs[i]? = some v ∧ RowAt h v row := by
  have g : ∀ a o, (KF P).lookup a = some o → ∀ vs, o.cls = .type "tuple" → o.data = .seq vs 0 → IsTup h a vs := fun a o e vs h1 h2 => ⟨o, X _ _ e, h1, 0, h2⟩
  have pr : ∀ (a : Addr) (b c : Nat) (t1 t2 : Tok), IsTup h a [Value.int (b : Int) t1, Value.str ⟨#[c]⟩ t2].toArray → PairAt h (.ref a) (b, c) := fun a b c t1 t2 q => ⟨a, t1, t2, rfl, q⟩
  have r1 : ∀ (a x : Addr) (p : Nat × Nat), IsTup h a #[.ref x] → PairAt h (.ref x) p → RowAt h (.ref a) [p] := fun a x p q1 q2 => ⟨a, _, rfl, q1, rfl, fun i p' e => by
    match i with
    | 0 => cases e; exact ⟨_, rfl, q2⟩
    | i + 1 => cases e⟩
  have r3 : ∀ (a x y z : Addr) (p p' p'' : Nat × Nat), IsTup h a #[.ref x, .ref y, .ref z] → PairAt h (.ref x) p → PairAt h (.ref y) p' → PairAt h (.ref z) p'' → RowAt h (.ref a) [p, p', p''] := fun a x y z p p' p'' q1 q2 q3 q4 => ⟨a, _, rfl, q1, rfl, fun i p' e => by
    match i with
    | 0 => cases e; exact ⟨_, rfl, q2⟩
    | 1 => cases e; exact ⟨_, rfl, q3⟩
    | 2 => cases e; exact ⟨_, rfl, q4⟩
    | i + 3 => cases e⟩
  refine ⟨_, g 164 _ rfl _ rfl rfl, rfl, fun i row e => ?_⟩
  match i with
  | 0 =>
    cases e
    refine ⟨_, rfl, 139, _, rfl, g 139 _ rfl _ rfl rfl, rfl, fun i p e => ?_⟩
    match i with
    | 0 => cases e; exact ⟨_, rfl, pr 132 _ _ _ _ (g 132 _ rfl _ rfl rfl)⟩
    | 1 => cases e; exact ⟨_, rfl, pr 133 _ _ _ _ (g 133 _ rfl _ rfl rfl)⟩
    | 2 => cases e; exact ⟨_, rfl, pr 134 _ _ _ _ (g 134 _ rfl _ rfl rfl)⟩
    | 3 => cases e; exact ⟨_, rfl, pr 135 _ _ _ _ (g 135 _ rfl _ rfl rfl)⟩
    | 4 => cases e; exact ⟨_, rfl, pr 136 _ _ _ _ (g 136 _ rfl _ rfl rfl)⟩
    | 5 => cases e; exact ⟨_, rfl, pr 137 _ _ _ _ (g 137 _ rfl _ rfl rfl)⟩
    | 6 => cases e; exact ⟨_, rfl, pr 138 _ _ _ _ (g 138 _ rfl _ rfl rfl)⟩
    | i + 7 => cases e
  | 1 => cases e; exact ⟨_, rfl, r1 141 140 _ (g 141 _ rfl _ rfl rfl) (pr 140 _ _ _ _ (g 140 _ rfl _ rfl rfl))⟩
  | 2 => cases e; exact ⟨_, rfl, r1 143 142 _ (g 143 _ rfl _ rfl rfl) (pr 142 _ _ _ _ (g 142 _ rfl _ rfl rfl))⟩
  | 3 => cases e; exact ⟨_, rfl, r3 147 144 145 146 _ _ _ (g 147 _ rfl _ rfl rfl) (pr 144 _ _ _ _ (g 144 _ rfl _ rfl rfl)) (pr 145 _ _ _ _ (g 145 _ rfl _ rfl rfl)) (pr 146 _ _ _ _ (g 146 _ rfl _ rfl rfl))⟩
  | 4 => cases e; exact ⟨_, rfl, r1 149 148 _ (g 149 _ rfl _ rfl rfl) (pr 148 _ _ _ _ (g 148 _ rfl _ rfl rfl))⟩
  | 5 => cases e; exact ⟨_, rfl, r1 151 150 _ (g 151 _ rfl _ rfl rfl) (pr 150 _ _ _ _ (g 150 _ rfl _ rfl rfl))⟩
  | 6 => cases e; exact ⟨_, rfl, r3 155 152 153 154 _ _ _ (g 155 _ rfl _ rfl rfl) (pr 152 _ _ _ _ (g 152 _ rfl _ rfl rfl)) (pr 153 _ _ _ _ (g 153 _ rfl _ rfl rfl)) (pr 154 _ _ _ _ (g 154 _ rfl _ rfl rfl))⟩
  | 7 => cases e; exact ⟨_, rfl, r1 157 156 _ (g 157 _ rfl _ rfl rfl) (pr 156 _ _ _ _ (g 156 _ rfl _ rfl rfl))⟩
  | 8 => cases e; exact ⟨_, rfl, r1 159 158 _ (g 159 _ rfl _ rfl rfl) (pr 158 _ _ _ _ (g 158 _ rfl _ rfl rfl))⟩
  | 9 => cases e; exact ⟨_, rfl, r3 163 160 161 162 _ _ _ (g 163 _ rfl _ rfl rfl) (pr 160 _ _ _ _ (g 160 _ rfl _ rfl rfl)) (pr 161 _ _ _ _ (g 161 _ rfl _ rfl rfl)) (pr 162 _ _ _ _ (g 162 _ rfl _ rfl rfl))⟩
  | i + 10 => cases e
theorem and_nat (a b : Nat) : Builtin.bitAnd (a : Int) (b : Int) = ((a &&& b : Nat) : Int) := by
  unfold Builtin.bitAnd
  simp
theorem pick_hit {i n j : Nat} {row : List (Nat × Nat)} {p : Nat × Nat} (hp : row[j]? = some p) (h : hits i n p.1 = true) (hno : ∀ (j' : Nat) p', j' < j → row[j']? = some p' → hits i n p'.1 = false) : rowPick i n row = p.2 := by
  have : row.find? (fun p => hits i n p.1) = some p := by
    induction row generalizing j with
    | nil => cases hp
    | cons q row ih =>
      cases j with
      | zero => cases hp; rw [List.find?_cons, h]
      | succ j =>
        rw [List.find?_cons, hno 0 q (by lia) rfl]
        exact ih hp fun j' p' h1 h2 => hno (j' + 1) p' (by lia) h2
  unfold rowPick
  rw [this]
theorem pick_none {i n : Nat} {row : List (Nat × Nat)} (hno : ∀ (j' : Nat) p', j' < row.length → row[j']? = some p' → hits i n p'.1 = false) : rowPick i n row = if i = 0 then 63 else 45 := by
  have : row.find? (fun p => hits i n p.1) = none := by
    rw [List.find?_eq_none]
    intro p hp
    obtain ⟨j, hj, e⟩ := List.getElem_of_mem hp
    rw [hno j p hj (by rw [List.getElem?_eq_getElem hj, e])]
    decide
  unfold rowPick
  rw [this]
theorem envK {keys : List Str} {base m : Str → Option Value} (h : ∀ y, y ∉ keys → m y = base y) : m = fun y => if y ∈ keys then m y else base y := by
  funext y
  by_cases e : y ∈ keys
  · simp [e]
  · simp [e, h y e]
theorem rows_Fmode1 : True := by
  k_with "m:call ref" => ((((with_unfolding_all refine' t_ifmt _ _ ?k1ₓ ?k2ₓ ?k3ₓ ?k4ₓ ?k5ₓ ?k6ₓ ?k7ₓ ?_); (case k1ₓ => exact Frag.In.keeps (by assumption) (Fr.keep (by assumption))); (case k2ₓ => exact Top.keeps (by assumption) (Fr.keep (by assumption))); (case k3ₓ => k_dflt (exact dep_lt (by with_reducible assumption) (by decide))); (case k4ₓ => k_dflt (exact unit_lt (by with_reducible assumption) (by decide))); (case k5ₓ => assumption); (case k6ₓ => omega); (case k7ₓ => omega); intro _ _ _ st'ₓ; (have F'ₓ := Fr.keeps (by assumption) st'ₓ); (have N'ₓ := News.grown (by assumption) st'ₓ)); revert st'ₓ F'ₓ N'ₓ; intro _ _ _))
  trivial
theorem t_mode {w : World} {mean mg mb} {A : Around} {s : Shared} {Q E : Value → Shared → Prop} (n : Nat) (u0 : Tok)
  (X : (KF w.params).In s.heap) (T : Top qV LV mean mg mb s.heap) (hroom : A.depth + 2 < recursionLimit) (hu : A.units + 20 < cLine) (hh : A.handled = none) (hn : n < 65536)
  (hq : ∀ h' tk z tz, s.heap.StaysIn h' → z.cps.toList = modeL n → Q (.str z tz) { s with heap := h', toks := tk }) :
  wpAny (model PySem.Challenge.rw_in0170_01.row.prog w) A (call (.ref 171) [.int n u0]) Q E s := by
  revert X
  k_fill
  intro X
  refine' enter [(Str.ofString "mode", .int n u0)] X T ?k1 ?k6 ?k7 ?k9 ?kB ?_ ?c2 ?c3 ?c4 ?c5
  case k1 => lia
  case k6 => k_is
  case k7 => k_is
  case k9 => exact BindsTo.of_eq rfl
  case c5 => decide
  case kB => exact locs rfl
  case c2 => exact rfl
  case c3 => exact rfl
  case c4 => exact rfl
  intro L h₁ F N
  k_steps
  rename_i l0 h1 tr1 h2 F1 N1
  obtain ⟨rows, ht1, ht2, ht3⟩ := tabs X
  refine call_enumT (IsTup.keeps ht1 F1.keep) fun h3 he hit hsz hk => ?_
  have F2 := F1.keeps hk
  have N2 := N1.grown hk
  have hL : L < h2.objs.size := F1.ns.lt
  have hl0 : l0 < h2.objs.size := Heap.lt_size (N1 _ (.head _)).1
  k_steps
  dsimp only at he hit hsz hk F2 N2 ⊢
  have q1 : h2.objs.size + 1 ≠ h2.objs.size := by lia
  have q2 : L ≠ h2.objs.size + 1 := Nat.ne_of_lt (Nat.lt_succ_of_lt hL)
  have q3 : L ≠ h2.objs.size := Nat.ne_of_lt hL
  have q4 : s.heap.objs.size ≤ h2.objs.size := Nat.le_of_lt (Nat.lt_of_le_of_lt F1.above hL)
  refine iter_enumTP (items := rows) (fun i m news => ∃ (ps : List (Str × Tok)) (kk : Nat), news = [(l0, W.listOf (strValues ps).toArray kk)] ∧ ps.length = i ∧ ps.map (fun p => p.1.cps.toList) = ((List.range i).map fun j => [rowPick j n (tableL.getD j [])]) ∧ ∀ y, y ∉ [Str.ofString "index", Str.ofString "table", Str.ofString "bit", Str.ofString "char"] → m y = (fun y => if y = Str.ofString "perm" then some (Value.ref l0) else List.lookup y [(Str.ofString "mode", Value.int n u0)].reverse) y) hh ht1 he hit q1 q2 q3
    (Heap.get?_none_of_le (Nat.le_succ_of_le q4)) (Heap.get?_none_of_le q4) F2 N2 (fun p hp => by rw [List.mem_singleton.mp hp]; exact ⟨Nat.ne_of_lt (Nat.lt_succ_of_lt hl0), Nat.ne_of_lt hl0⟩) ⟨[], 0, rfl, rfl, rfl, fun y _ => rfl⟩ ?_ ?_
  · intro i v m₁ news₁ h tk3 t3 T oe oi hi hJ off F3 N3 hT P hP
    obtain ⟨ps, kk, rfl, hpl, hps, hm⟩ := hJ
    rw [envK hm] at F3
    generalize m₁ = u at F3
    have hi10 : i < 10 := by rw [← ht2]; exact (Array.getElem?_eq_some_iff.mp hi).1
    obtain ⟨row, hrow⟩ : ∃ row, tableL[i]? = some row := ⟨_, List.getElem?_eq_getElem (by exact hi10)⟩
    obtain ⟨v', hv', hrw⟩ := ht3 i row hrow
    rw [hi] at hv'
    cases hv'
    obtain ⟨r, vs, rfl, hr1, hr2, hr3⟩ := hrw
    have hD : tableL.getD i [] = row := by rw [List.getD_eq_getElem?_getD, hrow]; rfl
    k_steps
    rename_i h4 tk4 F4 N4
    have fin : ∀ {c : Nat} {z : Str} {tz : Tok}, z.cps.toList = [c] → c = rowPick i n row → (strValues ps).toArray.push (.str z tz) = (strValues (ps ++ [(z, tz)])).toArray ∧ (ps ++ [(z, tz)]).length = i + 1 ∧ (ps ++ [(z, tz)]).map (fun p => p.1.cps.toList) = ((List.range (i + 1)).map fun j => [rowPick j n (tableL.getD j [])]) := by
      intro c z tz h1 h2
      refine ⟨by simp [strValues], by rw [List.length_append, hpl]; rfl, ?_⟩
      rw [List.map_append, hps, List.range_succ, List.map_append]
      simp only [List.map_cons, List.map_nil, h1, h2, hD]
    have off3 : ∀ (o : Obj), ∀ p ∈ [(l0, o)], p.1 ≠ h2.objs.size + 1 ∧ p.1 ≠ h2.objs.size := fun o p hp => by rw [List.mem_singleton.mp hp]; exact off (l0, W.listOf (strValues ps).toArray kk) (.head _)
    have hsz1 : (strValues ps).toArray.size ≤ 1000000 := by simp [strValues]; lia
    have hoff1 : l0 ≠ h2.objs.size + 1 := (off _ (.head _)).1
    have hoff2 : l0 ≠ h2.objs.size := (off _ (.head _)).2
    refine iter_tupTP (items := vs) (fun j m news => news = [(h2.objs.size + 1, oe), (h2.objs.size, oi), (l0, W.listOf (strValues ps).toArray kk)] ∧ (∀ (j' : Nat) p', j' < j → row[j']? = some p' → hits i n p'.1 = false) ∧ ∀ y, y ∉ [Str.ofString "bit", Str.ofString "char"] → m y = (fun z => if z = Str.ofString "table" then some (Value.ref r) else if z = Str.ofString "index" then some (Value.int (i : Int) t3) else if z ∈ [Str.ofString "index", Str.ofString "table", Str.ofString "bit", Str.ofString "char"] then u z else if z = Str.ofString "perm" then some (Value.ref l0) else List.lookup z [(Str.ofString "mode", Value.int n u0)].reverse) y) hh hr1 F4 N4 ⟨rfl, fun j' p' h => absurd h (Nat.not_lt_zero _), fun y _ => rfl⟩ ?_ ?_
    · intro I j v2 m₂ news₂ h5 tk5 oI hj hJ off2 F5 N5 P2 hP2
      obtain ⟨rfl, hno, hm2⟩ := hJ
      rw [envK hm2] at F5
      generalize m₂ = u2 at F5
      have hjr : j < row.length := by rw [← hr2]; exact (Array.getElem?_eq_some_iff.mp hj).1
      have hrj : row[j]? = some row[j] := List.getElem?_eq_getElem hjr
      obtain ⟨v', hv', rp, t1, t2, rfl, hp1⟩ := hr3 j _ hrj
      rw [hj] at hv'
      cases hv'
      have hI0 := off2 _ (.tail _ (.tail _ (.head _)))
      generalize row[j] = pr at hrj hp1
      obtain ⟨b, c⟩ := pr
      dsimp only at hp1
      k_steps
      · rename Builtin.bitAnd _ _ = _ => hb
        rename (i : Int) = 0 => hz0
        have hht : hits i n b = true := by
          have hz1 : i = 0 := by lia
          unfold hits
          rw [if_pos hz1]
          have : ((n &&& 61440 : Nat) : Int) = (b : Int) := by rw [← and_nat]; exact hb
          have : n &&& 61440 = b := by lia
          rw [this]; simp
        have hc := (pick_hit hrj hht hno).symm
        refine hP2 _ _ ?_
        dsimp only [EndT]
        k_steps
        rename News _ _ _ _ => nn
        have hf := fin (z := ⟨#[c]⟩) (tz := t2) rfl hc
        refine hP _ _ (mkE (news₂ := [(l0, _)]) (by assumption) (fun p hp => nn p (.tail _ hp)) (off3 _) ⟨ps ++ [(⟨#[c]⟩, t2)], kk + 1, congrArg (fun z => [(l0, W.listOf z (kk + 1))]) hf.1, hf.2.1, hf.2.2, ?_⟩)
        intro y hy
        simp only [List.mem_cons, List.not_mem_nil, or_false, not_or] at hy
        simp [hy.1, hy.2.1, hy.2.2.1, hy.2.2.2]
      · rename Builtin.bitAnd _ _ ≠ _ => hb
        rename (i : Int) = 0 => hz0
        have hht : hits i n b = false := by
          have hz1 : i = 0 := by lia
          unfold hits
          rw [if_pos hz1]
          have : ((n &&& 61440 : Nat) : Int) ≠ (b : Int) := by rw [← and_nat]; exact hb
          rw [beq_eq_false_iff_ne]
          lia
        refine hP2 _ _ (mkT (news₂ := [(h2.objs.size + 1, oe), (h2.objs.size, oi), (l0, _)]) (by assumption) (by assumption) off2 ⟨rfl, ?_, ?_⟩)
        · intro j' p' h1 h2
          rcases Nat.lt_or_ge j' j with q | q
          · exact hno j' p' q h2
          · obtain rfl : j' = j := by lia
            rw [hrj] at h2
            cases h2
            exact hht
        · intro y hy
          simp only [List.mem_cons, List.not_mem_nil, or_false, not_or] at hy
          simp [hy.1, hy.2]
      · rename Builtin.bitAnd _ _ = _ => hb
        rename (i : Int) ≠ 0 => hz0
        have hht : hits i n b = true := by
          have hz1 : i ≠ 0 := by lia
          unfold hits
          rw [if_neg hz1]
          have : ((n &&& b : Nat) : Int) = (b : Int) := by rw [← and_nat]; exact hb
          have : n &&& b = b := by lia
          rw [this]; simp
        have hc := (pick_hit hrj hht hno).symm
        refine hP2 _ _ ?_
        dsimp only [EndT]
        k_steps
        rename News _ _ _ _ => nn
        have hf := fin (z := ⟨#[c]⟩) (tz := t2) rfl hc
        refine hP _ _ (mkE (news₂ := [(l0, _)]) (by assumption) (fun p hp => nn p (.tail _ hp)) (off3 _) ⟨ps ++ [(⟨#[c]⟩, t2)], kk + 1, congrArg (fun z => [(l0, W.listOf z (kk + 1))]) hf.1, hf.2.1, hf.2.2, ?_⟩)
        intro y hy
        simp only [List.mem_cons, List.not_mem_nil, or_false, not_or] at hy
        simp [hy.1, hy.2.1, hy.2.2.1, hy.2.2.2]
      · rename Builtin.bitAnd _ _ ≠ _ => hb
        rename (i : Int) ≠ 0 => hz0
        have hht : hits i n b = false := by
          have hz1 : i ≠ 0 := by lia
          unfold hits
          rw [if_neg hz1]
          have : ((n &&& b : Nat) : Int) ≠ (b : Int) := by rw [← and_nat]; exact hb
          rw [beq_eq_false_iff_ne]
          lia
        refine hP2 _ _ (mkT (news₂ := [(h2.objs.size + 1, oe), (h2.objs.size, oi), (l0, _)]) (by assumption) (by assumption) off2 ⟨rfl, ?_, ?_⟩)
        · intro j' p' h1 h2
          rcases Nat.lt_or_ge j' j with q | q
          · exact hno j' p' q h2
          · obtain rfl : j' = j := by lia
            rw [hrj] at h2
            cases h2
            exact hht
        · intro y hy
          simp only [List.mem_cons, List.not_mem_nil, or_false, not_or] at hy
          simp [hy.1, hy.2]
    · rintro m₂ news₂ h5 tk5 ⟨rfl, hno, hm2⟩ F5 N5
      rw [envK hm2] at F5
      generalize m₂ = u2 at F5
      k_steps
      · rename (i : Int) = 0 => hz0
        have hc : 63 = rowPick i n row := by
          have hz1 : i = 0 := by lia
          rw [pick_none (by rw [← hr2]; exact hno), if_pos hz1]
        rename News _ _ _ _ => nn
        have hf := fun tz => fin (c := 63) (z := Str.ofString "?") (tz := tz) (by decide) hc
        refine hP _ _ (mkE (news₂ := [(l0, _)]) (by assumption) nn (off3 _) ⟨ps ++ [(Str.ofString "?", _)], kk + 1, congrArg (fun z => [(l0, W.listOf z (kk + 1))]) (hf _).1, (hf _).2.1, (hf _).2.2, ?_⟩)
        intro y hy
        simp only [List.mem_cons, List.not_mem_nil, or_false, not_or] at hy
        simp [hy.1, hy.2.1, hy.2.2.1, hy.2.2.2]
      · rename (i : Int) ≠ 0 => hz0
        have hc : 45 = rowPick i n row := by
          have hz1 : i ≠ 0 := by lia
          rw [pick_none (by rw [← hr2]; exact hno), if_neg hz1]
        rename News _ _ _ _ => nn
        have hf := fun tz => fin (c := 45) (z := Str.ofString "-") (tz := tz) (by decide) hc
        refine hP _ _ (mkE (news₂ := [(l0, _)]) (by assumption) nn (off3 _) ⟨ps ++ [(Str.ofString "-", _)], kk + 1, congrArg (fun z => [(l0, W.listOf z (kk + 1))]) (hf _).1, (hf _).2.1, (hf _).2.2, ?_⟩)
        intro y hy
        simp only [List.mem_cons, List.not_mem_nil, or_false, not_or] at hy
        simp [hy.1, hy.2.1, hy.2.2.1, hy.2.2.2]
  · rintro m₁ news₁ h tk3 ⟨ps, kk, rfl, hpl, hps, hm⟩ F3 N3
    rw [envK hm] at F3
    generalize m₁ = u at F3
    rw [ht2] at hpl hps
    have hlen : ∀ p ∈ ps, p.1.length = 1 := by
      intro p hp
      have : p.1.cps.toList ∈ ps.map (fun p => p.1.cps.toList) := List.mem_map_of_mem hp
      rw [hps] at this
      obtain ⟨j, _, e⟩ := List.mem_map.mp this
      have := congrArg List.length e
      simpa [Str.length] using this.symm
    have hw : (ps.map (·.1.length)).sum + ps.length ≤ 1000000 := by
      have : ps.map (·.1.length) = ps.map (fun _ => 1) := List.map_congr_left hlen
      rw [this, List.map_const', List.sum_replicate_nat, hpl]
      decide
    k_steps
    rename_i z t4 k4 hz
    refine hq _ _ _ _ (Fr.keep (by assumption)) ?_
    rw [hz, List.flatMap_def, hps]
    unfold modeL
    rfl
theorem rows_Fmode_end : True := by
  k_with_none
  trivial
end
section
theorem rows_Fesc : True := by
  k_with_none
  k_with "m:storeName" => (dsimp (config := { beta := false, eta := false, iota := false, proj := true, zeta := false }) only; walk_at "storeName")
  k_with "m:getMethod str" => (with_reducible refine gm_translate ?_)
  trivial
def escMap (c : Nat) : Option Str := if specials.contains c then some ⟨#[92, c]⟩ else none
theorem esc_out (c : Nat) : outM escMap c = esc c := by
  unfold outM escMap esc
  by_cases h : specials.contains c = true
  · rw [if_pos h, if_pos h]
  · rw [if_neg h, if_neg h]
def ents (o : Obj) : Array DictEntry := match o.data with
  | .dict es _ => es
  | _ => #[]
def escOk (es : Array DictEntry) (c : Nat) : Bool := match findBy Value.isInt es (c : Int) with
  | some (.str y _) => specials.contains c && y.cps == #[92, c]
  | none => !specials.contains c
  | _ => false
theorem esc_keys (P : Params) : ((ents (o45 P)).all fun e => match e.key with | .int k _ => e.hash == hashInt k | _ => false) = true := by kernel_rfl
theorem esc_all0 (P : Params) : ((List.range 128).all fun c => escOk (ents (o45 P)) c) = true := by kernel_rfl
theorem esc_all (P : Params) (c : Nat) (h : c < 128) : escOk (ents (o45 P)) c = true := List.all_eq_true.mp (esc_all0 P) c (List.mem_range.mpr h)
theorem esc_map {P : Params} {h : Heap} (X : (KF P).In h) : h.IntMap 45 (fun k => findBy Value.isInt (ents (o45 P)) k) := by
  refine ⟨o45 P, ents (o45 P), _, X 45 _ rfl, rfl, rfl, fun e he => ?_, fun _ => rfl⟩
  have := Array.all_eq_true'.mp (esc_keys P) e he
  split at this
  · rename_i k t hk
    exact ⟨k, t, hk, by simpa using this⟩
  · cases this
theorem esc_tl {prog : Program} {w : World} {A : Around} {P : Params} {h : Heap} (X : (KF P).In h) (hh : A.handled = none) {c : Nat} (hc : c < 128) : TL prog w A h (.ref 45) escMap c := by
  have ok := esc_all P c hc
  unfold escOk at ok
  split at ok
  · rename_i y tk hf
    rw [Bool.and_eq_true, beq_iff_eq] at ok
    refine tl_hit (esc_map X) (t := y) (tk := tk) hf ?_
    unfold escMap
    rw [if_pos ok.1]
    obtain ⟨yc⟩ := y
    rw [show yc = #[92, c] from ok.2]
  · rename_i hf
    have hn : ¬ specials.contains c = true := by simpa using ok
    refine tl_miss hh (by decide) ((esc_map X).mapOf fun o e => ?_) hf ?_
    · rw [X 45 (o45 P) rfl] at e; cases e; exact ⟨rfl, rfl⟩
    · unfold escMap; rw [if_neg hn]
  · cases ok
theorem t_esc {w : World} {mean mg mb} {A : Around} {s : Shared} {Q E : Value → Shared → Prop} (x : Str) (c : Nat) (t : Tok)
  (X : (KF w.params).In s.heap) (T : Top qV LV mean mg mb s.heap) (hroom : A.depth + 1 < recursionLimit) (hu : A.units + 10 < cLine) (hh : A.handled = none) (h0 : c < 128) (hx : x.cps.toList = [c])
  (hq : ∀ h' tk z tz, s.heap.StaysIn h' → z.cps.toList = esc c → Q (.str z tz) { s with heap := h', toks := tk }) :
  wpAny (model PySem.Challenge.rw_in0170_01.row.prog w) A (call (.ref 55) [.str x t]) Q E s := by
  revert X
  k_fill
  intro X
  refine' enter [(Str.ofString "pattern", .str x t)] X T ?k1 ?k6 ?k7 ?k9 ?kB ?_ ?c2 ?c3 ?c4 ?c5
  case k1 => lia
  case k6 => k_is
  case k7 => k_is
  case k9 => exact BindsTo.of_eq rfl
  case c5 => decide
  case kB => exact locs rfl
  case c2 => exact rfl
  case c3 => exact rfl
  case c4 => exact rfl
  intro L h₁ F N
  k_steps
  have hl : x.length = 1 := by
    have := congrArg List.length hx
    simpa [Str.length] using this
  have XK : (KF w.params).In h₁ := X.keeps F.keep
  refine call_translate (mp := escMap) (by lia) (by lia) ?_ ?_ ?_
  · intro c' u hu
    unfold escMap at hu
    split at hu
    · cases hu; exact (by decide : 2 ≤ 3)
    · cases hu
  · intro c' hc'
    rw [hx] at hc'
    rw [List.mem_singleton.mp hc']
    exact esc_tl (A := (A.deeper _).in1) XK hh h0
  · intro z tz h' tk' hs hz
    refine hq _ _ _ _ (fun b o e => hs b o (F.keep b o e)) ?_
    rw [hz, hx]
    simp [esc_out]
theorem rows_Fesc_end : True := by
  k_with_none
  trivial
end
section
theorem rows_Ftr : True := by
  k_with_none
  k_with "m:storeName" => (dsimp (config := { beta := false, eta := false, iota := false, proj := true, zeta := false }) only; walk_at "storeName")
  k_with "m:exec While" => (((with_reducible show wpAny _ _ (exec (Stmt.While _ _ _ _) _) _ _ _); refine Stop.mk ?_))
  k_with "m:unpackItems ref" => (k_dflt (((refine' unpackItemsN_ ?k1ₓ ?k2ₓ ?k3ₓ ?k4ₓ ?k5ₓ ?_; (case k1ₓ => with_reducible assumption); (case k2ₓ => with_reducible assumption); (case k3ₓ => first | exact News.isTup (by with_reducible assumption) (by exact .head _) | exact News.isTup (by with_reducible assumption) (by exact .tail _ (.head _))); (case k4ₓ => exact deeper_handled (by with_reducible assumption)); (case k5ₓ => with_unfolding_all rfl)); intro _ _ _)))
  k_with "m:getAttr ref" => ((k_dflt (((with_reducible show wpAny _ _ (getAttr (Value.ref _) (Str.ofString "append") true) _ _ _); (have Fₜ := (by with_reducible assumption : Fr _ _ _ _)); (have Nₜ := (by with_reducible assumption : News _ _ _ _)); k_dflt (refine' getAttr_appendN Fₜ Nₜ ?mₓ ?_; (case mₓ => k_mem)); intro _ _ _ _ l1ₓ; (try k_lt l1ₓ))); clear Fₜ Nₜ; revert l1ₓ; intro _))
  k_with "m:callWith ref" => ((k_dflt (((have Nₜ := (by with_reducible assumption : News _ _ _ _)); k_dflt (refine' callWith_B Nₜ ?mₓ ?_; (case mₓ => k_mem)))); clear Nₜ))
  k_with "m:call ref" => ((((with_reducible show wpAny _ _ (call (Value.ref _) [_]) _ _ _); (have Fₜ := (by with_reducible assumption : Fr _ _ _ _)); (have Nₜ := (by with_reducible assumption : News _ _ _ _)); first
    | ((k_dflt (refine' call_boundN (own := [_]) Fₜ Nₜ ?hmₓ ?h1ₓ ?h2ₓ ?hzₓ ?_)); (case hmₓ => k_dflt k_mem); (case h1ₓ => repeat' (first | exact all0 | (refine all1 ?_ ?_) | with_reducible assumption | exact Ne.symm (by with_reducible assumption))); (case h2ₓ => repeat' (first | exact all0 | (refine all1 ?_ ?_) | with_reducible assumption | exact Ne.symm (by with_reducible assumption))); (case hzₓ => first | with_reducible assumption | omega | (simp only [Array.size_push]; omega)); intro _ _ N'ₓ; (try simp only [List.nil_append, List.cons_append] at N'ₓ))
    | ((k_dflt (refine' call_boundN (own := [_, _]) Fₜ Nₜ ?hmₓ ?h1ₓ ?h2ₓ ?hzₓ ?_)); (case hmₓ => k_dflt k_mem); (case h1ₓ => repeat' (first | exact all0 | (refine all1 ?_ ?_) | with_reducible assumption | exact Ne.symm (by with_reducible assumption))); (case h2ₓ => repeat' (first | exact all0 | (refine all1 ?_ ?_) | with_reducible assumption | exact Ne.symm (by with_reducible assumption))); (case hzₓ => first | with_reducible assumption | omega | (simp only [Array.size_push]; omega)); intro _ _ N'ₓ; (try simp only [List.nil_append, List.cons_append] at N'ₓ))
    | ((k_dflt (refine' call_boundN (own := [_, _, _]) Fₜ Nₜ ?hmₓ ?h1ₓ ?h2ₓ ?hzₓ ?_)); (case hmₓ => k_dflt k_mem); (case h1ₓ => repeat' (first | exact all0 | (refine all1 ?_ ?_) | with_reducible assumption | exact Ne.symm (by with_reducible assumption))); (case h2ₓ => repeat' (first | exact all0 | (refine all1 ?_ ?_) | with_reducible assumption | exact Ne.symm (by with_reducible assumption))); (case hzₓ => first | with_reducible assumption | omega | (simp only [Array.size_push]; omega)); intro _ _ N'ₓ; (try simp only [List.nil_append, List.cons_append] at N'ₓ))); clear Fₜ Nₜ; revert N'ₓ; intro _))
  k_with "m:ite" => (first
    | (with_reducible refine ite_hT (by with_reducible assumption) ?_)
    | (with_reducible refine ite_hF (by with_reducible assumption) ?_))
  k_with "m:truthy ref" => (k_dflt (((refine' truthy_ne ?k0ₓ ?k1ₓ ?k2ₓ ?_); (case k0ₓ => is_list); (case k1ₓ => with_reducible assumption); (case k2ₓ => with_reducible assumption))))
  k_with "m:compareOp IsNot ref ref" => (k_dflt ((with_reducible refine wpAny_isNot_ref_self ?_)))
  k_with "m:compareOp IsNot str ref" => (k_dflt ((with_reducible refine isNot_str ?_)))
  k_with "m:subscriptTail Name UnaryOp ref int" => (k_dflt (((with_reducible show wpAny _ _ (subscriptTail _ (Expr.UnaryOp _ _ _) (Value.ref _) (Value.int _ _)) _ _ _); (refine' itemLast ?k0ₓ ?hkₓ ?k1ₓ ?k2ₓ ?k3ₓ ?_ ?hsₓ); (case k0ₓ => is_list); (case hkₓ => with_unfolding_all rfl); (case k1ₓ => with_reducible assumption); (case k2ₓ => with_reducible assumption); (case k3ₓ => with_reducible assumption); (case hsₓ => with_unfolding_all rfl))))
  trivial
def starVals (o : Addr) (l : List (Option (Str × Tok))) : List Value := l.map fun p => match p with
  | none => .ref o
  | some p => .str p.1 p.2
def tokF (acc : List (Option L)) (c : Nat) : List (Option L) := if c = 42 then (if acc.getLast? = some none then acc else acc ++ [none]) else acc ++ [some (one c)]
def toksOf (X : L) : List (Option L) := X.foldl tokF []
def cpo (p : Option (Str × Tok)) : Option L := p.map fun q => q.1.cps.toList
theorem rows_Ftr1 : True := by
  k_with "m:call ref" => ((k_dflt (((with_reducible show wpAny _ _ (call (Value.ref 55) [_]) _ _ _); (with_unfolding_all refine' t_esc _ _ _ ?k1ₓ ?k2ₓ ?k3ₓ ?k4ₓ ?k5ₓ ?k6ₓ ?k7ₓ ?_); (case k7ₓ => with_reducible assumption); (case k1ₓ => exact Frag.In.keeps (by assumption) (Fr.keep (by assumption))); (case k2ₓ => exact Top.keeps (by assumption) (Fr.keep (by assumption))); (case k3ₓ => k_dflt (exact dep_lt (by with_reducible assumption) (by decide))); (case k4ₓ => k_dflt (exact unit_lt (by with_reducible assumption) (by decide))); (case k5ₓ => assumption); (case k6ₓ => with_reducible assumption); intro _ _ _ _ st'ₓ hz'ₓ; (have F'ₓ := Fr.keeps (by assumption) st'ₓ); (have N'ₓ := News.grown (by assumption) st'ₓ))); revert st'ₓ hz'ₓ F'ₓ N'ₓ; intro _ _ _ _))
  trivial
theorem t_tr {w : World} {mean mg mb} {A : Around} {s : Shared} {Q E : Value → Shared → Prop} (x : Str) (t : Tok) (o : Addr) (t2 : Tok)
  (X : (KF w.params).In s.heap) (T : Top qV LV mean mg mb s.heap) (hroom : A.depth + 6 < recursionLimit) (hu : A.units + 60 < cLine) (hh : A.handled = none) (hx : x.length ≤ 3000) (h91 : 91 ∉ x.cps.toList) (h128 : ∀ c ∈ x.cps.toList, c < 128)
  (hq : ∀ h' tk a l k, s.heap.StaysIn h' → h'.get? a = some (W.listOf (starVals o l).toArray k) → s.heap.get? a = none → l.map cpo = toksOf x.cps.toList → Q (.ref a) { s with heap := h', toks := tk }) :
  wpAny (model PySem.Challenge.rw_in0170_01.row.prog w) A (call (.ref 62) [.str x t, .ref o, .str (Str.ofString ".") t2]) Q E s := by
  revert X
  k_fill
  intro X
  refine' enter [(Str.ofString "pat", .str x t), (Str.ofString "STAR", .ref o), (Str.ofString "QUESTION_MARK", .str (Str.ofString ".") t2)] X T ?k1 ?k6 ?k7 ?k9 ?kB ?_ ?c2 ?c3 ?c4 ?c5
  case k1 => lia
  case k6 => k_is
  case k7 => k_is
  case k9 => exact BindsTo.of_eq rfl
  case c5 => decide
  case kB => exact locs rfl
  case c2 => exact rfl
  case c3 => exact rfl
  case c4 => exact rfl
  intro L h₁ F N
  have hxl : x.cps.toList.length = x.length := by simp [Str.length]
  k_steps
  rename_i r h1 tr1 h2 tk2 q h3 hrq h4 D h5 hqD h6 h7 h8 F N
  have hrq' : r ≠ q := Nat.ne_of_lt hrq
  have N2 : News s.heap L h8 [(q, boundApp r), (r, W.listOf #[] 0)] := fun p hp => N p (.tail _ hp)
  obtain ⟨tn, htn⟩ : ∃ tn, tn = (tk2 + 1 + 1 + 1 + 1) := ⟨_, rfl⟩
  rw [← htn] at F
  refine While_P (fun n m news => ∃ (i : Nat) (ti : Tok) (l : List (Option (Str × Tok))) (kk : Nat), news = [(q, boundApp r), (r, W.listOf (starVals o l).toArray kk)] ∧ i ≤ x.length ∧ n = x.length - i ∧ l.length ≤ i ∧ l.map cpo = toksOf (x.cps.toList.take i) ∧ m (Str.ofString "i") = some (.int (i : Int) ti) ∧ ∀ y, y ≠ Str.ofString "i" → y ∉ [Str.ofString "c"] → m y = (fun y => if y = Str.ofString "n" then some (Value.int (x.length : Int) tn) else if y = Str.ofString "add" then some (Value.ref q) else if y = Str.ofString "res" then some (Value.ref r) else List.lookup y [(Str.ofString "pat", Value.str x t), (Str.ofString "STAR", Value.ref o), (Str.ofString "QUESTION_MARK", Value.str (Str.ofString ".") t2)].reverse) y) (n₀ := x.length) F N2 ⟨0, _, [], 0, rfl, Nat.zero_le _, rfl, Nat.le_refl _, rfl, rfl, fun y h1 _ => by simp [h1]⟩ ?_
  clear N2 N F
  intro n m₂ news₂ h4 tk4 F5 N5 hJ P hP
  refine ex4 hJ fun i ti l kk h0_ => an7 h0_ fun e1_ hi e2_ hll hl hm1 hm2 => ?_
  clear hJ h0_
  subst e1_ e2_
  rw [env1 hm1 hm2] at F5
  clear hm1 hm2
  generalize m₂ = u at F5
  by_cases hlt : i < x.length
  · have hit : Txt.item x (i : Int) = ⟨#[x.cps.toList.getD i 0]⟩ := itemN rfl hlt
    have hg : x.cps.toList[i]? = some (x.cps.toList.getD i 0) := by
      rw [List.getD_eq_getElem?_getD, List.getElem?_eq_getElem (by lia)]; rfl
    have hmem : x.cps.toList.getD i 0 ∈ x.cps.toList := List.mem_of_getElem? hg
    have htake : x.cps.toList.take (i + 1) = x.cps.toList.take i ++ [x.cps.toList.getD i 0] := by rw [List.take_add_one, hg]; rfl
    generalize x.cps.toList.getD i 0 = c at hit hg hmem htake
    have c91 : c ≠ 91 := fun e => h91 (e ▸ hmem)
    have c128 := h128 c hmem
    have htok : toksOf (x.cps.toList.take (i + 1)) = tokF (l.map cpo) c := by rw [htake, hl]; unfold toksOf; rw [List.foldl_append]; rfl
    have eqc : ∀ d, (Txt.item x (i : Int) == (⟨#[d]⟩ : Str)) = (c == d) := fun d => by rw [hit, Bool.eq_iff_iff, beq_iff_eq, beq_iff_eq]; simp
    have e42 : (Txt.item x (i : Int) == Str.ofString "*") = (c == 42) := eqc 42
    have e63 : (Txt.item x (i : Int) == Str.ofString "?") = (c == 63) := eqc 63
    have e91 : (Txt.item x (i : Int) == Str.ofString "[") = false := by rw [show Str.ofString "[" = ⟨#[91]⟩ from rfl, eqc]; exact beq_false_of_ne c91
    have hsz : (starVals o l).toArray.size ≤ 1000000 := by simp [starVals]; lia
    have hstep : ∀ (c : Nat), toksOf (x.cps.toList.take (i + 1)) = tokF (l.map cpo) c → ∀ (l2 : List (Option (Str × Tok))), l2.length ≤ i + 1 → l2.map cpo = tokF (l.map cpo) c → ∀ (m' : Str → Option Value) (ti2 : Tok) (kk2 : Nat), m' (Str.ofString "i") = some (.int ((i : Int) + 1) ti2) → (∀ y, y ≠ Str.ofString "i" → y ∉ [Str.ofString "c"] → m' y = (fun y => if y = Str.ofString "n" then some (Value.int (x.length : Int) tn) else if y = Str.ofString "add" then some (Value.ref q) else if y = Str.ofString "res" then some (Value.ref r) else List.lookup y [(Str.ofString "pat", Value.str x t), (Str.ofString "STAR", Value.ref o), (Str.ofString "QUESTION_MARK", Value.str (Str.ofString ".") t2)].reverse) y) →
          ∃ (i2 : Nat) (ti : Tok) (l : List (Option (Str × Tok))) (kk : Nat), [(q, boundApp r), (r, W.listOf (starVals o l2).toArray kk2)] = [(q, boundApp r), (r, W.listOf (starVals o l).toArray kk)] ∧ i2 ≤ x.length ∧ x.length - (i + 1) = x.length - i2 ∧ l.length ≤ i2 ∧ l.map cpo = toksOf (x.cps.toList.take i2) ∧ m' (Str.ofString "i") = some (.int (i2 : Int) ti) ∧ ∀ y, y ≠ Str.ofString "i" → y ∉ [Str.ofString "c"] → m' y = (fun y => if y = Str.ofString "n" then some (Value.int (x.length : Int) tn) else if y = Str.ofString "add" then some (Value.ref q) else if y = Str.ofString "res" then some (Value.ref r) else List.lookup y [(Str.ofString "pat", Value.str x t), (Str.ofString "STAR", Value.ref o), (Str.ofString "QUESTION_MARK", Value.str (Str.ofString ".") t2)].reverse) y :=
        fun c htok l2 h1 h2 m' ti2 kk2 h3 h4 => ⟨i + 1, ti2, l2, kk2, rfl, by lia, rfl, h1, by rw [htok, h2], h3, h4⟩
    by_cases h42 : c = 42
    · subst h42
      replace e42 : (Txt.item x (i : Int) == Str.ofString "*") = true := e42
      have fin := fun l2 => hstep 42 htok l2
      rcases List.eq_nil_or_concat l with rfl | ⟨l', b, rfl⟩
      · k_steps
        · rename News _ _ _ _ => nn
          exact (nn _ (.head _)).1
        · refine hP _ _ (mkW (news₂ := [(q, boundApp r), (r, W.listOf (starVals o [none]).toArray (kk + 1))]) (by assumption) (by assumption) ?_ (fin [none] (by simp) rfl _ _ _ rfl ?_))
          · lia
          · intro y h1 h2
            have h3 : y ≠ Str.ofString "c" := by simpa using h2
            simp [h1, h3]
      · rw [List.concat_eq_append] at *
        have hlen : (l' ++ [b]).length = l'.length + 1 := by simp
        have hps : 0 < (starVals o (l' ++ [b])).toArray.size := by simp [starVals]
        cases b with
        | none =>
          have hlast : (starVals o (l' ++ [none])).toArray[(starVals o (l' ++ [none])).toArray.size - 1]? = some (.ref o) := by simp [starVals]
          k_steps
          refine hP _ _ (mkW (news₂ := [(q, boundApp r), (r, W.listOf (starVals o (l' ++ [none])).toArray kk)]) (by assumption) (by assumption) ?_ (fin (l' ++ [none]) (by lia) (by simp [tokF, cpo]) _ _ _ rfl ?_))
          · lia
          · intro y h1 h2
            have h3 : y ≠ Str.ofString "c" := by simpa using h2
            simp [h1, h3]
        | some b =>
          have hlast : (starVals o (l' ++ [some b])).toArray[(starVals o (l' ++ [some b])).toArray.size - 1]? = some (.str b.1 b.2) := by simp [starVals]
          k_steps
          · rename News _ _ _ _ => nn
            exact (nn _ (.head _)).1
          · rename News _ _ _ _ => nn
            rw [show (starVals o (l' ++ [some b])).toArray.push (.ref o) = (starVals o (l' ++ [some b] ++ [none])).toArray by simp [starVals]] at nn
            refine hP _ _ (mkW (news₂ := [(q, boundApp r), (r, W.listOf (starVals o (l' ++ [some b] ++ [none])).toArray (kk + 1))]) (by assumption) nn ?_ (fin (l' ++ [some b] ++ [none]) (by simp; lia) (by simp [tokF, cpo]) _ _ _ rfl ?_))
            · lia
            · intro y h1 h2
              have h3 : y ≠ Str.ofString "c" := by simpa using h2
              simp [h1, h3]
    · replace e42 : (Txt.item x (i : Int) == Str.ofString "*") = false := by rw [e42]; exact beq_false_of_ne h42
      by_cases h63 : c = 63
      · replace e63 : (Txt.item x (i : Int) == Str.ofString "?") = true := by rw [e63, h63]; rfl
        k_steps
        · rename News _ _ _ _ => nn
          exact (nn _ (.head _)).1
        · have hcc : (l ++ [some (Str.ofString ".", t2)]).map cpo = tokF (l.map cpo) c := by
            unfold tokF
            rw [if_neg h42, List.map_append, h63]
            rfl
          rename News _ _ _ _ => nn
          rw [show (starVals o l).toArray.push (.str (Str.ofString ".") t2) = (starVals o (l ++ [some ((Str.ofString "."), t2)])).toArray by simp [starVals]] at nn
          refine hP _ _ (mkW (news₂ := [(q, boundApp r), (r, W.listOf (starVals o (l ++ [some ((Str.ofString "."), t2)])).toArray (kk + 1))]) (by assumption) nn ?_ (hstep c htok (l ++ [some ((Str.ofString "."), t2)]) (by simp; lia) hcc _ _ _ rfl ?_))
          · lia
          · intro y h1 h2
            have h3 : y ≠ Str.ofString "c" := by simpa using h2
            simp [h1, h3]
      · replace e63 : (Txt.item x (i : Int) == Str.ofString "?") = false := by rw [e63]; exact beq_false_of_ne h63
        have hitc : (Txt.item x (i : Int)).cps.toList = [c] := by rw [hit]
        k_steps
        · rename News _ _ _ _ => nn
          exact (nn _ (.head _)).1
        · rename_i z tz _ hz _ _ _ _ _
          have hcc : (l ++ [some (z, tz)]).map cpo = tokF (l.map cpo) c := by
            unfold tokF
            rw [if_neg h42, List.map_append]
            have : cpo (some (z, tz)) = some (one c) := by
              show some z.cps.toList = _
              rw [hz]; unfold one; rw [if_neg h63]
            simp [this]
          rename News _ _ _ _ => nn
          rw [show (starVals o l).toArray.push (.str z tz) = (starVals o (l ++ [some (z, tz)])).toArray by simp [starVals]] at nn
          refine hP _ _ (mkW (news₂ := [(q, boundApp r), (r, W.listOf (starVals o (l ++ [some (z, tz)])).toArray (kk + 1))]) (by assumption) nn ?_ (hstep c htok (l ++ [some (z, tz)]) (by simp; lia) hcc _ _ _ rfl ?_))
          · lia
          · intro y h1 h2
            have h3 : y ≠ Str.ofString "c" := by simpa using h2
            simp [h1, h3]
  · have hin : i = x.length := by lia
    subst hin
    rw [← hxl, List.take_length] at hl
    k_steps
    rename News _ _ _ _ => nn
    exact hq _ _ _ l _ (Fr.keep (by assumption)) (nn _ (.tail _ (.head _))).1 (nn _ (.tail _ (.head _))).2.2 hl
theorem rows_Ftr_end : True := by
  k_with_none
  trivial
end
section
def so (c : Nat) : Option L := some (one c)
def segL (ps : List L) : List (Option L) := ps.flatMap fun p => none :: p.map so
def flatR (r : L × List L) : List (Option L) := r.1.map so ++ segL r.2
def stars : List (Option L) → Bool
  | none :: _ => true
  | _ => false
theorem flat_star (X : L) : flatR (runs (42 :: X)) = if stars (flatR (runs X)) = true then flatR (runs X) else none :: flatR (runs X) := by
  have e : runs (42 :: X) = ([], if (runs X).1 = [] ∧ (runs X).2 ≠ [] then (runs X).2 else (runs X).1 :: (runs X).2) := by simp [runs]
  rw [e]
  cases h1 : (runs X).1 with
  | nil =>
    cases h2 : (runs X).2 with
    | nil => simp [flatR, h1, h2, segL, stars]
    | cons p r => simp [flatR, h1, h2, segL, stars]
  | cons a r =>
    simp [flatR, h1, segL, stars, so]
theorem flat_sign (c : Nat) (X : L) (h : c ≠ 42) : flatR (runs (c :: X)) = so c :: flatR (runs X) := by
  have e : runs (c :: X) = (c :: (runs X).1, (runs X).2) := by simp [runs, h]
  rw [e]; rfl
theorem toks_go (X : L) : ∀ acc : List (Option L), X.foldl tokF acc = if acc.getLast? = some none ∧ stars (flatR (runs X)) = true then acc ++ (flatR (runs X)).tail else acc ++ flatR (runs X) := by
  induction X with
  | nil => intro acc; simp [runs, flatR, segL, stars]
  | cons c X ih =>
    intro acc
    rw [List.foldl_cons, ih]
    by_cases h : c = 42
    · subst h
      rw [flat_star]
      have hs : ∀ l : List (Option L), stars l = true → ∃ r, l = none :: r := fun l h => by
        match l, h with
        | none :: r, _ => exact ⟨r, rfl⟩
      by_cases ha : acc.getLast? = some none
      · have e : tokF acc 42 = acc := by simp [tokF, ha]
        rw [e]
        by_cases hq : stars (flatR (runs X)) = true
        · rw [if_pos ⟨ha, hq⟩, if_pos hq, if_pos ⟨ha, hq⟩]
        · rw [if_neg (fun q => hq q.2), if_neg hq, if_pos ⟨ha, rfl⟩]; rfl
      · have e : tokF acc 42 = acc ++ [none] := by simp [tokF, ha]
        rw [e, if_neg (c := acc.getLast? = some none ∧ _) (fun q => ha q.1)]
        by_cases hq : stars (flatR (runs X)) = true
        · obtain ⟨r, hr⟩ := hs _ hq
          rw [if_pos ⟨by simp, hq⟩, if_pos hq, hr]; simp
        · rw [if_neg (fun q => hq q.2), if_neg hq]; simp
    · have e : tokF acc c = acc ++ [so c] := by simp [tokF, h, so]
      rw [e, flat_sign c X h, if_neg (by simp [so]), if_neg (by simp [stars, so])]
      simp
theorem toks_flat (X : L) : toksOf X = flatR (runs X) := by
  unfold toksOf
  rw [toks_go, if_neg (by simp)]; rfl
/-- no empty piece but the last -/
def inner {α : Type} : List (List α) → Prop
  | [] => True
  | [_] => True
  | p :: q :: r => p ≠ [] ∧ inner (q :: r)
theorem inner_runs (X : L) : inner (runs X).2 ∧ ((runs X).1 ≠ [] → inner ((runs X).1 :: (runs X).2)) := by
  have key : ∀ (p : L) (r : List L), inner r → p ≠ [] → inner (p :: r) := fun p r h hp => by
    cases r with
    | nil => trivial
    | cons q r => exact ⟨hp, h⟩
  induction X with
  | nil => exact ⟨trivial, fun h => absurd rfl h⟩
  | cons c X ih =>
    by_cases h : c = 42
    · subst h
      have e : runs (42 :: X) = ([], if (runs X).1 = [] ∧ (runs X).2 ≠ [] then (runs X).2 else (runs X).1 :: (runs X).2) := by simp [runs]
      rw [e]
      refine ⟨?_, fun q => absurd rfl q⟩
      by_cases h1 : (runs X).1 = []
      · cases h2 : (runs X).2 with
        | nil => simp [h1, inner]
        | cons p r => simp only [h1, true_and, ne_eq, reduceCtorEq, not_false_eq_true, if_true]; rw [← h2]; exact ih.1
      · rw [if_neg (fun q => h1 q.1)]
        exact ih.2 h1
    · have e : runs (c :: X) = (c :: (runs X).1, (runs X).2) := by simp [runs, h]
      rw [e]
      exact ⟨ih.1, fun _ => key _ _ ih.1 (by simp)⟩
end
section
theorem rows_Fjoin : True := by
  k_with_none
  k_with "m:storeName" => (dsimp (config := { beta := false, eta := false, iota := false, proj := true, zeta := false }) only; walk_at "storeName")
  k_with "m:call builtin:len" => (((with_reducible show wpAny _ _ (call (Value.builtin "len") [Value.ref _]) _ _ _); (with_unfolding_all refine' len_L ?k1ₓ ?k2ₓ ?_); (case k1ₓ => is_list); (case k2ₓ => first | assumption | (simp only [List.size_toArray, List.length_map, len_strValues, List.length_cons, List.length_nil]; omega))))
  k_with "m:subscriptTail Name Name ref int" => (((with_reducible show wpAny _ _ (subscriptTail _ _ (Value.ref _) (Value.int _ _)) _ _ _); (with_unfolding_all refine' itemL ?k0ₓ ?k1ₓ ?k2ₓ ?k3ₓ ?_ ?hsₓ ?htₓ); (case k0ₓ => is_list); (case k3ₓ => with_unfolding_all assumption); (case k1ₓ => omega); (case k2ₓ => omega); (case hsₓ => with_unfolding_all rfl); (case htₓ => (intro _; with_unfolding_all rfl))))
  k_with "m:exec While" => (((with_reducible show wpAny _ _ (exec (Stmt.While _ _ _ _) _) _ _ _); refine Stop.mk ?_))
  k_with "m:ite" => (first
    | (with_reducible refine ite_eqT ?kₓ ?_; (case kₓ => (simp only [List.size_toArray, len_strValues, List.length_cons, List.length_nil]; omega)))
    | (with_reducible refine ite_eqF ?kₓ ?_; (case kₓ => (simp only [List.size_toArray, len_strValues, List.length_cons, List.length_nil]; omega)))
    | (with_reducible refine ite_dT ?kₓ ?_; (case kₓ => (simp only [List.size_toArray, len_strValues, List.length_cons, List.length_nil]; omega)))
    | (with_reducible refine ite_dF ?kₓ ?_; (case kₓ => (simp only [List.size_toArray, len_strValues, List.length_cons, List.length_nil]; omega))))
  k_with "m:unpackItems ref" => (((refine' unpackItemsN_ ?k1ₓ ?k2ₓ ?k3ₓ ?k4ₓ ?k5ₓ ?_; (case k1ₓ => with_reducible assumption); (case k2ₓ => with_reducible assumption); (case k3ₓ => first | exact News.isTup (by with_reducible assumption) (by exact .head _) | exact News.isTup (by with_reducible assumption) (by exact .tail _ (.head _))); (case k4ₓ => exact deeper_handled (by with_reducible assumption)); (case k5ₓ => with_unfolding_all rfl)); intro _ _ _))
  k_with "m:call builtin:str.join" => (((refine' join_L ?k1ₓ ?k2ₓ ?_); (case k1ₓ => is_list); (case k2ₓ => first | with_reducible assumption | omega); intro _ _ _ _))
  k_with "m:call builtin:list.append" => ((((with_reducible show wpAny _ _ (call (Value.builtin _) [Value.ref _, _]) _ _ _); (have Fₜ := (by with_reducible assumption : Fr _ _ _ _)); (have Nₜ := (by with_reducible assumption : News _ _ _ _)); first
    | ((k_dflt (refine' appendN (own := []) Fₜ Nₜ all0 ?h2ₓ ?hzₓ ?_)); (case h2ₓ => repeat' (first | exact all0 | (refine all1 ?_ ?_) | with_reducible assumption | exact Ne.symm (by with_reducible assumption))); (case hzₓ => first | with_reducible assumption | omega); intro _ _ N'ₓ; (try simp only [List.nil_append, List.cons_append] at N'ₓ))
    | ((k_dflt (refine' appendN (own := [_]) Fₜ Nₜ ?h1ₓ ?h2ₓ ?hzₓ ?_)); (case h1ₓ => repeat' (first | exact all0 | (refine all1 ?_ ?_) | with_reducible assumption | exact Ne.symm (by with_reducible assumption))); (case h2ₓ => repeat' (first | exact all0 | (refine all1 ?_ ?_) | with_reducible assumption | exact Ne.symm (by with_reducible assumption))); (case hzₓ => first | with_reducible assumption | omega); intro _ _ N'ₓ; (try simp only [List.nil_append, List.cons_append] at N'ₓ))
    | ((k_dflt (refine' appendN (own := [_, _]) Fₜ Nₜ ?h1ₓ ?h2ₓ ?hzₓ ?_)); (case h1ₓ => repeat' (first | exact all0 | (refine all1 ?_ ?_) | with_reducible assumption | exact Ne.symm (by with_reducible assumption))); (case h2ₓ => repeat' (first | exact all0 | (refine all1 ?_ ?_) | with_reducible assumption | exact Ne.symm (by with_reducible assumption))); (case hzₓ => first | with_reducible assumption | omega); intro _ _ N'ₓ; (try simp only [List.nil_append, List.cons_append] at N'ₓ))
    | ((k_dflt (refine' appendN (own := [_, _, _]) Fₜ Nₜ ?h1ₓ ?h2ₓ ?hzₓ ?_)); (case h1ₓ => repeat' (first | exact all0 | (refine all1 ?_ ?_) | with_reducible assumption | exact Ne.symm (by with_reducible assumption))); (case h2ₓ => repeat' (first | exact all0 | (refine all1 ?_ ?_) | with_reducible assumption | exact Ne.symm (by with_reducible assumption))); (case hzₓ => first | with_reducible assumption | omega); intro _ _ N'ₓ; (try simp only [List.nil_append, List.cons_append] at N'ₓ))); clear Fₜ Nₜ; revert N'ₓ; intro _))
  k_with "m:getAttr ref" => ((((with_reducible show wpAny _ _ (getAttr (Value.ref _) (Str.ofString "append") true) _ _ _); (have Fₜ := (by with_reducible assumption : Fr _ _ _ _)); (have Nₜ := (by with_reducible assumption : News _ _ _ _)); k_dflt (refine' getAttr_appendN Fₜ Nₜ ?mₓ ?_; (case mₓ => k_mem)); intro _ _ _ _ l1ₓ; (try k_lt l1ₓ)); clear Fₜ Nₜ; revert l1ₓ; intro _))
  k_with "m:callWith ref" => ((((have Nₜ := (by with_reducible assumption : News _ _ _ _)); k_dflt (refine' callWith_B Nₜ ?mₓ ?_; (case mₓ => k_mem))); clear Nₜ))
  k_with "m:call ref" => ((((with_reducible show wpAny _ _ (call (Value.ref _) [_]) _ _ _); (have Fₜ := (by with_reducible assumption : Fr _ _ _ _)); (have Nₜ := (by with_reducible assumption : News _ _ _ _)); first
    | ((k_dflt (refine' call_boundN (own := [_]) Fₜ Nₜ ?hmₓ ?h1ₓ ?h2ₓ ?hzₓ ?_)); (case hmₓ => k_dflt k_mem); (case h1ₓ => repeat' (first | exact all0 | (refine all1 ?_ ?_) | with_reducible assumption | exact Ne.symm (by with_reducible assumption))); (case h2ₓ => repeat' (first | exact all0 | (refine all1 ?_ ?_) | with_reducible assumption | exact Ne.symm (by with_reducible assumption))); (case hzₓ => first | with_reducible assumption | omega | (simp only [Array.size_push]; omega)); intro _ _ N'ₓ; (try simp only [List.nil_append, List.cons_append] at N'ₓ))
    | ((k_dflt (refine' call_boundN (own := [_, _]) Fₜ Nₜ ?hmₓ ?h1ₓ ?h2ₓ ?hzₓ ?_)); (case hmₓ => k_dflt k_mem); (case h1ₓ => repeat' (first | exact all0 | (refine all1 ?_ ?_) | with_reducible assumption | exact Ne.symm (by with_reducible assumption))); (case h2ₓ => repeat' (first | exact all0 | (refine all1 ?_ ?_) | with_reducible assumption | exact Ne.symm (by with_reducible assumption))); (case hzₓ => first | with_reducible assumption | omega | (simp only [Array.size_push]; omega)); intro _ _ N'ₓ; (try simp only [List.nil_append, List.cons_append] at N'ₓ))
    | ((k_dflt (refine' call_boundN (own := [_, _, _]) Fₜ Nₜ ?hmₓ ?h1ₓ ?h2ₓ ?hzₓ ?_)); (case hmₓ => k_dflt k_mem); (case h1ₓ => repeat' (first | exact all0 | (refine all1 ?_ ?_) | with_reducible assumption | exact Ne.symm (by with_reducible assumption))); (case h2ₓ => repeat' (first | exact all0 | (refine all1 ?_ ?_) | with_reducible assumption | exact Ne.symm (by with_reducible assumption))); (case hzₓ => first | with_reducible assumption | omega | (simp only [Array.size_push]; omega)); intro _ _ N'ₓ; (try simp only [List.nil_append, List.cons_append] at N'ₓ))); clear Fₜ Nₜ; revert N'ₓ; intro _))
  k_with "m:ite" => (first
    | (with_reducible refine ite_hT (by with_reducible assumption) ?_)
    | (with_reducible refine ite_hF (by with_reducible assumption) ?_))
  k_with "m:compareOp IsNot ref ref" => ((with_reducible refine wpAny_isNot_ref_self ?_))
  k_with "m:compareOp Is ref ref" => ((with_reducible refine wpAny_is_ref_self ?_))
  k_with "m:compareOp IsNot str ref" => ((with_reducible refine isNot_str ?_))
  k_with "m:formatField str" => (((refine' fieldS ?_ ?hzₓ); (case hzₓ => with_reducible assumption); intro _ _))
  k_with "m:And" => (((with_reducible show _ ≤ sizeLine ∧ _); refine ⟨by (rw [PySem.sizeLine_eq]; simp only [lenA, lenE, show (PySem.Str.ofString "(?>.*?").length = 6 from rfl, show (PySem.Str.ofString ")").length = 1 from rfl, show (PySem.Str.ofString "(?s:").length = 4 from rfl, show (PySem.Str.ofString ")\\Z").length = 3 from rfl]; omega), ?_⟩))
  trivial
def txt (l : List (Str × Tok)) : List Nat := l.flatMap fun p => p.1.cps.toList
def segS (ss : List (List (Str × Tok))) : List (Option (Str × Tok)) := ss.flatMap fun g => none :: g.map some
def tjS : List (List (Str × Tok)) → List Nat
  | [] => []
  | [g] => 46 :: 42 :: txt g
  | g :: g2 :: r => 40 :: 63 :: 62 :: 46 :: 42 :: 63 :: (txt g ++ 41 :: tjS (g2 :: r))
def sv (o : Addr) (b : Option (Str × Tok)) : Value := match b with
  | none => .ref o
  | some p => .str p.1 p.2
theorem sv_at {o : Addr} {l : List (Option (Str × Tok))} {i : Nat} {b : Option (Str × Tok)} (h : l[i]? = some b) : (starVals o l).toArray[((i : Nat) : Int).toNat]? = some (sv o b) := by
  rw [Int.toNat_natCast]
  cases b <;> simp [starVals, h, sv]
theorem sv_at1 {o : Addr} {l : List (Option (Str × Tok))} {i : Nat} {b : Option (Str × Tok)} (h : l[i + 1]? = some b) : (starVals o l).toArray[((i : Nat) + 1 : Int).toNat]? = some (sv o b) := by
  rw [show ((i : Nat) + 1 : Int).toNat = i + 1 by lia]
  cases b <;> simp [starVals, h, sv]
theorem strs_push (l : List (Str × Tok)) (x : Str) (t : Tok) : (strValues l).toArray.push (.str x t) = (strValues (l ++ [(x, t)])).toArray := by simp [strValues]
theorem txt_app (a b : List (Str × Tok)) : txt (a ++ b) = txt a ++ txt b := by simp [txt]
theorem sum_le (g : List (Str × Tok)) (h : ∀ p ∈ g, p.1.length ≤ 3) : (g.map (·.1.length)).sum ≤ 3 * g.length := by
  induction g with
  | nil => exact Nat.le_refl _
  | cons a r ih =>
    have h1 := h a (.head _)
    have h2 := ih fun p hp => h p (.tail _ hp)
    simp only [List.map_cons, List.sum_cons, List.length_cons]
    lia
theorem txt_len (g : List (Str × Tok)) : (txt g).length = (g.map (·.1.length)).sum := by
  induction g with
  | nil => rfl
  | cons a r ih => simp only [txt, List.flatMap_cons, List.length_append, List.map_cons, List.sum_cons, len_cps]; have : (txt r).length = _ := ih; simp only [txt] at this; lia
theorem tjS_len (ss : List (List (Str × Tok))) (h : ∀ g ∈ ss, ∀ p ∈ g, p.1.length ≤ 3) : (tjS ss).length ≤ 7 * (segS ss).length := by
  induction ss with
  | nil => exact Nat.le_refl _
  | cons g r ih =>
    have h1 : (txt g).length ≤ 3 * g.length := by rw [txt_len]; exact sum_le g (h g (.head _))
    have h2 := ih fun g hg => h g (.tail _ hg)
    have h3 : (segS (g :: r)).length = 1 + g.length + (segS r).length := by simp [segS]; lia
    cases r with
    | nil => simp only [tjS, List.length_cons]; rw [h3]; simp only [tjS] at h2; lia
    | cons g2 r2 => simp only [tjS, List.length_cons, List.length_append]; rw [h3]; lia
theorem segS_cons (g : List (Str × Tok)) (r : List (List (Str × Tok))) : segS (g :: r) = none :: (g.map some ++ segS r) := by simp [segS]
theorem t_join {w : World} {mean mg mb} {A : Around} {s : Shared} {Q E : Value → Shared → Prop} (a o : Addr) (l0 : List (Str × Tok)) (ss : List (List (Str × Tok)))
  (X : (KF w.params).In s.heap) (T : Top qV LV mean mg mb s.heap) (hroom : A.depth + 2 < recursionLimit) (hu : A.units + 20 < cLine) (hh : A.handled = none) (ha : s.heap.IsList a (starVals o (l0.map some ++ segS ss)).toArray) (hin : inner ss) (hn : (l0.map some ++ segS ss).length ≤ 3000) (hone : ∀ p, some p ∈ l0.map some ++ segS ss → p.1.length ≤ 3)
  (hq : ∀ h' tk z tz, s.heap.StaysIn h' → z.cps.toList = HH ++ (txt l0 ++ (tjS ss ++ EE)) → Q (.str z tz) { s with heap := h', toks := tk }) :
  wpAny (model PySem.Challenge.rw_in0170_01.row.prog w) A (call (.ref 69) [.ref a, .ref o]) Q E s := by
  revert X
  k_fill
  intro X
  refine' enter [(Str.ofString "inp", .ref a), (Str.ofString "STAR", .ref o)] X T ?k1 ?k6 ?k7 ?k9 ?kB ?_ ?c2 ?c3 ?c4 ?c5
  case k1 => lia
  case k6 => k_is
  case k7 => k_is
  case k9 => exact BindsTo.of_eq rfl
  case c5 => decide
  case kB => exact locs rfl
  case c2 => exact rfl
  case c3 => exact rfl
  case c4 => exact rfl
  intro L h₁ F N
  generalize hl : l0.map some ++ segS ss = l at ha hn hone
  have hsize : (starVals o l).toArray.size = l.length := by simp [starVals]
  have hsz : (starVals o l).toArray.size ≤ 1000000 := by rw [hsize]; lia
  k_steps
  rename_i r h1 tr1 h2 tk4 q h3 hrq h4 D h5 hqD h6 h7 h8 F N
  have hrq' : r ≠ q := Nat.ne_of_lt hrq
  have N2 : News s.heap L h8 [(q, boundApp r), (r, W.listOf #[] 0)] := fun p hp => N p (.tail _ hp)
  obtain ⟨tn, htn⟩ : ∃ tn, tn = (tk4 + 1 + 1 + 1 + 1) := ⟨_, rfl⟩
  rw [← htn] at F
  have hl0 : l0.length + (segS ss).length = l.length := by rw [← hl]; simp
  have hat0 : ∀ i p, l0[i]? = some p → l[i]? = some (some p) := fun i p e => by
    have hi : i < l0.length := (List.getElem?_eq_some_iff.mp e).1
    rw [← hl, List.getElem?_append_left (by simp; exact hi)]; simp [e]
  refine While_PD (fun n m news => ∃ (i : Nat) (ti : Tok) (k : Nat), news = [(q, boundApp r), (r, W.listOf (strValues (l0.take i)).toArray k)] ∧ i ≤ l0.length ∧ n = l0.length - i ∧ m (Str.ofString "i") = some (.int (i : Int) ti) ∧ ∀ y, y ≠ Str.ofString "i" → m y = (fun y => if y = Str.ofString "n" then some (Value.int ((starVals o l).toArray.size : Int) tn) else if y = Str.ofString "add" then some (Value.ref q) else if y = Str.ofString "res" then some (Value.ref r) else List.lookup y [(Str.ofString "inp", Value.ref a), (Str.ofString "STAR", Value.ref o)].reverse) y)
    (fun m news => ∃ (ti : Tok) (k : Nat), news = [(q, boundApp r), (r, W.listOf (strValues l0).toArray k)] ∧ m (Str.ofString "i") = some (.int (l0.length : Int) ti) ∧ ∀ y, y ≠ Str.ofString "i" → m y = (fun y => if y = Str.ofString "n" then some (Value.int ((starVals o l).toArray.size : Int) tn) else if y = Str.ofString "add" then some (Value.ref q) else if y = Str.ofString "res" then some (Value.ref r) else List.lookup y [(Str.ofString "inp", Value.ref a), (Str.ofString "STAR", Value.ref o)].reverse) y) (n₀ := l0.length) F N2 ⟨0, _, 0, rfl, Nat.zero_le _, rfl, rfl, fun y h1 => by simp [h1]⟩ ?_ ?_
  · clear N2 N F
    intro n m₂ news₂ h4 tk4 F5 N5 hJ P D hP hB hR hD
    refine ex3 hJ fun i ti k h0_ => an5 h0_ fun e1_ hi e2_ hm1 hm2 => ?_
    clear hJ h0_
    subst e1_ e2_
    rw [env0 hm1 hm2] at F5
    clear hm1 hm2
    by_cases hlt : i < l0.length
    · have hg : l0[i]? = some l0[i] := List.getElem?_eq_getElem hlt
      have htake : l0.take (i + 1) = l0.take i ++ [l0[i]] := by rw [List.take_add_one, hg]; rfl
      generalize l0[i] = p at hg htake
      have hx : (starVals o l).toArray[(i : Int).toNat]? = some (.str p.1 p.2) := sv_at (o := o) (hat0 i p hg)
      have hiN : (i : Int) < ((starVals o l).toArray.size : Int) := by rw [hsize]; lia
      have hsz2 : (strValues (l0.take i)).toArray.size ≤ 1000000 := by simp [strValues]; lia
      k_steps
      · rename News _ _ _ _ => nn
        exact (nn _ (.head _)).1
      · rename News _ _ _ _ => nn
        rw [strs_push, ← htake] at nn
        exact hP _ (mkN (n' := l0.length - (i + 1)) (by assumption) nn (by lia) ⟨i + 1, _, k + 1, rfl, hlt, rfl, rfl, fun y h1 => by simp [h1]⟩)
    · obtain rfl : i = l0.length := by lia
      rw [List.take_length] at N5
      cases ss with
      | nil =>
        have hiN : ¬ (l0.length : Int) < ((starVals o l).toArray.size : Int) := by rw [hsize, ← hl0]; simp [segS]
        k_steps
        exact hD _ (mkO (by assumption) (by assumption) ⟨_, k, rfl, rfl, fun y h1 => by simp [h1]⟩)
      | cons g rest =>
        have hx : (starVals o l).toArray[(l0.length : Int).toNat]? = some (.ref o) := sv_at (o := o) (l := l) (i := l0.length) (b := none) (by rw [← hl, List.getElem?_append_right (by simp), segS_cons]; simp)
        have hiN : (l0.length : Int) < ((starVals o l).toArray.size : Int) := by rw [hsize, ← hl0, segS_cons]; simp; lia
        k_steps
        exact hD _ (mkO (by assumption) (by assumption) ⟨_, k, rfl, rfl, fun y h1 => by simp [h1]⟩)
  · clear N2 N F
    rintro h9 tk9 m₂ news₂ F5 N5 ⟨ti, k, rfl, hm1, hm2⟩
    rw [env0 hm1 hm2] at F5
    clear hm1 hm2
    k_steps
    refine While_PD (fun n m news => ∃ (sg : List (List (Str × Tok))) (rl : List (Str × Tok)) (i : Nat) (ti : Tok) (k : Nat), news = [(q, boundApp r), (r, W.listOf (strValues rl).toArray k)] ∧ l.drop i = segS sg ∧ i + (segS sg).length = l.length ∧ inner sg ∧ txt rl ++ tjS sg = txt l0 ++ tjS ss ∧ rl.length ≤ 2 * i ∧ n = sg.length ∧ m (Str.ofString "i") = some (.int (i : Int) ti) ∧ ∀ y, y ≠ Str.ofString "i" → y ∉ [Str.ofString "fixed"] → m y = (fun y => if y = Str.ofString "n" then some (Value.int ((starVals o l).toArray.size : Int) tn) else if y = Str.ofString "add" then some (Value.ref q) else if y = Str.ofString "res" then some (Value.ref r) else List.lookup y [(Str.ofString "inp", Value.ref a), (Str.ofString "STAR", Value.ref o)].reverse) y)
      (fun m news => ∃ (rl : List (Str × Tok)) (ti : Tok) (k : Nat), news = [(q, boundApp r), (r, W.listOf (strValues rl).toArray k)] ∧ txt rl = txt l0 ++ tjS ss ∧ rl.length ≤ 2 * l.length ∧ m (Str.ofString "i") = some (.int (l.length : Int) ti) ∧ ∀ y, y ≠ Str.ofString "i" → y ∉ [Str.ofString "fixed"] → m y = (fun y => if y = Str.ofString "n" then some (Value.int ((starVals o l).toArray.size : Int) tn) else if y = Str.ofString "add" then some (Value.ref q) else if y = Str.ofString "res" then some (Value.ref r) else List.lookup y [(Str.ofString "inp", Value.ref a), (Str.ofString "STAR", Value.ref o)].reverse) y) (n₀ := ss.length) F5 N5 ⟨ss, l0, l0.length, ti, k, rfl, by rw [← hl, List.drop_left' (by simp)], hl0, hin, rfl, by lia, rfl, rfl, fun y h1 _ => by simp [h1]⟩ ?_ ?_
    · clear N5 F5
      intro n m₂ news₂ h4 tk4 F5 N5 hJ P D2 hP hB hR hD
      refine ex5 hJ fun sg rl i ti2 k2 h0_ => an9 h0_ fun e1_ hdr hlen hin2 htx hrl e2_ hm1 hm2 => ?_
      clear hJ h0_
      subst e1_ e2_
      rw [env1 hm1 hm2] at F5
      clear hm1 hm2
      generalize m₂ = u at F5
      have hszr : (strValues rl).toArray.size ≤ 900000 := by simp [strValues]; lia
      have hgo : ∀ j b, (segS sg)[j]? = some b → l[i + j]? = some b := fun j b e => by rw [← hdr, List.getElem?_drop] at e; exact e
      cases sg with
      | nil =>
        have hiN : ¬ (i : Int) < ((starVals o l).toArray.size : Int) := by rw [hsize, ← hlen]; simp [segS]
        have hi : i = l.length := by rw [← hlen]; simp [segS]
        have htx2 : txt rl = txt l0 ++ tjS ss := by rw [← htx]; simp [tjS]
        k_steps
        refine hD _ (mkO (by assumption) (by assumption) ⟨rl, ti2, k2, rfl, htx2, by lia, by rw [← hi]; rfl, fun y h1 h2 => ?_⟩)
        have h3 : y ≠ Str.ofString "fixed" := by simpa using h2
        simp [h1, h3]
      | cons g rest =>
        rw [segS_cons] at hlen hgo
        simp only [List.length_cons, List.length_append, List.length_map] at hlen
        have hx : (starVals o l).toArray[(i : Int).toNat]? = some (.ref o) := sv_at (o := o) (b := none) (hgo 0 none rfl)
        have hiN : (i : Int) < ((starVals o l).toArray.size : Int) := by rw [hsize]; lia
        by_cases hg0 : g = []
        · subst hg0
          have hr0 : rest = [] := by
            cases rest with
            | nil => rfl
            | cons g2 r2 => exact absurd rfl hin2.1
          subst hr0
          have hi1 : (i : Int) + 1 = ((starVals o l).toArray.size : Int) := by rw [hsize]; simp only [segS, List.flatMap_nil, List.length_nil] at hlen; lia
          k_steps
          · rename News _ _ _ _ => nn
            exact (nn _ (.head _)).1
          · rename News _ _ _ _ => nn
            rw [strs_push] at nn
            have hm : ∀ tk, some (Value.int ((i : Int) + 1) tk) = some (Value.int (l.length : Int) tk) := fun tk => by rw [hi1, hsize]
            refine hB _ (mkO (by assumption) nn ⟨_, _, _, rfl, ?_, ?_, hm _, fun y h1 h2 => ?_⟩)
            · rw [txt_app, ← htx]; rfl
            · simp only [segS, List.flatMap_nil, List.length_nil] at hlen; simp; lia
            · have h3 : y ≠ Str.ofString "fixed" := by simpa using h2
              simp [h1, h3]
        · have hin3 : inner rest := by
            cases rest with
            | nil => trivial
            | cons g2 r2 => exact hin2.2
          have hgl : 0 < g.length := List.length_pos_iff.mpr hg0
          have hat : ∀ j p, g[j]? = some p → l[i + 1 + j]? = some (some p) := fun j p e => by
            have hj : j < g.length := (List.getElem?_eq_some_iff.mp e).1
            rw [show i + 1 + j = i + (j + 1) by lia]
            refine hgo (j + 1) (some p) ?_
            rw [List.getElem?_cons_succ, List.getElem?_append_left (by simp; exact hj)]
            simp [e]
          have hi1 : (i : Int) + 1 ≠ ((starVals o l).toArray.size : Int) := by rw [hsize]; lia
          obtain ⟨p0, hp0⟩ : ∃ p0, g[0]? = some p0 := ⟨_, List.getElem?_eq_getElem hgl⟩
          have hx1 : (starVals o l).toArray[((i : Int) + 1).toNat]? = some (.str p0.1 p0.2) := sv_at1 (o := o) (hat 0 p0 hp0)
          k_steps
          rename_i fx ha2 hfx h12 F6 N6
          have hfr : r ≠ fx := Nat.ne_of_lt hfx.2
          have hfq : q ≠ fx := Nat.ne_of_lt hfx.1
          refine While_PD (fun n m news => ∃ (j : Nat) (tj : Tok) (k : Nat), news = [(fx, W.listOf (strValues (g.take j)).toArray k), (q, boundApp r), (r, W.listOf (strValues rl).toArray k2)] ∧ j ≤ g.length ∧ n = g.length - j ∧ m (Str.ofString "i") = some (.int ((i + 1 + j : Nat) : Int) tj) ∧ ∀ y, y ≠ Str.ofString "i" → m y = (fun y => if y = Str.ofString "fixed" then some (Value.ref fx) else if y ∈ [Str.ofString "fixed"] then u y else (fun y => if y = Str.ofString "n" then some (Value.int ((starVals o l).toArray.size : Int) tn) else if y = Str.ofString "add" then some (Value.ref q) else if y = Str.ofString "res" then some (Value.ref r) else List.lookup y [(Str.ofString "inp", Value.ref a), (Str.ofString "STAR", Value.ref o)].reverse) y) y)
            (fun m news => ∃ (tj : Tok) (k : Nat), news = [(fx, W.listOf (strValues g).toArray k), (q, boundApp r), (r, W.listOf (strValues rl).toArray k2)] ∧ m (Str.ofString "i") = some (.int ((i + 1 + g.length : Nat) : Int) tj) ∧ ∀ y, y ≠ Str.ofString "i" → m y = (fun y => if y = Str.ofString "fixed" then some (Value.ref fx) else if y ∈ [Str.ofString "fixed"] then u y else (fun y => if y = Str.ofString "n" then some (Value.int ((starVals o l).toArray.size : Int) tn) else if y = Str.ofString "add" then some (Value.ref q) else if y = Str.ofString "res" then some (Value.ref r) else List.lookup y [(Str.ofString "inp", Value.ref a), (Str.ofString "STAR", Value.ref o)].reverse) y) y) (n₀ := g.length) F6 N6 ⟨0, _, 0, rfl, Nat.zero_le _, rfl, rfl, fun y h1 => by simp [h1]⟩ ?_ ?_
          · clear N6 F6
            intro n m₃ news₃ h13 tk13 F7 N7 hJ P3 D3 hP3 hB3 hR3 hD3
            refine ex3 hJ fun j tj k3 h0_ => an5 h0_ fun e1_ hj e2_ hm1 hm2 => ?_
            clear hJ h0_
            subst e1_ e2_
            rw [env0 hm1 hm2] at F7
            clear hm1 hm2
            by_cases hlt : j < g.length
            · have hg : g[j]? = some g[j] := List.getElem?_eq_getElem hlt
              have htake : g.take (j + 1) = g.take j ++ [g[j]] := by rw [List.take_add_one, hg]; rfl
              generalize g[j] = p at hg htake
              have hx : (starVals o l).toArray[((i + 1 + j : Nat) : Int).toNat]? = some (.str p.1 p.2) := sv_at (o := o) (hat j p hg)
              have hiN : ((i + 1 + j : Nat) : Int) < ((starVals o l).toArray.size : Int) := by rw [hsize]; lia
              have hsz2 : (strValues (g.take j)).toArray.size ≤ 1000000 := by simp [strValues]; lia
              have hk9 : ((i + 1 + j : Nat) : Int) ≤ 1000000 := by lia
              k_steps
              rename News _ _ _ _ => nn
              rw [strs_push, ← htake] at nn
              exact hP3 _ (mkN (n' := g.length - (j + 1)) (by assumption) nn (by lia) ⟨j + 1, _, k3 + 1, rfl, hlt, rfl, rfl, fun y h1 => by simp [h1]⟩)
            · obtain rfl : j = g.length := by lia
              rw [List.take_length] at N7
              cases rest with
              | nil =>
                have hiN : ¬ ((i + 1 + g.length : Nat) : Int) < ((starVals o l).toArray.size : Int) := by rw [hsize, ← hlen]; simp [segS]; lia
                k_steps
                exact hD3 _ (mkO (by assumption) (by assumption) ⟨_, k3, rfl, rfl, fun y h1 => by simp [h1]⟩)
              | cons g2 r2 =>
                have hx : (starVals o l).toArray[((i + 1 + g.length : Nat) : Int).toNat]? = some (.ref o) := sv_at (o := o) (b := none) (by
                  rw [show i + 1 + g.length = i + (g.length + 1) by lia]
                  refine hgo _ _ ?_
                  rw [List.getElem?_cons_succ, List.getElem?_append_right (by simp), segS_cons]; simp)
                have hiN : ((i + 1 + g.length : Nat) : Int) < ((starVals o l).toArray.size : Int) := by
                  rw [segS_cons] at hlen; simp only [List.length_cons] at hlen; rw [hsize]; lia
                have hk9 : ((i + 1 + g.length : Nat) : Int) ≤ 1000000 := by lia
                k_steps
                exact hD3 _ (mkO (by assumption) (by assumption) ⟨_, k3, rfl, rfl, fun y h1 => by simp [h1]⟩)
          · clear N6 F6
            rintro h14 tk14 m₃ news₃ F7 N7 ⟨tj, k3, rfl, hm1, hm2⟩
            rw [env0 hm1 hm2] at F7
            clear hm1 hm2
            have hw : (g.map (·.1.length)).sum + g.length ≤ 1000000 := by
              have h1 : ∀ p ∈ g, p.1.length ≤ 3 := fun p hp => by
                obtain ⟨j, hj, e⟩ := List.getElem_of_mem hp
                exact hone p (List.mem_of_getElem? (hat j p (by rw [List.getElem?_eq_getElem hj, e])))
              have := sum_le g h1
              lia
            have hzl : ∀ z : Str, z.cps.toList = txt g → z.length ≤ 1000000 := fun z hz => by
              rw [← len_cps, hz, txt_len]; lia
            have hdr2 : l.drop (i + 1 + g.length) = segS rest := by
              rw [show i + 1 + g.length = i + (g.length + 1) by lia, ← List.drop_drop, hdr, segS_cons, List.drop_succ_cons, List.drop_left' (by simp)]
            have hlen2 : i + 1 + g.length + (segS rest).length = l.length := by lia
            have fin : ∀ (rl2 : List (Str × Tok)) (h' : Heap) (tk' : Nat) (m' : Str → Option Value) (nw : List (Addr × Obj)) (k' : Nat) (tj' : Tok), Fr s.heap L h' m' → News s.heap L h' nw → (∀ p ∈ [(q, boundApp r), (r, W.listOf (strValues rl2).toArray k')], p ∈ nw) → rl2.length ≤ rl.length + 2 → txt rl2 ++ tjS rest = txt l0 ++ tjS ss → m' (Str.ofString "i") = some (.int ((i + 1 + g.length : Nat) : Int) tj') → (∀ y, y ≠ Str.ofString "i" → y ∉ [Str.ofString "fixed"] → m' y = (fun y => if y = Str.ofString "n" then some (Value.int ((starVals o l).toArray.size : Int) tn) else if y = Str.ofString "add" then some (Value.ref q) else if y = Str.ofString "res" then some (Value.ref r) else List.lookup y [(Str.ofString "inp", Value.ref a), (Str.ofString "STAR", Value.ref o)].reverse) y) → P .next { s with heap := h', toks := tk' } := by
              intro rl2 h' tk' m' nw k' tj' a1 a2 a3 a4 a5 a6 a7
              exact hP _ (mkN (n' := rest.length) a1 (fun p hp => a2 p (a3 p hp)) (by simp) ⟨rest, rl2, i + 1 + g.length, tj', k', rfl, hdr2, hlen2, hin3, a5, by lia, rfl, a6, a7⟩)
            cases rest with
            | nil =>
              have hi9 : ((i + 1 + g.length : Nat) : Int) = ((starVals o l).toArray.size : Int) := by rw [hsize, ← hlen]; simp [segS]; lia
              have hi2 : (((i + 1 + g.length : Nat) : Int) == ((starVals o l).toArray.size : Int)) = true := by rw [beq_iff_eq]; exact hi9
              k_steps
              · rename News _ _ _ _ => nn
                first | exact (nn _ (.head _)).1 | exact (nn _ (.tail _ (.head _))).1
              · rename News _ _ _ _ => nn
                first | exact (nn _ (.head _)).1 | exact (nn _ (.tail _ (.head _))).1
              · rename News _ _ _ _ => nn
                rename_i z tz kz hz h15 F8 N8 tq h16 F9 N9 tq2 h17 F10
                rw [strs_push, strs_push] at nn
                refine fin _ _ _ _ _ _ _ (by assumption) nn (fun p hp => by first | exact hp | exact .tail _ hp) (by simp) ?_ rfl ?_
                · rw [txt_app, txt_app, ← htx]
                  have e1 : (Str.ofString ".*").cps.toList = [46, 42] := by decide
                  simp only [txt, List.flatMap_cons, List.flatMap_nil, List.append_nil, e1, tjS, hz]
                  simp
                · intro y h1 h2
                  have h3 : y ≠ Str.ofString "fixed" := by simpa using h2
                  simp [h1, h3]
            | cons g2 r2 =>
              have hi9 : ((i + 1 + g.length : Nat) : Int) ≠ ((starVals o l).toArray.size : Int) := by rw [segS_cons] at hlen; simp only [List.length_cons] at hlen; rw [hsize]; lia
              have hi2 : (((i + 1 + g.length : Nat) : Int) == ((starVals o l).toArray.size : Int)) = false := by rw [beq_eq_false_iff_ne]; exact hi9
              k_steps
              rename_i z tz kz hz h15 F8 N8
              have hz3 := hzl z hz
              k_steps
              · first | exact (N8 _ (.head _)).1 | exact (N8 _ (.tail _ (.head _))).1
              · rename News _ _ _ _ => nn
                rw [strs_push] at nn
                refine fin _ _ _ _ _ _ _ (by assumption) nn (fun p hp => by first | exact hp | exact .tail _ hp) (by simp) ?_ rfl ?_
                · rw [txt_app, ← htx]
                  have e1 : (Str.ofString "(?>.*?").cps.toList = [40, 63, 62, 46, 42, 63] := by decide
                  have e2 : (Str.ofString ")").cps.toList = [41] := by decide
                  have e3 : Str.empty.cps.toList = [] := rfl
                  simp only [txt, List.flatMap_cons, List.flatMap_nil, List.append_nil, str_app, e1, e2, e3, tjS, List.nil_append, hz]
                  simp
                · intro y h1 h2
                  have h3 : y ≠ Str.ofString "fixed" := by simpa using h2
                  simp [h1, h3]
    · clear N5 F5
      rintro h9 tk9 m₂ news₂ F5 N5 ⟨rl, ti2, k2, rfl, htx, hrl, hm1, hm2⟩
      rw [env1 hm1 hm2] at F5
      clear hm1 hm2
      generalize m₂ = u at F5
      have hnN : (l.length : Int) = ((starVals o l).toArray.size : Int) := by rw [hsize]
      have htl : (txt rl).length ≤ 100000 := by
        rw [htx, List.length_append]
        have h1 : (txt l0).length ≤ 3 * l0.length := by
          rw [txt_len]
          exact sum_le l0 fun p hp => hone p (by rw [← hl]; simp [hp])
        have h2 : (tjS ss).length ≤ 7 * (segS ss).length := tjS_len ss fun g hg p hp => hone p (by
          rw [← hl]
          refine List.mem_append.mpr (.inr ?_)
          exact List.mem_flatMap.mpr ⟨g, hg, .tail _ (List.mem_map_of_mem hp)⟩)
        lia
      have hw : (rl.map (·.1.length)).sum + rl.length ≤ 1000000 := by rw [← txt_len]; lia
      k_steps
      rename_i z tz kz hz h15 F8 N8
      have hz3 : z.length ≤ 1000000 := by
        rw [← len_cps, hz]
        show (txt rl).length ≤ _
        lia
      k_steps
      refine hq _ _ _ _ (Fr.keep (by assumption)) ?_
      have e1 : (Str.ofString "(?s:").cps.toList = HH := by decide
      have e2 : (Str.ofString ")\\Z").cps.toList = EE := by decide
      have e3 : Str.empty.cps.toList = [] := rfl
      rw [str_app, str_app, str_app, e1, e2, e3, hz]
      show [] ++ HH ++ txt rl ++ EE = _
      rw [htx]
      simp
theorem rows_Fjoin_end : True := by
  k_with_none
  trivial
end
section
theorem rows_Ftl : True := by
  k_with_none
  k_with "m:storeName" => (dsimp (config := { beta := false, eta := false, iota := false, proj := true, zeta := false }) only; walk_at "storeName")
  k_with "m:call type:object" => ((((have Fₜ := (by with_reducible assumption : Fr _ _ _ _)); (have Nₜ := (by with_reducible assumption : News _ _ _ _)); k_dflt (refine' call_objectN Fₜ Nₜ ?_); intro _ _ _ _ l1ₓ; (try k_lt l1ₓ)); clear Fₜ Nₜ; revert l1ₓ; intro _))
  trivial
theorem News.addNew {h₀ h h' : Heap} {L a : Addr} {o : Obj} {m : Str → Option Value} {news : List (Addr × Obj)} (F : Fr h₀ L h m) (N : News h₀ L h news) (st : h.StaysIn h') (ha : h'.get? a = some o) (hn : h.get? a = none) : News h₀ L h' ((a, o) :: news) := fun p hp => by
  rcases List.mem_cons.mp hp with rfl | hp
  · refine ⟨ha, fun q => ?_, ?_⟩
    · obtain ⟨oL, _, _, hL, _⟩ := F.ns
      rw [← show a = L from q, hn] at hL
      cases hL
    · cases e : h₀.get? a with
      | none => rfl
      | some o' => rw [F.keep _ _ e] at hn; cases hn
  · exact ⟨st _ _ (N p hp).1, (N p hp).2⟩
def cps1 (p : Str × Tok) : L := p.1.cps.toList
theorem un_run : ∀ (r : L) (l : List (Option (Str × Tok))) (rest : List (Option L)), l.map cpo = r.map so ++ rest → ∃ (l0 : List (Str × Tok)) (l2 : List (Option (Str × Tok))), l = l0.map some ++ l2 ∧ l0.map cps1 = r.map one ∧ l2.map cpo = rest
  | [], l, rest, h => ⟨[], l, rfl, rfl, h⟩
  | c :: r, [], rest, h => by cases h
  | c :: r, b :: l, rest, h => by
    simp only [List.map_cons, List.cons_append, List.cons.injEq] at h
    obtain ⟨l0, l2, h1, h2, h3⟩ := un_run r l rest h.2
    cases b with
    | none => cases h.1
    | some p =>
      have e : cps1 p = one c := Option.some.inj h.1
      exact ⟨p :: l0, l2, by rw [h1]; rfl, by simp [h2, e], h3⟩
theorem un_segs : ∀ (ps : List L) (l : List (Option (Str × Tok))), l.map cpo = segL ps → ∃ ss : List (List (Str × Tok)), l = segS ss ∧ ss.map (fun g => g.map cps1) = ps.map (fun p => p.map one)
  | [], l, h => ⟨[], by simpa [segL, segS] using h, rfl⟩
  | p :: ps, [], h => by cases h
  | p :: ps, b :: l, h => by
    have e : segL (p :: ps) = none :: (p.map so ++ segL ps) := by simp [segL]
    rw [e] at h
    simp only [List.map_cons, List.cons.injEq] at h
    obtain ⟨l0, l2, h1, h2, h3⟩ := un_run p l _ h.2
    obtain ⟨ss, h4, h5⟩ := un_segs ps l2 h3
    cases b with
    | some p => cases h.1
    | none => exact ⟨l0 :: ss, by rw [h1, h4, segS_cons], by simp [h2, h5]⟩
theorem txt_cod (l0 : List (Str × Tok)) (r : L) (h : l0.map cps1 = r.map one) : txt l0 = cod r := by
  have : txt l0 = (l0.map cps1).flatten := by unfold txt; rw [List.flatMap_def]; rfl
  rw [this, h]; simp [cod, List.flatMap_def]
theorem tjS_tjT : ∀ (ss : List (List (Str × Tok))) (ps : List L), ss.map (fun g => g.map cps1) = ps.map (fun p => p.map one) → tjS ss = tjT ps ∧ (inner ps → inner ss)
  | [], [], _ => ⟨rfl, fun h => h⟩
  | [], _ :: _, h => by cases h
  | _ :: _, [], h => by cases h
  | [g], [p], h => by
    simp only [List.map_cons, List.map_nil, List.cons.injEq, and_true] at h
    exact ⟨by simp [tjS, tjT, txt_cod g p h], fun _ => trivial⟩
  | [g], p :: p2 :: ps, h => by simp at h
  | g :: g2 :: ss, [p], h => by simp at h
  | g :: g2 :: ss, p :: p2 :: ps, h => by
    have h0 := (List.cons.inj h).1
    obtain ⟨h1, h2⟩ := tjS_tjT (g2 :: ss) (p2 :: ps) (List.cons.inj h).2
    refine ⟨by simp only [tjS, tjT, txt_cod g p h0, h1], fun k => ⟨fun q => k.1 ?_, h2 k.2⟩⟩
    rw [q] at h0
    simpa using h0.symm
theorem one_len (c : Nat) : (one c).length ≤ 3 := by
  unfold one esc
  split
  · simp
  · split <;> simp
theorem tok_len (X : L) : (toksOf X).length ≤ X.length := by
  have key : ∀ (X : L) (acc : List (Option L)), (X.foldl tokF acc).length ≤ acc.length + X.length := by
    intro X
    induction X with
    | nil => intro acc; exact Nat.le_refl _
    | cons c X ih =>
      intro acc
      rw [List.foldl_cons]
      have h1 := ih (tokF acc c)
      have h2 : (tokF acc c).length ≤ acc.length + 1 := by
        unfold tokF
        split
        · split <;> simp
        · simp
      rw [List.length_cons]; lia
  have := key X []
  simpa [toksOf] using this
theorem so_mem (X : L) : ∀ t, some t ∈ toksOf X → t.length ≤ 3 := by
  have key : ∀ (X : L) (acc : List (Option L)), (∀ t, some t ∈ acc → t.length ≤ 3) → ∀ t, some t ∈ X.foldl tokF acc → t.length ≤ 3 := by
    intro X
    induction X with
    | nil => intro acc h; exact h
    | cons c X ih =>
      intro acc h
      rw [List.foldl_cons]
      refine ih _ fun t ht => ?_
      unfold tokF at ht
      split at ht
      · split at ht
        · exact h t ht
        · rcases List.mem_append.mp ht with q | q
          · exact h t q
          · simp at q
      · rcases List.mem_append.mp ht with q | q
        · exact h t q
        · simp only [List.mem_singleton, Option.some.injEq] at q
          rw [q]; exact one_len c
  exact key X [] (fun t h => nomatch h)
theorem call_of_run {w : World} {mean mg mb} {A : Around} {s : Shared} {Q E : Value → Shared → Prop} (a o : Addr) (l : List (Option (Str × Tok))) (Y : L)
    (X : (KF w.params).In s.heap) (T : Top qV LV mean mg mb s.heap) (hroom : A.depth + 2 < recursionLimit) (hu : A.units + 20 < cLine) (hh : A.handled = none) (ha : s.heap.IsList a (starVals o l).toArray) (hl : l.map cpo = toksOf Y) (hY : Y.length ≤ 3000)
    (hq : ∀ h' tk z tz, s.heap.StaysIn h' → z.cps.toList = told Y → Q (.str z tz) { s with heap := h', toks := tk }) :
    wpAny (model PySem.Challenge.rw_in0170_01.row.prog w) A (call (.ref 69) [.ref a, .ref o]) Q E s := by
  have hlen : l.length ≤ 3000 := by
    have h1 := congrArg List.length hl
    rw [List.length_map] at h1
    have := tok_len Y
    lia
  have hone : ∀ p, some p ∈ l → p.1.length ≤ 3 := fun p hp => by
    have h1 : cpo (some p) ∈ l.map cpo := List.mem_map_of_mem hp
    rw [hl] at h1
    have := so_mem Y _ h1
    rwa [len_cps] at this
  have hf := hl
  rw [toks_flat] at hf
  obtain ⟨l0, l2, h1, h2, h3⟩ := un_run _ _ _ hf
  obtain ⟨ss, h4, h5⟩ := un_segs _ _ h3
  obtain ⟨h6, h7⟩ := tjS_tjT _ _ h5
  subst h4
  subst h1
  refine t_join a o l0 ss X T hroom hu hh ha (h7 (inner_runs Y).1) hlen hone fun h' tk z tz st hz => hq h' tk z tz st ?_
  rw [hz, txt_cod _ _ h2, h6, told_form]
theorem rows_Ftl1 : True := by
  k_with "m:call ref" => ((((with_reducible show wpAny _ _ (call (Value.ref 62) [_, _, _]) _ _ _); (with_unfolding_all refine' t_tr _ _ _ _ ?k1ₓ ?k2ₓ ?k3ₓ ?k4ₓ ?k5ₓ ?k6ₓ ?k7ₓ ?k8ₓ ?_); (case k1ₓ => exact Frag.In.keeps (by assumption) (Fr.keep (by assumption))); (case k2ₓ => exact Top.keeps (by assumption) (Fr.keep (by assumption))); (case k3ₓ => k_dflt (exact dep_lt (by with_reducible assumption) (by decide))); (case k4ₓ => k_dflt (exact unit_lt (by with_reducible assumption) (by decide))); (case k5ₓ => assumption); (case k6ₓ => with_reducible assumption); (case k7ₓ => with_reducible assumption); (case k8ₓ => with_reducible assumption); intro _ _ _ _ _ st'ₓ hl'ₓ hn'ₓ hm'ₓ; (have Fₜ := (by with_reducible assumption : Fr _ _ _ _)); (have Nₜ := (by with_reducible assumption : News _ _ _ _)); (have N'ₓ := News.addNew Fₜ Nₜ st'ₓ hl'ₓ hn'ₓ); (have F'ₓ := Fr.keeps Fₜ st'ₓ)); clear Fₜ Nₜ; revert st'ₓ hl'ₓ hn'ₓ hm'ₓ N'ₓ F'ₓ; intro _ _ _ _ _ _))
  k_with "m:call ref" => ((((with_reducible show wpAny _ _ (call (Value.ref 69) [_, _]) _ _ _); (with_unfolding_all refine' call_of_run _ _ _ _ ?k1ₓ ?k2ₓ ?k3ₓ ?k4ₓ ?k5ₓ ?k6ₓ ?k7ₓ ?k8ₓ ?_); (case k1ₓ => exact Frag.In.keeps (by assumption) (Fr.keep (by assumption))); (case k2ₓ => exact Top.keeps (by assumption) (Fr.keep (by assumption))); (case k3ₓ => k_dflt (exact dep_lt (by with_reducible assumption) (by decide))); (case k4ₓ => k_dflt (exact unit_lt (by with_reducible assumption) (by decide))); (case k5ₓ => assumption); (case k7ₓ => with_reducible assumption); (case k6ₓ => is_list); (case k8ₓ => with_reducible assumption); intro _ _ _ _ st'ₓ hz'ₓ; (have F'ₓ := Fr.keeps (by assumption) st'ₓ)); revert st'ₓ hz'ₓ F'ₓ; intro _ _ _))
  trivial
theorem t_translate {w : World} {mean mg mb} {A : Around} {s : Shared} {Q E : Value → Shared → Prop} (x : Str) (t : Tok)
  (X : (KF w.params).In s.heap) (T : Top qV LV mean mg mb s.heap) (hroom : A.depth + 8 < recursionLimit) (hu : A.units + 80 < cLine) (hh : A.handled = none) (hx : x.length ≤ 3000) (h91 : 91 ∉ x.cps.toList) (h128 : ∀ c ∈ x.cps.toList, c < 128)
  (hq : ∀ h' tk z tz, s.heap.StaysIn h' → z.cps.toList = told x.cps.toList → Q (.str z tz) { s with heap := h', toks := tk }) :
  wpAny (model PySem.Challenge.rw_in0170_01.row.prog w) A (call (.ref 43) [.str x t]) Q E s := by
  revert X
  k_fill
  intro X
  refine' enter [(Str.ofString "pat", .str x t)] X T ?k1 ?k6 ?k7 ?k9 ?kB ?_ ?c2 ?c3 ?c4 ?c5
  case k1 => lia
  case k6 => k_is
  case k7 => k_is
  case k9 => exact BindsTo.of_eq rfl
  case c5 => decide
  case kB => exact locs rfl
  case c2 => exact rfl
  case c3 => exact rfl
  case c4 => exact rfl
  intro L h₁ F N
  have hx2 : x.cps.toList.length ≤ 3000 := by rw [len_cps]; exact hx
  k_steps
  exact hq _ _ _ _ (Fr.keep (by assumption)) (by assumption)
theorem rows_Ftl_end : True := by
  k_with_none
  trivial
end
section
theorem slice13 {a1 a2 : Nat} : Txt.slice ⟨#[61, a1, a2]⟩ (some 1) (some 3) = ⟨#[a1, a2]⟩ := by rfl
theorem rows_Funq : True := by
  k_with_none
  k_with "m:storeName" => (dsimp (config := { beta := false, eta := false, iota := false, proj := true, zeta := false }) only; walk_at "storeName")
  k_with "m:call type:int" => (((with_reducible rw [slice13]); (with_reducible refine int_hex (by with_reducible assumption) ?_); intro _ _))
  k_with "m:call builtin:chr" => (((with_reducible refine chr_any (val_small (by with_reducible assumption)) ?_); intro _ _))
  trivial
theorem t_unq {w : World} {mean mg mb} {A : Around} {s : Shared} {Q E : Value → Shared → Prop} (x : Str) (t : Tok) (a1 a2 v : Nat)
  (X : (KF w.params).In s.heap) (T : Top qV LV mean mg mb s.heap) (hroom : A.depth + 1 < recursionLimit) (hu : A.units + 10 < cLine) (hh : A.handled = none) (hx : x.cps.toList = [61, a1, a2]) (hv : valH a1 a2 = some v)
  (hq : ∀ h' tk z tz, s.heap.StaysIn h' → z.cps.toList = [v] → Q (.str z tz) { s with heap := h', toks := tk }) :
  wpAny (model PySem.Challenge.rw_in0170_01.row.prog w) A (call (.ref 97) [.str x t]) Q E s := by
  obtain ⟨⟨xs⟩⟩ := x
  have hx : xs = [61, a1, a2] := hx
  subst hx
  revert X
  k_fill
  intro X
  refine' enter [(Str.ofString "s", .str ⟨#[61, a1, a2]⟩ t)] X T ?k1 ?k6 ?k7 ?k9 ?kB ?_ ?c2 ?c3 ?c4 ?c5
  case k1 => lia
  case k6 => k_is
  case k7 => k_is
  case k9 => exact BindsTo.of_eq rfl
  case c5 => decide
  case kB => exact locs rfl
  case c2 => exact rfl
  case c3 => exact rfl
  case c4 => exact rfl
  intro L h₁ F N
  k_steps
  exact hq _ _ _ _ (Fr.keep (by assumption)) rfl
theorem MatAt.keeps {h h' : Heap} {M : Addr} {x : Str} {b e : Nat} (X : MatAt h M x b e) (k : ∀ b o, h.get? b = some o → h'.get? b = some o) : MatAt h' M x b e := by
  obtain ⟨t, P, T, lim, e1, e2⟩ := X
  exact ⟨t, P, T, lim, k _ _ e1, k _ _ e2⟩
theorem mat_text {x : Str} {b : Nat} {Y : L} (h : (x.cps.toList.drop b).take 3 = Y) : (⟨x.cps.extract b (b + 3)⟩ : Str).cps.toList = Y := by
  rw [← h]
  simp only [Array.toList_extract, List.extract_eq_take_drop]
  rw [Nat.add_sub_cancel_left]
theorem rows_Funq1 : True := by
  k_with "m:getMethod ref" => (((with_reducible show wpAny _ _ (getMethod (Value.ref _) (Str.ofString "group") _) _ _ _); (refine gm_group (MatAt.keeps (by with_reducible assumption) (Fr.keep (by with_reducible assumption))) ?_)))
  k_with "m:call builtin:re.Match.group" => (((refine call_group (MatAt.keeps (by with_reducible assumption) (Fr.keep (by with_reducible assumption))) (by with_reducible assumption) ?_); intro _ _))
  k_with "m:call ref" => ((((with_reducible show wpAny _ _ (call (Value.ref 97) [_]) _ _ _); (with_unfolding_all refine' t_unq _ _ _ _ _ ?k1ₓ ?k2ₓ ?k3ₓ ?k4ₓ ?k5ₓ ?k6ₓ ?k7ₓ ?_); (case k6ₓ => with_reducible assumption); (case k7ₓ => with_reducible assumption); (case k1ₓ => exact Frag.In.keeps (by assumption) (Fr.keep (by assumption))); (case k2ₓ => exact Top.keeps (by assumption) (Fr.keep (by assumption))); (case k3ₓ => k_dflt (exact dep_lt (by with_reducible assumption) (by decide))); (case k4ₓ => k_dflt (exact unit_lt (by with_reducible assumption) (by decide))); (case k5ₓ => assumption); intro _ _ _ _ st'ₓ hz'ₓ; (have F'ₓ := Fr.keeps (by assumption) st'ₓ); (have N'ₓ := News.grown (by assumption) st'ₓ)); revert st'ₓ hz'ₓ F'ₓ N'ₓ; intro _ _ _ _))
  trivial
theorem t_um {w : World} {mean mg mb} {A : Around} {s : Shared} {Q E : Value → Shared → Prop} (M : Addr) (x : Str) (b a1 a2 v : Nat)
  (X : (KF w.params).In s.heap) (T : Top qV LV mean mg mb s.heap) (hroom : A.depth + 2 < recursionLimit) (hu : A.units + 20 < cLine) (hh : A.handled = none) (hM : MatAt s.heap M x b (b + 3)) (hx2 : x.length ≤ 1000000) (hx : (x.cps.toList.drop b).take 3 = [61, a1, a2]) (hv : valH a1 a2 = some v)
  (hq : ∀ h' tk z tz, s.heap.StaysIn h' → z.cps.toList = [v] → Q (.str z tz) { s with heap := h', toks := tk }) :
  wpAny (model PySem.Challenge.rw_in0170_01.row.prog w) A (call (.ref 117) [.ref M]) Q E s := by
  revert X
  k_fill
  intro X
  refine' enter [(Str.ofString "match", .ref M)] X T ?k1 ?k6 ?k7 ?k9 ?kB ?_ ?c2 ?c3 ?c4 ?c5
  case k1 => lia
  case k6 => k_is
  case k7 => k_is
  case k9 => exact BindsTo.of_eq rfl
  case c5 => decide
  case kB => exact locs rfl
  case c2 => exact rfl
  case c3 => exact rfl
  case c4 => exact rfl
  intro L h₁ F N
  have hx3 := mat_text hx
  k_steps
  exact hq _ _ _ _ (Fr.keep (by assumption)) (by assumption)
theorem rows_Funq_end : True := by
  k_with_none
  trivial
end
section
theorem pat_of {w : World} {h : Heap} (X : (KF w.params).In h) : PatAt h 74 73 :=
  ⟨⟨_, _, _, X 74 _ rfl⟩, (X 73 (o73 w.params) rfl).trans (congrArg some (by kernel_rfl))⟩
theorem fn_of {w : World} {h : Heap} (X : (KF w.params).In h) : ∃ o, h.get? 117 = some o ∧ o.cls = .type "function" :=
  ⟨_, X 117 _ rfl, rfl⟩
theorem rows_Fhdec : True := by
  k_with_none
  k_with "m:call builtin:str.replace" => (((with_unfolding_all refine replace_none (c := 95) ?k1 ?_); (case k1 => with_reducible assumption)))
  k_with "m:getMethod ref" => (((with_reducible show wpAny _ _ (getMethod (Value.ref _) (Str.ofString "sub") _) _ _ _); (refine gm_sub (pat_of (Frag.In.keeps (by with_reducible assumption) (Fr.keep (by with_reducible assumption)))) ?_)))
  k_with "m:call builtin:re.Pattern.sub" => (((with_unfolding_all refine' call_sub (pat_of ?k1) (fn_of ?k1) ?k2 ?k3 ?k4 ?_ ?_); (case k1 => exact Frag.In.keeps (by assumption) (Fr.keep (by assumption))); (case k2 => with_reducible assumption); (case k3 => with_reducible assumption); (case k4 => with_reducible assumption)))
  trivial
theorem t_hdec {w : World} {mean mg mb} {A : Around} {s : Shared} {Q E : Value → Shared → Prop} (x : Str) (t : Tok) (X0 r : L)
  (X : (KF w.params).In s.heap) (T : Top qV LV mean mg mb s.heap) (hroom : A.depth + 4 < recursionLimit) (hu : A.units + 40 < cLine) (hh : A.handled = none) (hx : x.cps.toList = X0) (hl : x.length ≤ 100000) (h95 : 95 ∉ x.cps.toList) (hs : Sub X0 r)
  (hq : ∀ h' tk z tz, s.heap.StaysIn h' → z.cps.toList = r → Q (.str z tz) { s with heap := h', toks := tk }) :
  wpAny (model PySem.Challenge.rw_in0170_01.row.prog w) A (call (.ref 124) [.str x t]) Q E s := by
  revert X
  k_fill
  intro X
  refine' enter [(Str.ofString "s", .str x t)] X T ?k1 ?k6 ?k7 ?k9 ?kB ?_ ?c2 ?c3 ?c4 ?c5
  case k1 => omega
  case k6 => k_is
  case k7 => k_is
  case k9 => exact BindsTo.of_eq rfl
  case c5 => decide
  case kB => exact locs rfl
  case c2 => exact rfl
  case c3 => exact rfl
  case c4 => exact rfl
  intro L h₁ F N
  k_steps
  · rename _ = some _ => hv
    rename MatAt _ _ _ _ _ => hM
    rename List.take 3 _ = _ => hsl
    rename Heap.StaysIn _ _ => st
    rename ∀ _ _ _ _, _ => hq2
    refine t_um _ _ _ _ _ _ (Frag.In.keeps X ?_) (Top.keeps T ?_) ?_ ?_ ?_ hM (by omega) hsl hv hq2
    · exact fun b o e => st b o (Fr.keep (by assumption) b o e)
    · exact fun b o e => st b o (Fr.keep (by assumption) b o e)
    · show _ + 1 + 2 < recursionLimit; omega
    · show _ + 3 + 1 + 20 < cLine; omega
    · exact hh
  · rename Heap.StaysIn _ _ => st
    exact hq _ _ _ _ (fun b o e => st b o (Fr.keep (by assumption) b o e)) (by assumption)
theorem rows_Fhdec_end : True := by
  k_with_none
  trivial
end
section
theorem rows_Fhenc : True := by
  k_with_none
  k_with "m:storeName" => (dsimp (config := { beta := false, eta := false, iota := false, proj := true, zeta := false }) only; walk_at "storeName")
  k_with "m:getMethod str" => (with_reducible refine gm_translate ?_)
  k_with "m:formatField str" => (((refine' fieldS ?_ ?hz); (case hz => with_reducible assumption); intro _ _))
  trivial
theorem truthy_b {prog : Program} {w : World} {A : Around} {E : Value → Shared → Prop} {s : Shared} {c : UInt8} {cs : List UInt8} {t : Tok} {Q : Bool → Shared → Prop} (hl : cs.length ≤ 100000) (h : ∀ k, Q true { s with toks := k }) : wpAny (model prog w) A (truthy (.bytes (c :: cs).toArray t)) Q E s := by
  refine KBw.truthy_K (ks := ((c :: cs).map fun u => (u.toNat : Int))) rfl (by simp; lia) ?_
  rw [decide_eq_true (by simp)]; exact h _
def hdrMap (c : Nat) : Option Str := some ⟨(cc c).toArray⟩
def itm (o : Obj) : Array Value := match o.data with
  | .seq es _ => es
  | _ => #[]
def hdrOk (es : Array Value) (c : Nat) : Bool := match es[c]? with
  | some (.str y _) => y.cps == (cc c).toArray
  | _ => false
theorem hdr_all0 (P : Params) : (toks.all fun c => hdrOk (itm (o82v1 P)) c) = true := by kernel_rfl
theorem hdr_tl {prog : Program} {w : World} {A : Around} {P : Params} {h : Heap} (X : (KF P).In h) {c : Nat} (hc : c ∈ toks) : TL prog w A h (.ref 82) hdrMap c := by
  have ok := List.all_eq_true.mp (hdr_all0 P) c hc
  have hs : c < 2 ^ 63 := Nat.lt_of_lt_of_le ((by decide : ∀ c ∈ toks, c < 1000) c hc) (by decide)
  unfold hdrOk at ok
  split at ok
  · rename_i y tk hf
    rw [beq_iff_eq] at ok
    refine tl_list (items := itm (o82v1 P)) (t := y) (tk := tk) ⟨_, X 82 _ rfl, rfl, _, rfl⟩ hs hf ?_
    unfold hdrMap
    rw [← ok]
  · cases ok
theorem hdr_out (c : Nat) : outM hdrMap c = cc c := rfl
theorem cc_len (c : Nat) : (cc c).length ≤ 3 := by
  unfold cc
  repeat' split
  all_goals first | decide | exact Nat.le_refl _ | (simp)
theorem call_hdr {prog : Program} {w : World} {A : Around} {E : Value → Shared → Prop} {s : Shared} {P : Params} {x : List Nat} {t : Tok} {Q : Value → Shared → Prop} (X : (KF P).In s.heap) (hx : x ≠ []) (hx2 : x.length ≤ 100000) (hk : okk x)
    (h : ∀ z tz h' tk, s.heap.StaysIn h' → z.cps.toList = ccs x → Q (.str z tz) { s with heap := h', toks := tk }) : wpAny (model prog w) A (call (.builtin "str.translate") [.str ⟨x.toArray⟩ t, .ref 82]) Q E s := by
  have hl : (⟨x.toArray⟩ : Str).length = x.length := by show x.toArray.size = _; simp
  refine call_translate (mp := hdrMap) (by rw [hl]; exact fun q => hx (List.eq_nil_of_length_eq_zero q)) (by rw [hl]; exact hx2) (fun c u hu => ?_) (fun c hc => hdr_tl X (hk c (by simpa using hc))) fun z tz h' tk st hz => h z tz h' tk st (by rw [hz]; rfl)
  cases hu
  show (cc c).toArray.size ≤ 3
  rw [List.size_toArray]; exact cc_len c
theorem hdr_len {z : Str} {x : List Nat} (hz : z.cps.toList = ccs x) (h : x.length ≤ 100000) : z.length ≤ 1000000 := by
  have : z.cps.toList.length = z.length := by simp [Str.length]
  rw [← this, hz]
  have g : ∀ l : List Nat, (ccs l).length ≤ 3 * l.length := by
    intro l
    induction l with
    | nil => exact Nat.le_refl _
    | cons c l ih =>
      rw [ccs_cons, List.length_append, List.length_cons]
      have := cc_len c
      lia
  have := g x
  lia
theorem convS_any {prog : Program} {w : World} {A : Around} {E : Value → Shared → Prop} {s : Shared} {x : Str} {t : Tok} {Q : Value → Shared → Prop} (hx : x.length ≤ 1000000) (h : ∀ t' k, Q (.str x t') { s with toks := k }) : wpAny (model prog w) A (convS (.str x t)) Q E s :=
  SB.convS_str h (by rw [PySem.sizeLine_eq]; lia)
theorem rows_Fhenc1 : True := by
  k_with "m:truthy bytes" => (((refine truthy_b ?k1 ?_); (case k1 => omega); intro _))
  k_with "m:call builtin:bytes.decode" => (((refine dec_latin ?k1 ?_); (case k1 => omega); intro _ _))
  k_with "m:call builtin:str.translate" => ((((refine call_hdr (Frag.In.keeps (by with_reducible assumption) (Fr.keep (by with_reducible assumption))) ?k1 ?k2 ?k3 ?_); (case k1 => exact List.cons_ne_nil _ _); (case k2 => (rw [List.length_map, List.length_cons]; omega)); (case k3 => with_reducible assumption); intro _ _ _ _ st'ₓ hz'ₓ; (have F'ₓ := Fr.keeps (by assumption) st'ₓ); (have N'ₓ := News.grown (by assumption) st'ₓ); (have hzlₓ := hdr_len hz'ₓ (by rw [List.length_map, List.length_cons]; omega))); revert st'ₓ hz'ₓ F'ₓ N'ₓ hzlₓ; intro _ _ _ _ _))
  k_with "m:convS str" => (((with_reducible refine convS_any ?k1 ?_); (case k1 => first | with_reducible assumption | decide); intro _ _))
  k_with "m:And" => (((with_reducible show _ ≤ sizeLine ∧ _); refine ⟨by (rw [PySem.sizeLine_eq]; simp only [lenA, lenE, show (PySem.Str.ofString "=?").length = 2 from rfl, show (PySem.Str.ofString "q").length = 1 from rfl, show (PySem.Str.ofString "?q?").length = 3 from rfl, show (PySem.Str.ofString "?=").length = 2 from rfl]; omega), ?_⟩))
  trivial
theorem t_henc {w : World} {mean mg mb} {A : Around} {s : Shared} {Q E : Value → Shared → Prop} (c : UInt8) (cs : List UInt8) (t : Tok) (t2 : Tok)
  (X : (KF w.params).In s.heap) (T : Top qV LV mean mg mb s.heap) (hroom : A.depth + 1 < recursionLimit) (hu : A.units + 10 < cLine) (hh : A.handled = none) (hX : cs.length ≤ 3000) (hk : okk ((c :: cs).map fun u => u.toNat))
  (hq : ∀ h' tk z tz, s.heap.StaysIn h' → z.cps.toList = word ((c :: cs).map fun u => u.toNat) → Q (.str z tz) { s with heap := h', toks := tk }) :
  wpAny (model PySem.Challenge.rw_in0170_01.row.prog w) A (call (.ref 105) [.bytes (c :: cs).toArray t] [(Str.ofString "charset", .str (Str.ofString "q") t2)]) Q E s := by
  revert X
  k_fill
  intro X
  refine' enter [(Str.ofString "header_bytes", .bytes (c :: cs).toArray t), (Str.ofString "charset", .str (Str.ofString "q") t2)] X T ?k1 ?k6 ?k7 ?k9 ?kB ?_ ?c2 ?c3 ?c4 ?c5
  case k1 => lia
  case k6 => k_is
  case k7 => k_is
  case k9 => exact BindsTo.of_defaults rfl (X 98 _ rfl) rfl rfl rfl
  case c5 => decide
  case kB => exact locs rfl
  case c2 => exact rfl
  case c3 => exact rfl
  case c4 => exact rfl
  intro L h₁ F N
  k_steps
  rename _ = ccs _ => hz
  refine hq _ _ _ _ (Fr.keep (by assumption)) ?_
  rw [str_app, str_app, str_app, str_app, str_app, hz]
  rfl
theorem rows_Fhenc_end : True := by
  k_with_none
  trivial
end
section
theorem rows_Fword : True := by
  k_with_none
  k_with "m:storeName" => (dsimp (config := { beta := false, eta := false, iota := false, proj := true, zeta := false }) only; walk_at "storeName")
  k_with "m:call builtin:str.join" => (((refine' join_L ?k1ₓ ?k2ₓ ?_); (case k1ₓ => is_list); (case k2ₓ => first | with_reducible assumption | omega); intro _ _ _ _))
  k_with "m:getMethod str" => (with_reducible refine gm_encode ?_)
  trivial
def tabD : List (PyData × PyData) := [(.str ⟨#[40]⟩, .str ⟨#[61, 50, 56]⟩), (.str ⟨#[41]⟩, .str ⟨#[61, 50, 57]⟩), (.str ⟨#[46]⟩, .str ⟨#[61, 50, 69]⟩), (.str ⟨#[58]⟩, .str ⟨#[61, 51, 65]⟩), (.str ⟨#[62]⟩, .str ⟨#[61, 51, 69]⟩), (.str ⟨#[63]⟩, .str ⟨#[61, 51, 70]⟩), (.str ⟨#[92]⟩, .str ⟨#[61, 53, 67]⟩)]
theorem get_tab (c : Nat) : ((Spec.lookup (.str ⟨#[c]⟩) tabD).getD (.str ⟨#[c]⟩)) = .str ⟨(cc c).toArray⟩ := by
  by_cases h : c = 40 ∨ c = 41 ∨ c = 46 ∨ c = 58 ∨ c = 62 ∨ c = 63 ∨ c = 92
  · rcases h with rfl | rfl | rfl | rfl | rfl | rfl | rfl <;> rfl
  · simp only [not_or] at h
    obtain ⟨h1, h2, h3, h4, h5, h6, h7⟩ := h
    have e : Spec.lookup (.str ⟨#[c]⟩) tabD = none := by
      refine PyProof.V.lookup_none_of_no_same fun p hp => ?_
      have g : ∀ d : Nat, c ≠ d → Spec.same (.str ⟨#[d]⟩) (.str ⟨#[c]⟩) = false := fun d hd => by
        rw [PyProof.V.same_str]
        refine decide_eq_false fun q => hd ?_
        simp at q
        exact q.symm
      simp only [tabD, List.mem_cons, List.not_mem_nil, or_false] at hp
      rcases hp with rfl | rfl | rfl | rfl | rfl | rfl | rfl
      · exact g _ h1
      · exact g _ h2
      · exact g _ h3
      · exact g _ h4
      · exact g _ h5
      · exact g _ h6
      · exact g _ h7
    rw [e]
    show PyData.str ⟨#[c]⟩ = PyData.str ⟨(cc c).toArray⟩
    unfold cc
    rw [if_neg h1, if_neg h2, if_neg h3, if_neg h4, if_neg h5, if_neg h6, if_neg h7]
theorem ccs_len (l : List Nat) : (ccs l).length ≤ 3 * l.length := by
  induction l with
  | nil => exact Nat.le_refl _
  | cons c l ih =>
    rw [ccs_cons, List.length_append, List.length_cons]
    have := cc_len c
    lia
section
variable {prog : Program} {w : World} {A : Around} {E : Value → Shared → Prop} {s : Shared} {x y : Str} {t u : Tok} {Q : Value → Shared → Prop}
theorem addS (hl : x.length + y.length ≤ 1000000) (h : ∀ z t' k, z.cps.toList = x.cps.toList ++ y.cps.toList → Q (.str z t') { s with toks := k }) : wpAny (model prog w) A (binaryOp .Add (.str x t) (.str y u)) Q E s :=
  SB.add (fun t' k => h _ t' k (str_app x y)) (by rw [PySem.sizeLine_eq]; lia)
theorem neS (he : x.cps.toList = y.cps.toList) (h : Q (.bool false) s) : wpAny (model prog w) A (compareOp .NotEq (.str x t) (.str y u)) Q E s := by
  refine ne_str ?_
  have e : x = y := by
    obtain ⟨⟨a⟩⟩ := x
    obtain ⟨⟨b⟩⟩ := y
    have : a = b := he
    rw [this]
  rw [e, show (y != y) = false by simp]
  exact h
end
theorem cc_no95 : ∀ c ∈ toks, 95 ∉ cc c := by decide
theorem word_no95 {l : List Nat} (h : okk l) : 95 ∉ word l := by
  intro q
  unfold word at q
  rcases List.mem_append.mp q with q | q
  · revert q; decide
  · rcases List.mem_append.mp q with q | q
    · obtain ⟨c, hc, h2⟩ := List.mem_flatMap.mp q
      exact cc_no95 c (h c hc) h2
    · revert q; decide
theorem word_len (l : List Nat) : (word l).length ≤ 3 * l.length + 8 := by
  unfold word
  rw [List.length_append, List.length_append]
  have := ccs_len l
  show 6 + (_ + 2) ≤ _
  lia
theorem word_small {z : Str} {l : List Nat} (h : z.cps.toList = word l) (hl : l.length ≤ 3000) : z.length ≤ 100000 := by
  have := word_len l
  rw [← h, len_cps] at this
  lia
theorem no95_of {z : Str} {l : List Nat} (h : z.cps.toList = word l) (hl : okk l) : 95 ∉ z.cps.toList := by rw [h]; exact word_no95 hl
theorem u8_back {c : Nat} (h : c < 256) : c.toUInt8.toNat = c := by
  simp; lia
theorem t_henc2 {w : World} {mean mg mb} {A : Around} {s : Shared} {Q E : Value → Shared → Prop} (l : List Nat) (t : Tok) (t2 : Tok)
  (X : (KF w.params).In s.heap) (T : Top qV LV mean mg mb s.heap) (hroom : A.depth + 1 < recursionLimit) (hu : A.units + 10 < cLine) (hh : A.handled = none) (h0 : l ≠ []) (hX : l.length ≤ 3000) (hk : okk l)
  (hq : ∀ h' tk z tz, s.heap.StaysIn h' → z.cps.toList = word l → Q (.str z tz) { s with heap := h', toks := tk }) :
  wpAny (model PySem.Challenge.rw_in0170_01.row.prog w) A (call (.ref 105) [.bytes (l.map fun c => c.toUInt8).toArray t] [(Str.ofString "charset", .str (Str.ofString "q") t2)]) Q E s := by
  match l, h0, hX, hk, hq with
  | c :: cs, _, hX, hk, hq =>
    have e : ((c :: cs).map fun c => c.toUInt8).map (fun u => u.toNat) = c :: cs := by
      rw [List.map_map]
      have : ∀ d ∈ c :: cs, ((fun u : UInt8 => u.toNat) ∘ fun c : Nat => c.toUInt8) d = d := fun d hd => u8_back (Nat.lt_of_lt_of_le ((by decide : ∀ c ∈ toks, c < 128) d (hk d hd)) (by decide))
      rw [List.map_congr_left this]; simp
    simp only [List.length_cons] at hX
    refine t_henc c.toUInt8 (cs.map fun c => c.toUInt8) t t2 X T hroom hu hh (by rw [List.length_map]; lia) (by rw [← List.map_cons (f := fun c : Nat => c.toUInt8), e]; exact hk) fun h' tk z tz st hz => hq h' tk z tz st ?_
    rw [hz, ← List.map_cons (f := fun c : Nat => c.toUInt8), e]
theorem rows_Fword1 : True := by
  k_with "m:call ref" => ((((with_unfolding_all show wpAny _ _ (call (Value.ref 105) [_] [(Str.ofString "charset", Value.str (Str.ofString "q") _)]) _ _ _); (with_unfolding_all refine' t_henc2 _ _ _ ?k1ₓ ?k2ₓ ?k3ₓ ?k4ₓ ?k5ₓ ?k6ₓ ?k7ₓ ?k8ₓ ?_); (case k6ₓ => with_reducible assumption); (case k7ₓ => (rw [Array.length_toList]; show PySem.Str.length _ ≤ _; with_reducible assumption)); (case k8ₓ => with_reducible assumption); (case k1ₓ => exact Frag.In.keeps (by assumption) (Fr.keep (by assumption))); (case k2ₓ => exact Top.keeps (by assumption) (Fr.keep (by assumption))); (case k3ₓ => k_dflt (exact dep_lt (by with_reducible assumption) (by decide))); (case k4ₓ => k_dflt (exact unit_lt (by with_reducible assumption) (by decide))); (case k5ₓ => assumption); intro _ _ _ _ st'ₓ hz'ₓ; (have F'ₓ := Fr.keeps (by assumption) st'ₓ); (have N'ₓ := News.grown (by assumption) st'ₓ)); revert st'ₓ hz'ₓ F'ₓ N'ₓ; intro _ _ _ _))
  k_with "m:eval ListComp" => ((k_dflt (refine ListComp_S (F₀ := by with_reducible assumption) (by with_unfolding_all rfl) (by decide) (by rfl) (by decide) (by rfl) ?_)))
  k_with "m:binaryOp Add str str" => ((refine Stop.mk ?_))
  k_with "m:compareOp NotEq str str" => ((refine Stop.mk ?_))
  k_with "m:call ref" => ((((with_reducible show wpAny _ _ (call (Value.ref 124) [_]) _ _ _); (with_unfolding_all refine' t_hdec _ _ _ _ ?k1ₓ ?k2ₓ ?k3ₓ ?k4ₓ ?k5ₓ ?k6ₓ ?k7ₓ ?k8ₓ ?k9ₓ ?_); (case k6ₓ => with_reducible assumption); (case k7ₓ => with_reducible assumption); (case k8ₓ => with_reducible assumption); (case k9ₓ => with_reducible assumption); (case k1ₓ => exact Frag.In.keeps (by assumption) (Fr.keep (by assumption))); (case k2ₓ => exact Top.keeps (by assumption) (Fr.keep (by assumption))); (case k3ₓ => k_dflt (exact dep_lt (by with_reducible assumption) (by decide))); (case k4ₓ => k_dflt (exact unit_lt (by with_reducible assumption) (by decide))); (case k5ₓ => assumption); intro _ _ _ _ st'ₓ hz'ₓ; (have F'ₓ := Fr.keeps (by assumption) st'ₓ); (have N'ₓ := News.grown (by assumption) st'ₓ)); revert st'ₓ hz'ₓ F'ₓ N'ₓ; intro _ _ _ _))
  k_with "m:call builtin:str.encode" => (((refine enc_latin ?k1ₓ ?k2ₓ ?_); (case k1ₓ => omega); (case k2ₓ => with_reducible assumption); intro _ _))
  trivial
theorem t_word {w : World} {mean mg mb} {A : Around} {s : Shared} {Q E : Value → Shared → Prop} (x : Str) (t : Tok)
  (X : (KF w.params).In s.heap) (T : Top qV LV mean mg mb s.heap) (hroom : A.depth + 8 < recursionLimit) (hu : A.units + 80 < cLine) (hh : A.handled = none) (hx : okk x.cps.toList) (h0 : x.length ≠ 0) (hl : x.length ≤ 3000)
  (hq : ∀ h' tk z tz, s.heap.StaysIn h' → z.cps.toList = word x.cps.toList → Q (.str z tz) { s with heap := h', toks := tk }) :
  wpAny (model PySem.Challenge.rw_in0170_01.row.prog w) A (call (.ref 226) [.str x t]) Q E s := by
  have hne : x.cps.toList ≠ [] := fun q => h0 (by have := congrArg List.length q; simpa [Str.length] using this)
  have h256 : ∀ c ∈ x.cps.toList, c < 256 := fun c hc => Nat.lt_of_lt_of_le ((by decide : ∀ c ∈ toks, c < 128) c (hx c hc)) (by decide)
  revert X
  k_fill
  intro X
  refine' enterC [(Str.ofString "told", .str x t)] X T ?k1 ?k6 ?k7 ?k9 ?kB ?kD ?_ ?c2 ?c3 ?c4
  case k1 => lia
  case k6 => k_is
  case k7 => k_is
  case k9 => exact BindsTo.of_eq rfl
  case kB => exact rfl
  case kD => decide +kernel
  case c2 => exact rfl
  case c3 => exact rfl
  case c4 => exact rfl
  intro L h₁ tk₁ cells₁ F N Y
  k_cells Y
  try dsimp only
  k_steps
  rename PyProof.V.FlatPairs _ _ _ => hf
  rename Obj.IsDictOf _ _ _ => hd
  obtain ⟨kvs, hd2, hf2⟩ : ∃ kvs, Obj.IsDictOf (strKind prT w) _ kvs ∧ PyProof.V.FlatPairs PyData.str kvs tabD := ⟨_, hd, hf⟩
  clear hd hf
  have hax : x.cps.all (fun c => decide (c < 128)) = true := by
    rw [Array.all_eq_true']
    exact fun c hc => decide_eq_true ((by decide : ∀ c ∈ toks, c < 128) c (hx c (by simpa using hc)))
  rename News _ _ _ _ => N0
  rename Fr _ _ _ _ => F0
  refine SrcS.intro hh F0 N0 hax (by rw [PySem.sizeLine_eq]; show x.length ≤ _; lia) fun g => ?_
  clear F0 N0
  have hxs : x.cps.toList.length = x.cps.size := Array.length_toList
  have hxl : x.cps.size = x.length := rfl
  suffices hgen : ∀ j i ps, i + j = x.cps.size → ps.length = i → joinC ps = ccs (x.cps.toList.take i) → LCg.CompRest _ w _ _ _ _ _ _ _ _ _ _ _ _ _ j i (strValues ps) _ from hgen x.cps.size 0 [] (by lia) rfl (by simp [joinC, ccs])
  intro j
  induction j with
  | zero =>
    intro i ps hi hps hjn
    have hi2 : i = x.cps.toList.length := by lia
    rw [hi2, List.take_length] at hjn
    have hsum : (ps.map (·.1.length)).sum + ps.length ≤ 1000000 := by
      rw [sumC, hjn]
      have := ccs_len x.cps.toList
      lia
    refine LCg.CompRest.zero ?_
    k_steps
    rename Str => zj
    rename zj.cps.toList = _ => hzj
    rename _ = word _ => hw
    have hzj2 : zj.cps.toList = ccs x.cps.toList := by rw [hzj, ← hjn]; simp [joinC, List.flatMap]
    have hzl : zj.length ≤ 9000 := by
      have h1 := ccs_len x.cps.toList
      rw [← hzj2, len_cps, len_cps] at h1
      lia
    clear hzj
    unfold Stop
    refine addS (by rw [show (Str.ofString "=?q?q?").length = 6 from rfl]; lia) fun za ta ka hza => ?_
    have hal : za.length ≤ 9006 := by rw [← len_cps, hza, List.length_append, len_cps, len_cps, show (Str.ofString "=?q?q?").length = 6 from rfl]; lia
    k_steps
    unfold Stop
    refine addS (by rw [show (Str.ofString "?=").length = 2 from rfl]; lia) fun zb tb kb hzb => ?_
    k_steps
    unfold Stop
    refine neS (by rw [hzb, hza, hzj2, hw]; rfl) ?_
    have hwl := word_small hw (by rw [len_cps]; exact hl)
    have h95 := no95_of hw hx
    have hsub := Sub_word _ hx
    k_steps
    rename _ = FR ++ _ => hd
    unfold Stop
    refine addS (by rw [show (Str.ofString "=?q?q?").length = 6 from rfl]; lia) fun zc tc kc hzc => ?_
    have hcl : zc.length ≤ 9006 := by rw [← len_cps, hzc, List.length_append, len_cps, len_cps, show (Str.ofString "=?q?q?").length = 6 from rfl]; lia
    k_steps
    unfold Stop
    refine addS (by rw [show (Str.ofString "?=").length = 2 from rfl]; lia) fun ze te ke hze => ?_
    k_steps
    unfold Stop
    refine neS (by rw [hze, hzc, hd]; rfl) ?_
    k_steps
    exact hq _ _ _ _ (Fr.keep (by assumption)) hw
  | succ j ih =>
    intro i ps hi hps hjn
    refine LCg.CompRest.succ ?_
    intro v I oI C oC D m2 h7 tk3 E' hv hC hx' F' N' off' ne'
    obtain ⟨c, u, hc, rfl⟩ := hv
    dsimp only
    k_steps
    rename PyProof.V.Flat _ _ => hv'
    rw [get_tab] at hv'
    obtain ⟨t', rfl⟩ := PyProof.V.Flat.str_inv hv'
    refine LCg.CompEnd.intro (by assumption) (by assumption) [_, _] (fun p hp => hp) (by assumption) trivial ?_
    rw [show strValues ps ++ [Value.str ⟨(cc c).toArray⟩ t'] = strValues (ps ++ [(⟨(cc c).toArray⟩, t')]) by simp [strValues]]
    refine ih _ _ (by lia) (by simp only [List.length_append, List.length_singleton]; lia) ?_
    rw [joinC_snoc, hjn, List.take_succ_eq_append_getElem (by lia), ccs_app]
    congr 1
    have : x.cps[i]'(by lia) = c := by rw [Array.getElem?_eq_getElem (by lia)] at hc; exact Option.some.inj hc
    simp [ccs, this]
theorem rows_Fword_end : True := by
  k_with_none
  trivial
end
section
theorem rows_Flisted : True := by
  k_with_none
  k_with "m:storeName" => (dsimp (config := { beta := false, eta := false, iota := false, proj := true, zeta := false }) only; walk_at "storeName")
  k_with "m:exec For Name Call cons nil" => (k_dflt (((with_unfolding_all refine' wpAny_For ?_ ?hsₓ); (case hsₓ => (intro _; with_unfolding_all rfl)))))
  k_with "m:unpackItems ref" => (k_dflt (((refine' unpackItemsN_ ?k1ₓ ?k2ₓ ?k3ₓ ?k4ₓ ?k5ₓ ?_; (case k1ₓ => with_reducible assumption); (case k2ₓ => with_reducible assumption); (case k3ₓ => first | exact News.isTup (by with_reducible assumption) (by exact .head _) | exact News.isTup (by with_reducible assumption) (by exact .tail _ (.head _))); (case k4ₓ => exact deeper_handled (by with_reducible assumption)); (case k5ₓ => with_unfolding_all rfl)); intro _ _ _)))
  k_with "m:binaryOp FloorDiv int int" => (k_dflt ((refine floordiv_g ?kaₓ ?kbₓ ?_; (case kaₓ => decide); (case kbₓ => decide); intro _ _)))
  k_with "m:binaryOp FloorDiv int int" => (k_dflt (((with_reducible show wpAny _ _ (binaryOp Operator.FloorDiv (Value.int _ _) (Value.int (_ ^ _) _)) _ _ _); (refine floordiv_h (pow_pos_i _ (by decide) _) (pow_small8 ?kaₓ ?kbₓ).1 ?_; (case kaₓ => first | exact Or.inl rfl | exact Or.inr rfl); (case kbₓ => lia)); intro _ _)))
  k_with "m:binaryOp FloorDiv int int" => (k_dflt (((with_reducible show wpAny _ _ (binaryOp Operator.FloorDiv (Value.int _ _) (Value.int (2 ^ _) _)) _ _ _); (refine floordiv_h (pow_pos_i _ (by decide) _) (pow_small2 ?kbₓ).1 ?_; (case kbₓ => lia)); intro _ _)))
  k_with "m:binaryOp Mod int int" => (k_dflt ((refine mod_g ?kaₓ ?_; (case kaₓ => decide); intro _ _ _ _)))
  k_with "m:binaryOp Pow int int" => (k_dflt (((with_reducible refine pow_int_small ?kb1ₓ ?kb2ₓ ?kb3ₓ ?_); (case kb1ₓ => lia); (case kb2ₓ => lia); (case kb3ₓ => decide))))
  k_with "m:pyIter ref" => (((with_reducible show wpAny _ _ (pyIter (Value.ref _)) _ _ _); refine Stop.mk ?_))
  k_with "m:subscriptTail Name Name ref int" => (k_dflt (((with_reducible show wpAny _ _ (subscriptTail _ _ (Value.ref _) (Value.int _ _)) _ _ _); (refine' itemL2 ?k0ₓ ?k1ₓ ?k2ₓ ?_ ?_ ?hsₓ ?htₓ); (case k0ₓ => exact News.isList (by with_reducible assumption) (by k_mem)); (case k1ₓ => lia); (case k2ₓ => lia); (case hsₓ => with_unfolding_all rfl); (case htₓ => (intro _; with_unfolding_all rfl)); intro _)))
  trivial
def kindL : List Nat := [63, 112, 99, 63, 100, 63, 98, 63, 45, 63, 108, 63, 115, 63, 63, 63]
def fig (n k : Nat) : Nat := n / 8 ^ (2 - k) % 8
def abv (n k : Nat) : Nat := n / 2 ^ (11 - k) % 2
def endL' (k ab : Nat) : List Nat := if ab = 1 then (if k = 2 then [84, 116] else [83, 115]) else [45, 120]
def triL (n k : Nat) : List Nat := [if fig n k / 4 = 1 then 114 else 45, if fig n k / 2 % 2 = 1 then 119 else 45, (endL' k (abv n k)).getD (fig n k % 2) 0]
def listL (n : Nat) : List Nat := kindL.getD (n / 4096) 0 :: (List.range 3).flatMap (triL n)
theorem fig_eq (n i : Nat) (h : i < 3) : (n : Int) / (8 ^ (2 - (0 + (i : Int))).toNat) % 8 = ((fig n i : Nat) : Int) := by
  have : i = 0 ∨ i = 1 ∨ i = 2 := by lia
  rcases this with rfl | rfl | rfl <;> (unfold fig; rfl)
theorem abv_eq (n i : Nat) (h : i < 3) : (n : Int) / (2 ^ (11 - (0 + (i : Int))).toNat) % 2 = ((abv n i : Nat) : Int) := by
  have : i = 0 ∨ i = 1 ∨ i = 2 := by lia
  rcases this with rfl | rfl | rfl <;> (unfold abv; rfl)
theorem item_nat {x : Str} {v : Int} {k : Nat} (h : v = (k : Int)) (h1 : k < x.length) : (Txt.item x v).cps.toList = [x.cps.toList.getD k 0] := by
  rw [itemN h h1]
theorem tri_eq (z : Str) (n i : Nat) {E : Str} (hEl : E.length = 2) (hE : E.cps.toList = endL' i (abv n i)) :
    (z ++ (Txt.item (Str.ofString "-r") (((fig n i : Nat) : Int) / 4) ++ Txt.item (Str.ofString "-w") (((fig n i : Nat) : Int) / 2 % 2) ++ Txt.item E (((fig n i : Nat) : Int) % 2))).cps.toList = z.cps.toList ++ triL n i := by
  have hf8 : fig n i < 8 := Nat.mod_lt _ (by decide)
  have e1 : (Txt.item (Str.ofString "-r") (((fig n i : Nat) : Int) / 4)).cps.toList = [if fig n i / 4 = 1 then 114 else 45] := by
    rw [item_nat (x := Str.ofString "-r") (v := ((fig n i : Nat) : Int) / 4) (k := fig n i / 4) rfl (by show _ < 2; lia)]
    have : fig n i / 4 = 0 ∨ fig n i / 4 = 1 := by lia
    rcases this with q | q <;> rw [q] <;> decide
  have e2 : (Txt.item (Str.ofString "-w") (((fig n i : Nat) : Int) / 2 % 2)).cps.toList = [if fig n i / 2 % 2 = 1 then 119 else 45] := by
    rw [item_nat (x := Str.ofString "-w") (v := ((fig n i : Nat) : Int) / 2 % 2) (k := fig n i / 2 % 2) rfl (by show _ < 2; lia)]
    have : fig n i / 2 % 2 = 0 ∨ fig n i / 2 % 2 = 1 := by lia
    rcases this with q | q <;> rw [q] <;> decide
  have e3 : (Txt.item E (((fig n i : Nat) : Int) % 2)).cps.toList = [(endL' i (abv n i)).getD (fig n i % 2) 0] := by
    rw [item_nat (x := E) (v := ((fig n i : Nat) : Int) % 2) (k := fig n i % 2) rfl (by rw [hEl]; lia), hE]
  rw [str_app, str_app, str_app, e1, e2, e3]; rfl
theorem t_listed {w : World} {mean mg mb} {A : Around} {s : Shared} {Q E : Value → Shared → Prop} (n : Nat) (u0 : Tok)
  (X : (KF w.params).In s.heap) (T : Top qV LV mean mg mb s.heap) (hroom : A.depth + 1 < recursionLimit) (hu : A.units + 10 < cLine) (hh : A.handled = none) (hn : n < 65536)
  (hq : ∀ h' tk z tz, s.heap.StaysIn h' → z.cps.toList = listL n → Q (.str z tz) { s with heap := h', toks := tk }) :
  wpAny (model PySem.Challenge.rw_in0170_01.row.prog w) A (call (.ref 178) [.int n u0]) Q E s := by
  revert X
  k_fill
  intro X
  refine' enter [(Str.ofString "mode", .int n u0)] X T ?k1 ?k6 ?k7 ?k9 ?kB ?_ ?c2 ?c3 ?c4 ?c5
  case k1 => lia
  case k6 => k_is
  case k7 => k_is
  case k9 => exact BindsTo.of_eq rfl
  case c5 => decide
  case kB => exact locs rfl
  case c2 => exact rfl
  case c3 => exact rfl
  case c4 => exact rfl
  intro L h₁ F N
  k_steps
  rename_i v1 hv1 hit1 h2 F1 N1 h3 tk3 t2 u2 v2 hr F2 N2 k2
  dsimp only at F2 hr ⊢
  have hv1' : v1 = ((n / 4096 : Nat) : Int) := hv1
  refine iter_rangeP (n := 3) (fun i m news => news = [] ∧ ∃ (z : Str) (tz : Tok), z.length ≤ 1 + 3 * i ∧ z.cps.toList = kindL.getD (n / 4096) 0 :: (List.range i).flatMap (triL n) ∧ m (Str.ofString "told") = some (.str z tz) ∧ ∀ y, y ≠ Str.ofString "told" → y ∉ [Str.ofString "k", Str.ofString "figure", Str.ofString "above", Str.ofString "ends"] → m y = List.lookup y [(Str.ofString "mode", Value.int n u0)].reverse) hh hr (by decide) rfl F2 N2 ⟨rfl, _, _, ?_, ?_, rfl, fun y h1 h2 => by simp [h1]⟩ ?_ ?_
  · rw [hit1]; decide
  · rw [item_nat hv1' (by show n / 4096 < 16; lia)]; rfl
  · clear hit1 hv1 hv1' hr k2 F2 N2 F1 N1
    intro I i t3 m₁ news₁ h tk3 oI hi hJ off F3 N3 P hP
    obtain ⟨rfl, z, tz, hzl, hz1, hm1, hm2⟩ := hJ
    rw [env1 hm1 hm2] at F3
    clear hm1 hm2
    generalize m₁ = u at F3
    have hab : ∀ {vG g : Int}, Hide (vG = (n : Int) / 2 ^ (11 - (0 + (i : Int))).toNat) → g = vG % 2 → g = ((abv n i : Nat) : Int) := by
      rintro vG g (rfl : _ = _) rfl
      exact abv_eq n i hi
    have fin : ∀ {vF f a4 a5 a6 a7 : Int} {E : Str} {m' : Str → Option Value} {ty : Tok}, m' (Str.ofString "told") = some (.str (z ++ (Txt.item (Str.ofString "-r") a4 ++ Txt.item (Str.ofString "-w") a6 ++ Txt.item E a7)) ty) →
        Hide (vF = (n : Int) / 8 ^ (2 - (0 + (i : Int))).toNat) → f = vF % 8 → a4 = f / 4 → a6 = a5 % 2 → a5 = f / 2 → a7 = f % 2 → E.length = 2 → E.cps.toList = endL' i (abv n i) →
        (∀ y, y ≠ Str.ofString "told" → y ∉ [Str.ofString "k", Str.ofString "figure", Str.ofString "above", Str.ofString "ends"] → m' y = List.lookup y [(Str.ofString "mode", Value.int n u0)].reverse) →
        ∃ (z : Str) (tz : Tok), z.length ≤ 1 + 3 * (i + 1) ∧ z.cps.toList = kindL.getD (n / 4096) 0 :: (List.range (i + 1)).flatMap (triL n) ∧ m' (Str.ofString "told") = some (.str z tz) ∧ ∀ y, y ≠ Str.ofString "told" → y ∉ [Str.ofString "k", Str.ofString "figure", Str.ofString "above", Str.ofString "ends"] → m' y = List.lookup y [(Str.ofString "mode", Value.int n u0)].reverse := by
      rintro vF f a4 a5 a6 a7 E m' ty hm (rfl : _ = _) rfl rfl rfl rfl rfl hEl hE hm'
      rw [fig_eq n i hi] at hm
      have ez := tri_eq z n i hEl hE
      refine ⟨_, ty, ?_, ?_, hm, hm'⟩
      · have := congrArg List.length ez
        simp only [List.length_append] at this
        have h3 : (triL n i).length = 3 := rfl
        have h4 : z.cps.toList.length = z.length := by simp [Str.length]
        rw [h3, h4] at this
        have h5 : ∀ (y : Str), y.cps.toList.length = y.length := fun y => by simp [Str.length]
        rw [h5] at this
        lia
      · rw [ez, hz1, List.range_succ, List.flatMap_append]; simp
    k_steps
    all_goals
      rename News _ _ _ _ => nn
      refine hP _ _ (mkT (news₂ := []) (by assumption) (fun p hp => nn p (by rw [List.mem_singleton.mp hp]; simp)) (fun _ h => nomatch h) ⟨rfl, fin rfl (by assumption) (by assumption) (by assumption) (by assumption) (by assumption) (by assumption) rfl ?_ ?_⟩)
    all_goals first
      | (intro y h1 h2
         simp only [List.mem_cons, List.not_mem_nil, or_false, not_or] at h2
         simp [h1, h2.1, h2.2.1, h2.2.2.1, h2.2.2.2])
      | (have hg := hab (by assumption) (by assumption)
         first
         | (rename _ = (0 : Int) => q
            rw [q] at hg
            have : abv n i = 0 := by lia
            rw [this]
            rfl)
         | (rename _ = (1 : Int) => q
            rw [q] at hg
            have : abv n i = 1 := by lia
            rw [this]
            rename 0 + (i : Int) = 2 => q2
            have : i = 2 := by lia
            subst this
            rfl)
         | (rename _ = (1 : Int) => q
            rw [q] at hg
            have : abv n i = 1 := by lia
            rw [this]
            rename 0 + (i : Int) ≠ 2 => q2
            have : i ≠ 2 := by lia
            unfold endL'
            rw [if_pos rfl, if_neg this]
            rfl))
  · rintro m₁ news₁ h tk3 ⟨rfl, z, tz, hzl, hz1, hm1, hm2⟩ F3 N3
    rw [env1 hm1 hm2] at F3
    generalize m₁ = u at F3
    k_steps
    exact hq _ _ _ _ (Fr.keep (by assumption)) hz1
theorem rows_Flisted_end : True := by
  k_with_none
  trivial
end
section
theorem bit_at (n k : Nat) : n &&& 2 ^ k = (n / 2 ^ k % 2) * 2 ^ k := by
  have h := Nat.mod_two_eq_zero_or_one (n / 2 ^ k)
  apply Nat.eq_of_testBit_eq
  intro i
  rw [Nat.testBit_and, Nat.testBit_two_pow]
  by_cases e : k = i
  · subst e
    rw [Nat.testBit_eq_decide_div_mod_eq]
    rcases h with q | q <;> simp [q, Nat.testBit_two_pow]
  · rcases h with q | q <;> simp [q, e, Nat.testBit_two_pow]
theorem high_at (n : Nat) (h : n < 65536) : n &&& 61440 = n / 4096 * 4096 := by
  have e : n / 4096 * 4096 = (n >>> 12) <<< 12 := by rw [Nat.shiftRight_eq_div_pow, Nat.shiftLeft_eq]
  have e2 : (61440 : Nat) = (2 ^ 4 - 1) <<< 12 := by decide
  rw [e, e2]
  apply Nat.eq_of_testBit_eq
  intro i
  rw [Nat.testBit_and, Nat.testBit_shiftLeft, Nat.testBit_shiftLeft, Nat.testBit_two_pow_sub_one, Nat.testBit_shiftRight]
  by_cases hi : 12 ≤ i
  · rw [Nat.add_sub_cancel' hi, decide_eq_true hi, Bool.true_and, Bool.true_and]
    by_cases h4 : i - 12 < 4
    · rw [decide_eq_true h4, Bool.and_true]
    · have h16 : 16 ≤ i := by have := Nat.le_of_not_lt h4; have := Nat.add_le_add_right this 12; rwa [Nat.sub_add_cancel hi] at this
      rw [Nat.testBit_lt_two_pow (Nat.lt_of_lt_of_le h (Nat.pow_le_pow_right (n := 2) (by decide) h16))]; rfl
  · rw [decide_eq_false hi, Bool.false_and, Bool.false_and, Bool.and_false]
theorem bit01 (x : Nat) : x % 2 = 0 ∨ x % 2 = 1 := Nat.mod_two_eq_zero_or_one x
theorem fig4 (n c : Nat) : n / (c * 4) % 2 = n / c % 8 / 4 := by rw [← Nat.div_div_eq_div_mul]; exact (Nat.mod_mul_right_div_self (n / c) 4 2).symm
theorem fig2 (n c : Nat) : n / (c * 2) % 2 = n / c % 8 / 2 % 2 := by rw [← Nat.div_div_eq_div_mul, show n / c % 8 / 2 = n / c / 2 % 4 from Nat.mod_mul_right_div_self (n / c) 2 4]; exact (Nat.mod_mod_of_dvd _ ⟨2, rfl⟩).symm
theorem fig1 (n c : Nat) : n / c % 2 = n / c % 8 % 2 := (Nat.mod_mod_of_dvd _ ⟨4, rfl⟩).symm
theorem pick0 (n : Nat) (h : n < 65536) : rowPick 0 n (tableL.getD 0 []) = kindL.getD (n / 4096) 0 := by
  unfold rowPick hits
  simp only [if_true]
  rw [high_at n h]
  have : n / 4096 < 16 := Nat.div_lt_of_lt_mul h
  generalize n / 4096 = a at this
  revert a
  decide
theorem pick1 {i n k c : Nat} (hi : i ≠ 0) : rowPick i n [(2 ^ k, c)] = if n / 2 ^ k % 2 = 1 then c else 45 := by
  unfold rowPick hits
  simp only [if_neg hi, List.find?_cons, List.find?_nil, bit_at]
  have := bit01 (n / 2 ^ k)
  have p : 2 ^ k ≠ 0 := Nat.ne_of_gt (Nat.two_pow_pos _)
  have z : (0 == 2 ^ k) = false := beq_false_of_ne (Ne.symm p)
  rcases this with q | q
  · simp [q, z]
  · simp [q]
theorem pick3 {i n : Nat} (k j : Nat) {b c c' c'' : Nat} (hi : i ≠ 0) (hb : b = 2 ^ j ||| 2 ^ k) (hd : ∀ x ∈ [0, 1], ∀ y ∈ [0, 1], (x * 2 ^ j ||| y * 2 ^ k == 2 ^ j ||| 2 ^ k) = (x == 1 && y == 1)) :
    rowPick i n [(b, c), (2 ^ j, c'), (2 ^ k, c'')] = (if n / 2 ^ j % 2 = 1 then [c', c] else [45, c'']).getD (n / 2 ^ k % 2) 0 := by
  unfold rowPick hits
  subst hb
  simp only [if_neg hi, List.find?_cons, List.find?_nil, bit_at, Nat.and_or_distrib_left]
  have p : 2 ^ k ≠ 0 := Nat.ne_of_gt (Nat.two_pow_pos _)
  have p' : 2 ^ j ≠ 0 := Nat.ne_of_gt (Nat.two_pow_pos _)
  have z : (0 == 2 ^ k) = false := beq_false_of_ne (Ne.symm p)
  have z' : (0 == 2 ^ j) = false := beq_false_of_ne (Ne.symm p')
  have h1 := bit01 (n / 2 ^ k)
  have h2 := bit01 (n / 2 ^ j)
  rcases h1 with q | q <;> rcases h2 with q' | q' <;> rw [hd _ (by simp [q']) _ (by simp [q])] <;> simp [q, q', z, z']
theorem mode_list (n : Nat) (h : n < 65536) : modeL n = listL n := by
  have e : modeL n = [rowPick 0 n (tableL.getD 0 []), rowPick 1 n [(2 ^ 8, 114)], rowPick 2 n [(2 ^ 7, 119)], rowPick 3 n [(2112, 115), (2 ^ 11, 83), (2 ^ 6, 120)], rowPick 4 n [(2 ^ 5, 114)], rowPick 5 n [(2 ^ 4, 119)], rowPick 6 n [(1032, 115), (2 ^ 10, 83), (2 ^ 3, 120)],
    rowPick 7 n [(2 ^ 2, 114)], rowPick 8 n [(2 ^ 1, 119)], rowPick 9 n [(513, 116), (2 ^ 9, 84), (2 ^ 0, 120)]] := rfl
  have e2 : listL n = kindL.getD (n / 4096) 0 :: (triL n 0 ++ (triL n 1 ++ (triL n 2 ++ []))) := rfl
  rw [e, e2, pick0 n h, pick1 (by decide), pick1 (by decide), pick3 6 11 (by decide) (by decide) (by decide), pick1 (by decide), pick1 (by decide), pick3 3 10 (by decide) (by decide) (by decide), pick1 (by decide), pick1 (by decide), pick3 0 9 (by decide) (by decide) (by decide)]
  have a1 : (n / 2 ^ 8 % 2 = 1) = (fig n 0 / 4 = 1) := congrArg (· = 1) (fig4 n 64)
  have a2 : (n / 2 ^ 7 % 2 = 1) = (fig n 0 / 2 % 2 = 1) := congrArg (· = 1) (fig2 n 64)
  have a3 : n / 2 ^ 6 % 2 = fig n 0 % 2 := fig1 n 64
  have b1 : (n / 2 ^ 5 % 2 = 1) = (fig n 1 / 4 = 1) := congrArg (· = 1) (fig4 n 8)
  have b2 : (n / 2 ^ 4 % 2 = 1) = (fig n 1 / 2 % 2 = 1) := congrArg (· = 1) (fig2 n 8)
  have b3 : n / 2 ^ 3 % 2 = fig n 1 % 2 := fig1 n 8
  have c1 : (n / 2 ^ 2 % 2 = 1) = (fig n 2 / 4 = 1) := congrArg (· = 1) (fig4 n 1)
  have c2 : (n / 2 ^ 1 % 2 = 1) = (fig n 2 / 2 % 2 = 1) := congrArg (· = 1) (fig2 n 1)
  have c3 : n / 2 ^ 0 % 2 = fig n 2 % 2 := fig1 n 1
  simp only [a1, a2, a3, b1, b2, b3, c1, c2, c3]
  rfl
theorem list_sig (n : Nat) (h : n < 65536) : (listL n).length = 10 ∧ ∀ c ∈ listL n, c ∈ [112, 99, 100, 98, 45, 108, 115, 114, 119, 120, 83, 84, 116, 63] := by
  refine ⟨rfl, ?_⟩
  have e2 : listL n = kindL.getD (n / 4096) 0 :: (triL n 0 ++ (triL n 1 ++ (triL n 2 ++ []))) := rfl
  have t : ∀ k, k < 3 → ∀ c ∈ triL n k, c ∈ [112, 99, 100, 98, 45, 108, 115, 114, 119, 120, 83, 84, 116, 63] := by
    intro k hk
    have hab : abv n k < 2 := Nat.mod_lt _ (by decide)
    have h1 : fig n k < 8 := Nat.mod_lt _ (by decide)
    unfold triL
    generalize fig n k = f at h1
    generalize abv n k = g at hab
    have : k = 0 ∨ k = 1 ∨ k = 2 := by omega
    rcases this with rfl | rfl | rfl
    · exact (by decide : ∀ f < 8, ∀ g < 2, ∀ c ∈ [if f / 4 = 1 then 114 else 45, if f / 2 % 2 = 1 then 119 else 45, (endL' 0 g).getD (f % 2) 0], c ∈ [112, 99, 100, 98, 45, 108, 115, 114, 119, 120, 83, 84, 116, 63]) f h1 g hab
    · exact (by decide : ∀ f < 8, ∀ g < 2, ∀ c ∈ [if f / 4 = 1 then 114 else 45, if f / 2 % 2 = 1 then 119 else 45, (endL' 1 g).getD (f % 2) 0], c ∈ [112, 99, 100, 98, 45, 108, 115, 114, 119, 120, 83, 84, 116, 63]) f h1 g hab
    · exact (by decide : ∀ f < 8, ∀ g < 2, ∀ c ∈ [if f / 4 = 1 then 114 else 45, if f / 2 % 2 = 1 then 119 else 45, (endL' 2 g).getD (f % 2) 0], c ∈ [112, 99, 100, 98, 45, 108, 115, 114, 119, 120, 83, 84, 116, 63]) f h1 g hab
  have k : kindL.getD (n / 4096) 0 ∈ [112, 99, 100, 98, 45, 108, 115, 114, 119, 120, 83, 84, 116, 63] := by
    have : n / 4096 < 16 := Nat.div_lt_of_lt_mul h
    generalize n / 4096 = a at this
    revert a
    decide
  intro c hc
  rw [e2] at hc
  rcases List.mem_cons.mp hc with rfl | hc
  · exact k
  · rcases List.mem_append.mp hc with hc | hc
    · exact t 0 (by decide) c hc
    · rcases List.mem_append.mp hc with hc | hc
      · exact t 1 (by decide) c hc
      · rcases List.mem_append.mp hc with hc | hc
        · exact t 2 (by decide) c hc
        · cases hc
end
section
theorem rows_Fread : True := by
  k_with_none
  k_with "m:storeName" => (dsimp (config := { beta := false, eta := false, iota := false, proj := true, zeta := false }) only; walk_at "storeName")
  k_with "m:exec While" => (((with_reducible show wpAny _ _ (exec (Stmt.While _ _ _ _) _) _ _ _); refine Stop.mk ?_))
  k_with "m:unpackItems ref" => (k_dflt (((refine' unpackItemsN_ ?k1ₓ ?k2ₓ ?k3ₓ ?k4ₓ ?k5ₓ ?_; (case k1ₓ => with_reducible assumption); (case k2ₓ => with_reducible assumption); (case k3ₓ => first | exact News.isTup (by with_reducible assumption) (by exact .head _) | exact News.isTup (by with_reducible assumption) (by exact .tail _ (.head _))); (case k4ₓ => exact deeper_handled (by with_reducible assumption)); (case k5ₓ => with_unfolding_all rfl)); intro _ _ _)))
  k_with "m:ite" => (first
    | (with_reducible refine ite_hT (by with_reducible assumption) ?_)
    | (with_reducible refine ite_hF (by with_reducible assumption) ?_))
  k_with "m:subscriptTail Name UnaryOp ref int" => (k_dflt (((with_reducible show wpAny _ _ (subscriptTail _ (Expr.UnaryOp _ _ _) (Value.ref _) (Value.int _ _)) _ _ _); (refine' itemLast ?k0ₓ ?hkₓ ?k1ₓ ?k2ₓ ?k3ₓ ?_ ?hsₓ); (case k0ₓ => is_list); (case hkₓ => with_unfolding_all rfl); (case k1ₓ => with_reducible assumption); (case k2ₓ => with_reducible assumption); (case k3ₓ => with_reducible assumption); (case hsₓ => with_unfolding_all rfl))))
  trivial
theorem rd_inv {n : Nat} {c : Nat} {t : L} {done : List (Nat × L)} {k : Nat} {Z : L} {res : List (Nat × L)} (h : rd n (c :: t) done k Z = some res) : ∃ n', n = n' + 1 ∧ (if (c :: t).take 6 = [40, 63, 62, 46, 42, 63] then rd n' ((c :: t).drop 6) (done ++ [(k, Z)]) 2 []
    else if (c :: t).take 2 = [46, 42] then rd n' ((c :: t).drop 2) (done ++ [(k, Z)]) 1 []
    else if c = 41 ∧ k = 2 then rd n' t (done ++ [(k, Z)]) 0 []
    else if c = 46 then rd n' t done k (Z ++ [63])
    else if c ∈ bad then none
    else if c = 92 then (if t.take 1 = [] ∨ t.take 1 = [63] then none else rd n' (t.drop 1) done k (Z ++ t.take 1))
    else rd n' t done k (Z ++ [c])) = some res := by
  cases n with
  | zero => cases h
  | succ n' => exact ⟨n', rfl, h⟩
theorem isC {x s : Str} {c d : Nat} (hx : x = ⟨#[c]⟩) (hs : s = ⟨#[d]⟩) : (x == s) = decide (c = d) := by
  subst hx hs
  rw [Bool.eq_iff_iff, beq_iff_eq, decide_eq_true_eq]
  simp
theorem take_fit {l m : L} {n : Nat} (h : l.take n = m) : m.length ≤ l.length := by
  rw [← h, List.length_take]; exact Nat.min_le_right _ _
abbrev tup2 (u v : Value) : Obj := { cls := .type "tuple", data := .seq #[u, v] }
abbrev News1 := List (Addr × Obj)
def AtomsN (news : News1) (vs : List Value) (X : L) : Prop := vs.length = X.length ∧ ∀ (i c : Nat), X[i]? = some c → ∃ r t, vs[i]? = some (Value.ref r) ∧ (r, tup2 (.bool (atom c).1) (.str (atom c).2 t)) ∈ news
def DoneN (news : News1) (refs : List Value) (ps : List (Nat × L)) : Prop := refs.length = ps.length ∧ ∀ (i : Nat) (p : Nat × L), ps[i]? = some p →
  ∃ r t a avs k, refs[i]? = some (Value.ref r) ∧ (r, tup2 (.str (kindS p.1) t) (.ref a)) ∈ news ∧ (a, W.listOf (List.toArray avs) k) ∈ news ∧ AtomsN news avs p.2
theorem AtomsN.mono {n1 n2 : News1} {vs : List Value} {X : L} (h : AtomsN n1 vs X) (s : ∀ p ∈ n1, p ∈ n2) : AtomsN n2 vs X :=
  ⟨h.1, fun i c e => let ⟨r, t, a, b⟩ := h.2 i c e; ⟨r, t, a, s _ b⟩⟩
theorem DoneN.mono {n1 n2 : News1} {vs : List Value} {ps : List (Nat × L)} (h : DoneN n1 vs ps) (s : ∀ p ∈ n1, p ∈ n2) : DoneN n2 vs ps :=
  ⟨h.1, fun i c e => let ⟨r, t, a, avs, k, x1, x2, x3, x4⟩ := h.2 i c e; ⟨r, t, a, avs, k, x1, s _ x2, s _ x3, x4.mono s⟩⟩
theorem AtomsN.snoc {n1 : News1} {vs : List Value} {X : L} {c : Nat} {r : Addr} {t : Tok} (h : AtomsN n1 vs X) (hm : (r, tup2 (.bool (atom c).1) (.str (atom c).2 t)) ∈ n1) : AtomsN n1 (vs ++ [.ref r]) (X ++ [c]) := by
  refine ⟨by simp [h.1], fun i d e => ?_⟩
  rcases Nat.lt_trichotomy i X.length with q | q | q
  · rw [List.getElem?_append_left q] at e
    obtain ⟨r2, t2, a, b⟩ := h.2 i d e
    exact ⟨r2, t2, by rw [List.getElem?_append_left (by rw [h.1]; exact q)]; exact a, b⟩
  · subst q
    simp only [List.getElem?_append_right (Nat.le_refl _), Nat.sub_self, List.getElem?_cons_zero, Option.some.injEq] at e
    subst e
    exact ⟨r, t, by rw [← h.1]; simp, hm⟩
  · rw [List.getElem?_eq_none (by simp; omega)] at e; cases e
theorem DoneN.snoc {n1 : News1} {vs : List Value} {ps : List (Nat × L)} {k : Nat} {Z : L} {r a : Addr} {t : Tok} {avs : List Value} {kA : Nat} (h : DoneN n1 vs ps) (h1 : (r, tup2 (.str (kindS k) t) (.ref a)) ∈ n1) (h2 : (a, W.listOf avs.toArray kA) ∈ n1) (h3 : AtomsN n1 avs Z) : DoneN n1 (vs ++ [.ref r]) (ps ++ [(k, Z)]) := by
  refine ⟨by simp [h.1], fun i d e => ?_⟩
  rcases Nat.lt_trichotomy i ps.length with q | q | q
  · rw [List.getElem?_append_left q] at e
    obtain ⟨r2, t2, a2, avs2, k2, x1, x2⟩ := h.2 i d e
    exact ⟨r2, t2, a2, avs2, k2, by rw [List.getElem?_append_left (by rw [h.1]; exact q)]; exact x1, x2⟩
  · subst q
    simp only [List.getElem?_append_right (Nat.le_refl _), Nat.sub_self, List.getElem?_cons_zero, Option.some.injEq] at e
    subst e
    exact ⟨r, t, a, avs, kA, by rw [← h.1]; simp, h1, h2, h3⟩
  · rw [List.getElem?_eq_none (by simp; omega)] at e; cases e
def RdJ (B : L) (res : List (Nat × L)) (P : Addr) (base : Str → Option Value) (n : Nat) (m : Str → Option Value) (news : News1) : Prop :=
  ∃ (i : Nat) (ti : Tok) (A T : Addr) (tT : Tok) (refs avs : List Value) (kP kA : Nat) (done : List (Nat × L)) (k : Nat) (Z : L) (rest : News1),
    news = (P, W.listOf (refs ++ [Value.ref T]).toArray kP) :: (A, W.listOf avs.toArray kA) :: rest ∧ P ≠ A ∧ (∀ p ∈ rest, p.1 ≠ P) ∧ (∀ p ∈ rest, p.1 ≠ A) ∧
    (T, tup2 (.str (kindS k) tT) (.ref A)) ∈ rest ∧ DoneN rest refs done ∧ AtomsN rest avs Z ∧ k ≤ 2 ∧ rd n (B.drop i) done k Z = some res ∧ refs.length + avs.length ≤ i ∧ i ≤ B.length ∧
    m (Str.ofString "at") = some (.int (i : Int) ti) ∧ ∀ y, y ≠ Str.ofString "at" → y ∉ [Str.ofString "sign", Str.ofString "atoms"] → m y = base y
theorem RdJ.elim {B : L} {res : List (Nat × L)} {P : Addr} {base : Str → Option Value} {n : Nat} {m : Str → Option Value} {news : News1} {C : Prop} (I : RdJ B res P base n m news)
    (k_ : ∀ (i : Nat) (ti : Tok) (A T : Addr) (tT : Tok) (refs avs : List Value) (kP kA : Nat) (done : List (Nat × L)) (k : Nat) (Z : L) (rest : News1), news = (P, W.listOf (refs ++ [Value.ref T]).toArray kP) :: (A, W.listOf avs.toArray kA) :: rest → P ≠ A → ((∀ p ∈ rest, p.1 ≠ P)) → ((∀ p ∈ rest, p.1 ≠ A)) → (T, tup2 (.str (kindS k) tT) (.ref A)) ∈ rest → DoneN rest refs done → AtomsN rest avs Z → k ≤ 2 → rd n (B.drop i) done k Z = some res → refs.length + avs.length ≤ i → i ≤ B.length → m (Str.ofString "at") = some (.int (i : Int) ti) → (∀ y, y ≠ Str.ofString "at" → y ∉ [Str.ofString "sign", Str.ofString "atoms"] → m y = base y) → C) : C := by
  obtain ⟨i, ti, A, T, tT, refs, avs, kP, kA, done, k, Z, rest, q0, q1, q2, q3, q4, q5, q6, q7, q8, q9, q10, q11, q12⟩ := I
  exact k_ i ti A T tT refs avs kP kA done k Z rest q0 q1 q2 q3 q4 q5 q6 q7 q8 q9 q10 q11 q12
def RdD (res : List (Nat × L)) (P : Addr) (base : Str → Option Value) (m : Str → Option Value) (news : News1) : Prop :=
  ∃ (refs : List Value) (kP : Nat) (rest : News1) (u : Str → Option Value), news = (P, W.listOf refs.toArray kP) :: rest ∧ refs.length ≤ 1000000 ∧ DoneN rest refs res ∧ m = fun y => if y ∈ [Str.ofString "at", Str.ofString "sign", Str.ofString "atoms"] then u y else base y
abbrev rdB (b : Str) (tb : Tok) (P : Addr) (x : Str) (t : Tok) : Str → Option Value := fun y => if y = Str.ofString "body" then some (.str b tb) else if y = Str.ofString "parts" then some (.ref P) else List.lookup y [(Str.ofString "told", Value.str x t)].reverse
theorem tupIn {h₀ h : Heap} {L T : Addr} {news : News1} {u v : Value} (N : News h₀ L h news) (hm : (T, tup2 u v) ∈ news) : IsTup h T [u, v].toArray := N.isTup hm
theorem own3 {a b c P : Addr} {x y z : Obj} {r r2 r3 : Prop} (h : b < a ∧ c < a ∧ P < a ∧ r) (h2 : c < b ∧ P < b ∧ r2) (h3 : P < c ∧ r3) : ∀ p ∈ [(a, x), (b, y), (c, z)], p.1 ≠ P :=
  all1 (Nat.ne_of_gt h.2.2.1) (all1 (Nat.ne_of_gt h2.2.1) (all1 (Nat.ne_of_gt h3.1) all0))
theorem own3a {a c P A : Addr} {x y z : Obj} {r r3 : Prop} (h : c < a ∧ P < a ∧ A < a ∧ r) (h3 : P < c ∧ A < c ∧ r3) (d : P ≠ A) : ∀ p ∈ [(a, x), (c, y), (P, z)], p.1 ≠ A :=
  all1 (Nat.ne_of_gt h.2.2.1) (all1 (Nat.ne_of_gt h3.2.1) (all1 d all0))
section
variable {h₀ h' : Heap} {L P A T D l D1 : Addr} {tk tT : Tok} {o1 : Obj} {refs avs : List Value} {kP kA : Nat} {rest : News1} {k k' n' i i' : Nat} {Z B : List Nat} {done res : List (Nat × List Nat)} {m base : Str → Option Value} {ti : Tok} {r r2 r3 : Prop}
theorem rd_add (F : Fr h₀ L h' m) (N : News h₀ L h' ((D, tup2 (.str (kindS k') tk) (.ref l)) :: (l, W.listOf #[] 0) :: (D1, o1) :: (P, W.listOf ((refs ++ [Value.ref T]).toArray.push (.ref D)) kP) :: (A, W.listOf avs.toArray kA) :: rest))
    (g1 : l < D ∧ D1 < D ∧ P < D ∧ r) (g2 : D1 < l ∧ P < l ∧ A < l ∧ AllLt l rest) (g3 : P < D1 ∧ r3) (d1 : P ≠ A) (d2 : ∀ p ∈ rest, p.1 ≠ P) (hT : (T, tup2 (.str (kindS k) tT) (.ref A)) ∈ rest) (hD : DoneN rest refs done) (hA : AtomsN rest avs Z) (hk : k' ≤ 2)
    (hR : rd n' (B.drop i') (done ++ [(k, Z)]) k' [] = some res) (hl : refs.length + avs.length ≤ i) (hi : i + 1 ≤ i') (hi' : i' ≤ B.length) (hm1 : m (Str.ofString "at") = some (.int (i' : Int) ti)) (hm2 : ∀ y, y ≠ Str.ofString "at" → y ∉ [Str.ofString "sign", Str.ofString "atoms"] → m y = base y) :
    ∃ nw, News h₀ L h' nw ∧ RdJ B res P base n' m nw := by
  have hlt : ∀ p ∈ rest, p.1 ≠ l := fun p hp => Nat.ne_of_lt (ktn_ltOf g2.2.2.2 p hp)
  refine ⟨(P, W.listOf ((refs ++ [Value.ref T]) ++ [Value.ref D]).toArray kP) :: (l, W.listOf [].toArray 0) :: (D, tup2 (.str (kindS k') tk) (.ref l)) :: (A, W.listOf avs.toArray kA) :: (D1, o1) :: rest, fun p hp => N p ?_, ?_⟩
  · rw [List.push_toArray]
    simp only [List.mem_cons] at hp ⊢
    rcases hp with h | h | h | h | h | h <;> simp [h]
  · refine ⟨i', ti, l, D, tk, refs ++ [Value.ref T], [], kP, 0, done ++ [(k, Z)], k', [], _, rfl, Nat.ne_of_lt g2.2.1, ?_, ?_, .head _, ?_, ⟨rfl, fun i c e => by simp at e⟩, hk, hR, by simp; omega, hi', hm1, hm2⟩
    · exact all1 (Nat.ne_of_gt g1.2.2.1) (all1 (Ne.symm d1) (all1 (Nat.ne_of_gt g3.1) d2))
    · exact all1 (Nat.ne_of_gt g1.1) (all1 (Nat.ne_of_lt g2.2.2.1) (all1 (Nat.ne_of_lt g2.1) hlt))
    · have s : ∀ p ∈ rest, p ∈ (D, tup2 (.str (kindS k') tk) (.ref l)) :: (A, W.listOf avs.toArray kA) :: (D1, o1) :: rest := fun p hp => by simp [hp]
      exact (hD.mono s).snoc (s _ hT) (.tail _ (.head _)) (hA.mono s)
theorem rd_atom {c : Nat} (F : Fr h₀ L h' m) (N : News h₀ L h' ((D, tup2 (.bool (atom c).1) (.str (atom c).2 tk)) :: (D1, o1) :: (P, W.listOf (refs ++ [Value.ref T]).toArray kP) :: (A, W.listOf (avs.toArray.push (.ref D)) kA) :: rest))
    (g1 : D1 < D ∧ P < D ∧ A < D ∧ r) (g3 : P < D1 ∧ A < D1 ∧ r3) (d1 : P ≠ A) (d2 : ∀ p ∈ rest, p.1 ≠ P) (d3 : ∀ p ∈ rest, p.1 ≠ A) (hT : (T, tup2 (.str (kindS k) tT) (.ref A)) ∈ rest) (hD : DoneN rest refs done) (hA : AtomsN rest avs Z) (hk : k ≤ 2)
    (hR : rd n' (B.drop i') done k (Z ++ [c]) = some res) (hl : refs.length + avs.length ≤ i) (hi : i + 1 ≤ i') (hi' : i' ≤ B.length) (hm1 : m (Str.ofString "at") = some (.int (i' : Int) ti)) (hm2 : ∀ y, y ≠ Str.ofString "at" → y ∉ [Str.ofString "sign", Str.ofString "atoms"] → m y = base y) :
    ∃ nw, News h₀ L h' nw ∧ RdJ B res P base n' m nw := by
  refine ⟨(P, W.listOf (refs ++ [Value.ref T]).toArray kP) :: (A, W.listOf (avs ++ [Value.ref D]).toArray kA) :: (D, tup2 (.bool (atom c).1) (.str (atom c).2 tk)) :: (D1, o1) :: rest, fun p hp => N p ?_, ?_⟩
  · rw [List.push_toArray]
    simp only [List.mem_cons] at hp ⊢
    rcases hp with h | h | h | h | h <;> simp [h]
  · have s : ∀ p ∈ rest, p ∈ (D, tup2 (.bool (atom c).1) (.str (atom c).2 tk)) :: (D1, o1) :: rest := fun p hp => by simp [hp]
    exact ⟨i', ti, A, T, tT, refs, avs ++ [Value.ref D], kP, kA, done, k, Z ++ [c], _, rfl, d1, all1 (Nat.ne_of_gt g1.2.1) (all1 (Nat.ne_of_gt g3.1) d2), all1 (Nat.ne_of_gt g1.2.2.1) (all1 (Nat.ne_of_gt g3.2.1) d3), s _ hT, hD.mono s, (hA.mono s).snoc (.head _), hk, hR, by simp; omega, hi', hm1, hm2⟩
end
theorem rows_Fread1 : True := by
  k_with "m:subscriptTail" => (k_dflt (((with_reducible show wpAny _ _ (subscriptTail _ _ (Value.ref _) (Value.int _ _)) _ _ _); (with_reducible refine' itemT (l := [_, _]) (tupIn (by with_reducible assumption) ?k0ₓ) ?k1ₓ ?k2ₓ ?k3ₓ ?_ ?hsₓ); (case k0ₓ => repeat (first | with_reducible assumption | refine List.mem_cons_of_mem _ ?_)); (case k1ₓ => decide); (case k2ₓ => decide); (case k3ₓ => with_unfolding_all rfl); (case hsₓ => with_unfolding_all rfl))))
  k_with "m:subscriptTail Name Constant ref int" => (k_dflt (((with_reducible show wpAny _ _ (subscriptTail _ _ (Value.ref _) (Value.int _ _)) _ _ _); (with_reducible refine' itemT (l := [_, _]) (tupIn (by with_reducible assumption) ?k0ₓ) ?k1ₓ ?k2ₓ ?k3ₓ ?_ ?hsₓ); (case k0ₓ => repeat (first | with_reducible assumption | refine List.mem_cons_of_mem _ ?_)); (case k1ₓ => decide); (case k2ₓ => decide); (case k3ₓ => with_unfolding_all rfl); (case hsₓ => with_unfolding_all rfl))))
  k_with "m:call builtin:list.append" => ((k_dflt (((with_reducible show wpAny _ _ (call (Value.builtin _) [Value.ref _, _]) _ _ _); (have Fₜ := (by with_reducible assumption : Fr _ _ _ _)); (have Nₜ := (by with_reducible assumption : News _ _ _ _)); (k_dflt (refine' appendN (own := [_, _, _]) Fₜ Nₜ ?h1ₓ ?h2ₓ ?hzₓ ?_)); (case h1ₓ => first | exact own3 (by with_reducible assumption) (by with_reducible assumption) (by with_reducible assumption) | exact own3a (by with_reducible assumption) (by with_reducible assumption) (by with_reducible assumption)); (case h2ₓ => first | with_reducible assumption | exact all1 (Ne.symm (by with_reducible assumption)) (by with_reducible assumption)); (case hzₓ => with_reducible assumption); intro _ _ N'ₓ; (try simp only [List.nil_append, List.cons_append] at N'ₓ))); clear Fₜ Nₜ; revert N'ₓ; intro _))
  trivial
theorem kindS_ne {k : Nat} : (k ≠ 1 → kindS k ≠ Str.ofString "free") ∧ (k ≤ 2 → k ≠ 2 → kindS k ≠ Str.ofString "held") := by
  refine ⟨fun h => ?_, fun h h2 => ?_⟩
  · match k, h with
    | 0, _ => decide
    | 1, h => exact absurd rfl h
    | k + 2, _ => show Str.ofString "held" ≠ _; decide
  · match k, h, h2 with
    | 0, _, _ => decide
    | 1, _, _ => decide
    | 2, _, h => exact absurd rfl h
theorem kinds_ok {ks : List (Str × Tok)} {res : List (Nat × L)} (hk : ks.map (·.1) = res.map (fun p => kindS p.1)) (h1 : ∀ p ∈ res, p.1 ≤ 2) (h2 : ∀ p ∈ res.dropLast, p.1 ≠ 1) (h3 : ∀ p, res.getLast? = some p → p.1 ≠ 2) (hne : res ≠ []) :
    ((pickT ks none (some (-1))).map (·.1)).any (· == Str.ofString "free") = false ∧ ∃ pl, pyAt ks (-1) = some pl ∧ (pl.1 == Str.ofString "held") = false ∧ 0 < ks.length := by
  have hl : ks.length = res.length := by have := congrArg List.length hk; simpa using this
  have hp : 0 < ks.length := by rw [hl]; exact List.length_pos_iff.mpr hne
  constructor
  · have e : pickT ks none (some (-1)) = ks.dropLast := by
      have : kms_hi (some (-1)) ks.length = ks.length - 1 := by simp [kms_hi]
      rw [pickT, this]
      simp [kms_lo, List.dropLast_eq_take]
    rw [e, List.map_dropLast, hk, ← List.map_dropLast, Bool.eq_false_iff]
    intro q
    rw [List.any_eq_true] at q
    obtain ⟨y, hy, hy2⟩ := q
    obtain ⟨p, hp1, rfl⟩ := List.mem_map.mp hy
    exact kindS_ne.1 (h2 p hp1) (beq_iff_eq.mp hy2)
  · have hl1 : ks.getLast? = some (ks.getLast (List.length_pos_iff.mp hp)) := List.getLast?_eq_some_getLast _
    refine ⟨ks.getLast (List.length_pos_iff.mp hp), ?_, ?_, hp⟩
    · unfold pyAt
      rw [if_pos (by decide), ← hl1, List.getLast?_eq_getElem?]
      congr 1; omega
    · have h4 : (ks.map (·.1)).getLast? = some (ks.getLast (List.length_pos_iff.mp hp)).1 := by rw [List.getLast?_map, hl1]; rfl
      rw [hk, List.getLast?_map] at h4
      cases e : res.getLast? with
      | none => rw [e] at h4; cases h4
      | some p =>
        rw [e] at h4
        have h5 : kindS p.1 = (ks.getLast (List.length_pos_iff.mp hp)).1 := Option.some.inj h4
        rw [← h5, beq_eq_false_iff_ne]
        exact kindS_ne.2 (h1 p (List.mem_of_getLast? e)) (h3 p e)
/-- a list of parts that lives by the objects of nw alone -/
def Kept (nw : News1) (a : Addr) (vs : Array Value) (ps : List (Nat × List Nat)) : Prop := ∀ h : Heap, (∀ p ∈ nw, h.get? p.1 = some p.2) → h.IsList a vs ∧ PartsAt h vs ps
theorem News.again {h₀ h h' : Heap} {L : Addr} {news : News1} (N : News h₀ L h news) (g : ∀ p ∈ news, h'.get? p.1 = some p.2) : News h₀ L h' news := fun p hp => ⟨g p hp, (N p hp).2⟩
theorem parts_of {h₀ h : Heap} {L : Addr} {news rest : News1} {refs : List Value} {res : List (Nat × List Nat)} (N : News h₀ L h news) (hD : DoneN rest refs res) (s : ∀ p ∈ rest, p ∈ news) : PartsAt h refs.toArray res := by
  refine ⟨by rw [List.size_toArray]; exact hD.1, fun i p e => ?_⟩
  obtain ⟨r, t, a, avs, k, x1, x2, x3, x4, x5⟩ := hD.2 i p e
  refine ⟨r, t, a, avs.toArray, by rw [List.getElem?_toArray]; exact x1, tupIn N (s _ x2), N.isList (s _ x3), by rw [List.size_toArray]; exact x4, fun j c e2 => ?_⟩
  obtain ⟨r2, t2, y1, y2⟩ := x5 j c e2
  exact ⟨r2, t2, by rw [List.getElem?_toArray]; exact y1, tupIn N (s _ y2)⟩
theorem rows_Fread2 : True := by
  k_with "m:compareOp In str ref" => (k_dflt ((with_unfolding_all refine' in_list_strs ?k1ₓ (strsAre_of _) ?_; (case k1ₓ => exact News.isList (by with_reducible assumption) (List.Mem.head _)))))
  k_with "m:subscriptTail Name UnaryOp ref int" => (k_dflt (((with_reducible show wpAny _ _ (subscriptTail _ (Expr.UnaryOp _ _ _) (Value.ref _) (Value.int _ _)) _ _ _); (refine' itemSt (News.isList (by with_reducible assumption) (List.Mem.tail _ (List.Mem.head _))) ?k1ₓ ?k2ₓ ?k3ₓ ?k4ₓ ?_ ?hsₓ); (case k1ₓ => omega); (case k2ₓ => omega); (case k3ₓ => with_reducible assumption); (case k4ₓ => with_reducible assumption); (case hsₓ => with_unfolding_all rfl))))
  k_with "m:exec Assign cons ListComp" => (k_dflt ((with_unfolding_all refine LCg.Assign_ListComp_U (F₀ := by with_reducible assumption) (by rfl) (by with_unfolding_all rfl) (by with_unfolding_all rfl) (by decide) (by rfl) (by decide) (by rfl) (by rfl) (by rfl) ?_)))
  k_with "m:subscriptTail Name Slice ref ref" => (k_dflt (((with_reducible show wpAny _ _ (subscriptTail _ (PySem.Expr.Slice _ _ none _) (Value.ref _) (Value.ref _)) _ _ _); (refine' sliceSt ?Fₓ ?Nₓ ?lₓ ?pₓ ?qₓ rfl ?_ ?sₓ ?tₓ ?zₓ; (case Fₓ => with_reducible assumption); (case Nₓ => with_reducible assumption); (case lₓ => is_list); (case pₓ => with_reducible constructor); (case qₓ => with_reducible constructor); (case sₓ => with_unfolding_all rfl); (case tₓ => (intro _; with_unfolding_all rfl)); (case zₓ => with_reducible assumption)); intro _ _ _ _ _)))
  trivial
theorem t_read {w : World} {mean mg mb} {A : Around} {s : Shared} {Q E : Value → Shared → Prop} (x : Str) (t : Tok) (Y : L)
  (X : (KF w.params).In s.heap) (T : Top qV LV mean mg mb s.heap) (hroom : A.depth + 2 < recursionLimit) (hu : A.units + 20 < cLine) (hh : A.handled = none) (hx : x.cps.toList = told Y) (hx2 : x.length ≤ 3000)
  (hq : ∀ h' tk a vs nw, s.heap.StaysIn h' → (∀ p ∈ nw, h'.get? p.1 = some p.2 ∧ s.heap.get? p.1 = none) → Kept nw a vs ((0, (runs Y).1) :: partsT (runs Y).2) → Q (.ref a) { s with heap := h', toks := tk }) :
  wpAny (model PySem.Challenge.rw_in0170_01.row.prog w) A (call (.ref 183) [.str x t]) Q E s := by
  revert X
  k_fill
  intro X
  refine' enter [(Str.ofString "told", .str x t)] X T ?k1 ?k6 ?k7 ?k9 ?kB ?_ ?c2 ?c3 ?c4 ?c5
  case k1 => omega
  case k6 => k_is
  case k7 => k_is
  case k9 => exact BindsTo.of_eq rfl
  case c5 => decide
  case kB => exact locs rfl
  case c2 => exact rfl
  case c3 => exact rfl
  case c4 => exact rfl
  intro L h₁ F N
  have hlen : x.length = (told Y).length := by rw [← hx, len_cps]
  have htl : told Y = 40 :: 63 :: 115 :: 58 :: ((cod (runs Y).1 ++ tjT (runs Y).2) ++ [41, 92, 90]) := by simp [told]
  obtain ⟨n0, hrd⟩ := rd_told Y
  generalize hres : (0, (runs Y).1) :: partsT (runs Y).2 = res at hrd hq
  generalize hB : cod (runs Y).1 ++ tjT (runs Y).2 = B at htl hrd
  have hlB : (told Y).length = B.length + 7 := by rw [htl]; simp
  have hs1 : (Txt.slice x none (some 4) != Str.ofString "(?s:") = false := by
    rw [bne_eq_false_iff_eq, str_eq, slice_cps, hx, htl, hlen, hlB]
    simp [kms_lo, kms_hi]
    decide
  have hs2 : (Txt.slice x (some (-3)) none != Str.ofString ")\\Z") = false := by
    rw [bne_eq_false_iff_eq, str_eq, slice_cps, hx, htl, hlen, hlB]
    simp [kms_lo, kms_hi]
    decide
  have hb : (Txt.slice x (some 4) (some (-3))).cps.toList = B := by
    rw [slice_cps, hx, htl, hlen, hlB]
    simp [kms_lo, kms_hi]
  clear hx htl
  k_steps
  clear hs1 hs2
  rename_i tk0 h3 tb k0 hb2 A0 h4 _ T0 h5 o1 P h6 o2 T1 h7 o3 h8 h9 h10 h11 F N
  generalize Txt.slice x (some 4) (some (-3)) = b at hb hb2 F N
  have hbl : b.length = B.length := by rw [← hb, len_cps]
  refine While_PD (RdJ B res P (rdB b tb P x t)) (RdD res P (rdB b tb P x t)) (n₀ := n0) F (news := (P, W.listOf ([] ++ [Value.ref T0]).toArray 0) :: (A0, W.listOf [].toArray 0) :: (T0, tup2 (.str (kindS 0) (k0 + 1)) (.ref A0)) :: []) (fun p hp => N p ?_) ?_ ?_ ?_
  · simp only [List.mem_cons, List.not_mem_nil, or_false] at hp
    rcases hp with h | h | h
    · rw [h]; exact .tail _ (.head _)
    · rw [h]; exact .tail _ (.tail _ (.tail _ (.head _)))
    · rw [h]; exact .tail _ (.tail _ (.head _))
  · refine ⟨0, k0, A0, T0, k0 + 1, [], [], 0, 0, [], 0, [], _, rfl, Nat.ne_of_gt o2.2, all1 (Nat.ne_of_lt o2.1) all0, all1 (Nat.ne_of_gt o1) all0, .head _, ⟨rfl, fun i c e => by simp at e⟩, ⟨rfl, fun i c e => by simp at e⟩, by decide, hrd, Nat.le_refl _, Nat.zero_le _, rfl, fun y h1 h2 => ?_⟩
    simp [h1, rdB]
  · intro n m₁ news₁ h₁ tk₁ F N hJ U V hn ho hr hd
    refine hJ.elim ?_
    clear hJ
    rintro i ti A1 T2 tT refs avs kP kA done k Z rest rfl d1 d2 d3 hT hD hA hk hR hl1 hl2 hm1 hm2
    rw [env1 hm1 hm2] at F
    generalize m₁ = u at F
    have z0 : 0 < (refs ++ [Value.ref T2]).toArray.size := by simp
    have z1 : (refs ++ [Value.ref T2]).toArray.size ≤ 1000000 := by simp; omega
    have z2 : (refs ++ [Value.ref T2]).toArray[(refs ++ [Value.ref T2]).toArray.size - 1]? = some (Value.ref T2) := by simp
    have z3 : avs.toArray.size ≤ 1000000 := by simp; omega
    have fin : ∀ (h' : Heap) (tk' : Nat) (m' : Str → Option Value) (nw : News1) (n' : Nat), n' + 1 = n → Fr s.heap L h' m' → News s.heap L h' nw ∧ RdJ B res P (rdB b tb P x t) n' m' nw → U .next { s with heap := h', toks := tk' } := fun h' tk' m' nw n' e F2 J2 => hn _ ⟨h', tk', m', nw, n', rfl, F2, J2.1, by omega, J2.2⟩
    clear hn hr
    rcases Nat.lt_or_ge i B.length with hi | hi
    · have hlt : (i : Int) < (b.length : Int) := by omega
      obtain ⟨c, t1, hc⟩ : ∃ c t1, B.drop i = c :: t1 := ⟨_, _, List.drop_eq_getElem_cons hi⟩
      have hit : Txt.item b (i : Int) = ⟨#[c]⟩ := by
        rw [itemN rfl (by omega), hb, List.getD_eq_getElem?_getD, show B[i]? = some c by rw [← List.head?_drop, hc]; rfl]; rfl
      have t6 : (Txt.slice b (some (i : Int)) (some ((i : Int) + 6))).cps.toList = (c :: t1).take 6 := by rw [show ((i : Int) + 6) = (i : Int) + ((6 : Nat) : Int) from rfl, slice_mid, hb, hc]
      have t2 : (Txt.slice b (some (i : Int)) (some ((i : Int) + 2))).cps.toList = (c :: t1).take 2 := by rw [show ((i : Int) + 2) = (i : Int) + ((2 : Nat) : Int) from rfl, slice_mid, hb, hc]
      rw [hc] at hR
      obtain ⟨n', rfl, hR2⟩ := rd_inv hR
      clear hR
      have hd : ∀ j, B.drop (i + j) = (c :: t1).drop j := fun j => by rw [← List.drop_drop, hc]
      have hlen : (c :: t1).length + i = B.length := by rw [← hc, List.length_drop]; omega
      by_cases hcl : c = 41 ∧ k = 2
      · obtain ⟨rfl, rfl⟩ := hcl
        rw [if_neg (by simp), if_neg (by simp), if_pos ⟨rfl, rfl⟩] at hR2
        have e6 : (Txt.slice b (some (i : Int)) (some ((i : Int) + 6)) == Str.ofString "(?>.*?") = false := by
          rw [beq_eq_false_iff_ne]; intro q; rw [q] at t6; cases t6
        have e2 : (Txt.slice b (some (i : Int)) (some ((i : Int) + 2)) == Str.ofString ".*") = false := by
          rw [beq_eq_false_iff_ne]; intro q; rw [q] at t2; cases t2
        have es : (Txt.item b (i : Int) == Str.ofString ")") = true := by rw [isC hit (d := 41) (by decide)]; rfl
        have ek : (kindS 2 == Str.ofString "held") = true := by decide
        k_steps
        rename Fr _ _ _ _ => F9
        rename News _ _ _ _ => N9
        obtain ⟨nw, J9⟩ := rd_add (base := rdB b tb P x t) (k' := 0) (i' := i + 1) F9 N9 (by assumption) (by assumption) (by assumption) d1 d2 hT hD hA (by decide) (by rw [hd]; exact hR2) hl1 (Nat.le_refl _) (by omega) rfl (fun y h1 h2 => by simp only [List.mem_cons, List.not_mem_nil, or_false, not_or] at h2; simp [h1, h2.1, h2.2])
        exact fin _ _ _ nw _ rfl F9 J9
      · have hn41 : c ≠ 41 := by
          intro q
          subst q
          rw [if_neg (by simp), if_neg (by simp), if_neg hcl, if_neg (by decide), if_pos (by decide)] at hR2
          cases hR2
        have es : (Txt.item b (i : Int) == Str.ofString ")") = false := by rw [isC hit (d := 41) (by decide)]; exact decide_eq_false hn41
        k_steps
        · rename (_ == Str.ofString "(?>.*?") = true => q
          have e6 : (c :: t1).take 6 = [40, 63, 62, 46, 42, 63] := by rw [← t6, beq_iff_eq.mp q]; decide
          rw [if_pos e6] at hR2
          have := take_fit e6
          rename Fr _ _ _ _ => F9
          rename News _ _ _ _ => N9
          obtain ⟨nw, J9⟩ := rd_add (base := rdB b tb P x t) (k' := 2) (i' := i + 6) F9 N9 (by assumption) (by assumption) (by assumption) d1 d2 hT hD hA (by decide) (by rw [hd]; exact hR2) hl1 (by omega) (by simp only [List.length_cons, List.length_nil] at this hlen; omega) rfl (fun y h1 h2 => by simp only [List.mem_cons, List.not_mem_nil, or_false, not_or] at h2; simp [h1, h2.1, h2.2])
          exact fin _ _ _ nw _ rfl F9 J9
        · rename (_ == Str.ofString "(?>.*?") = false => q6
          have n6 : (c :: t1).take 6 ≠ [40, 63, 62, 46, 42, 63] := fun e => (beq_eq_false_iff_ne.mp q6) (by rw [str_eq, t6, e]; decide)
          rename (_ == Str.ofString ".*") = true => q
          have e2 : (c :: t1).take 2 = [46, 42] := by rw [← t2, beq_iff_eq.mp q]; decide
          rw [if_neg n6, if_pos e2] at hR2
          have := take_fit e2
          rename Fr _ _ _ _ => F9
          rename News _ _ _ _ => N9
          obtain ⟨nw, J9⟩ := rd_add (base := rdB b tb P x t) (k' := 1) (i' := i + 2) F9 N9 (by assumption) (by assumption) (by assumption) d1 d2 hT hD hA (by decide) (by rw [hd]; exact hR2) hl1 (by omega) (by simp only [List.length_cons, List.length_nil] at this hlen; omega) rfl (fun y h1 h2 => by simp only [List.mem_cons, List.not_mem_nil, or_false, not_or] at h2; simp [h1, h2.1, h2.2])
          exact fin _ _ _ nw _ rfl F9 J9
        · rename (_ == Str.ofString "(?>.*?") = false => q6
          have n6 : (c :: t1).take 6 ≠ [40, 63, 62, 46, 42, 63] := fun e => (beq_eq_false_iff_ne.mp q6) (by rw [str_eq, t6, e]; decide)
          rename (_ == Str.ofString ".*") = false => q2
          have n2 : (c :: t1).take 2 ≠ [46, 42] := fun e => (beq_eq_false_iff_ne.mp q2) (by rw [str_eq, t2, e]; decide)
          rename (_ == Str.ofString ".") = true => q
          rw [isC hit (d := 46) (by decide), decide_eq_true_eq] at q
          rw [if_neg n6, if_neg n2, if_neg hcl, if_pos q] at hR2
          rename Fr _ _ _ _ => F9
          rename News _ _ _ _ => N9
          obtain ⟨nw, J9⟩ := rd_atom (base := rdB b tb P x t) (c := 63) (i' := i + 1) F9 N9 (by assumption) (by assumption) d1 d2 d3 hT hD hA hk (by rw [hd]; exact hR2) hl1 (Nat.le_refl _) hi rfl (fun y h1 h2 => by simp only [List.mem_cons, List.not_mem_nil, or_false, not_or] at h2; simp [h1, h2.1, h2.2])
          exact fin _ _ _ nw _ rfl F9 J9
        · rename (_ == Str.ofString "(?>.*?") = false => q6
          have n6 : (c :: t1).take 6 ≠ [40, 63, 62, 46, 42, 63] := fun e => (beq_eq_false_iff_ne.mp q6) (by rw [str_eq, t6, e]; decide)
          rename (_ == Str.ofString ".*") = false => q2
          have n2 : (c :: t1).take 2 ≠ [46, 42] := fun e => (beq_eq_false_iff_ne.mp q2) (by rw [str_eq, t2, e]; decide)
          rename (_ == Str.ofString ".") = false => qd
          rw [isC hit (d := 46) (by decide), decide_eq_false_iff_not] at qd
          rename (_ == Str.ofString "\\") = true => q
          rw [isC hit (d := 92) (by decide), decide_eq_true_eq] at q
          rw [if_neg n6, if_neg n2, if_neg hcl, if_neg qd, if_neg (by rw [q]; decide), if_pos q] at hR2
          split at hR2
          · cases hR2
          · next g =>
            cases t1 with
            | nil => exact absurd (.inl rfl) g
            | cons d t2 =>
              have gd : d ≠ 63 := fun e => g (.inr (by rw [e]; rfl))
              have ha : atom d = (false, ⟨#[d]⟩) := if_neg gd
              have hsl : Txt.slice b (some ((i : Int) + 1)) (some ((i : Int) + 1 + 1)) = (atom d).2 := by
                rw [ha, str_eq, show ((i : Int) + 1) = ((i + 1 : Nat) : Int) from rfl, show ((i + 1 : Nat) : Int) + 1 = ((i + 1 : Nat) : Int) + ((1 : Nat) : Int) from rfl, slice_mid, hb, hd]
                rfl
              rename Fr _ _ _ _ => F9
              rename News _ _ _ _ => N9
              rw [hsl, show Value.bool false = Value.bool (atom d).1 by rw [ha]] at N9
              obtain ⟨nw, J9⟩ := rd_atom (base := rdB b tb P x t) (c := d) (i' := i + 2) F9 N9 (by assumption) (by assumption) d1 d2 d3 hT hD hA hk (by rw [hd]; exact hR2) hl1 (by omega) (by simp only [List.length_cons] at hlen; omega) rfl (fun y h1 h2 => by simp only [List.mem_cons, List.not_mem_nil, or_false, not_or] at h2; simp [h1, h2.1, h2.2])
              exact fin _ _ _ nw _ rfl F9 J9
        · rename (_ == Str.ofString "(?>.*?") = false => q6
          have n6 : (c :: t1).take 6 ≠ [40, 63, 62, 46, 42, 63] := fun e => (beq_eq_false_iff_ne.mp q6) (by rw [str_eq, t6, e]; decide)
          rename (_ == Str.ofString ".*") = false => q2
          have n2 : (c :: t1).take 2 ≠ [46, 42] := fun e => (beq_eq_false_iff_ne.mp q2) (by rw [str_eq, t2, e]; decide)
          rename (_ == Str.ofString ".") = false => qd
          rw [isC hit (d := 46) (by decide), decide_eq_false_iff_not] at qd
          rename (_ == Str.ofString "\\") = false => q
          rw [isC hit (d := 92) (by decide), decide_eq_false_iff_not] at q
          rename _ = true => qb
          have hnb : c ∉ bad := by
            have h3 := StrLaws.found_one (Str.ofString "[()*+?{}|^$") c
            rw [hit] at qb
            rw [qb] at h3
            exact of_decide_eq_false h3.symm
          rw [if_neg n6, if_neg n2, if_neg hcl, if_neg qd, if_neg hnb, if_neg q] at hR2
          have gd : c ≠ 63 := fun e => hnb (by rw [e]; decide)
          have ha : atom c = (false, ⟨#[c]⟩) := if_neg gd
          have hsl : Txt.slice b (some ((i : Int) + 0)) (some ((i : Int) + 0 + 1)) = (atom c).2 := by
            rw [ha, str_eq, show ((i : Int) + 0) = (i : Int) from rfl, show (i : Int) + 1 = (i : Int) + ((1 : Nat) : Int) from rfl, slice_mid, hb, hc]
            rfl
          rename Fr _ _ _ _ => F9
          rename News _ _ _ _ => N9
          rw [hsl, show Value.bool false = Value.bool (atom c).1 by rw [ha]] at N9
          obtain ⟨nw, J9⟩ := rd_atom (base := rdB b tb P x t) (c := c) (i' := i + 1) F9 N9 (by assumption) (by assumption) d1 d2 d3 hT hD hA hk (by rw [hd]; exact hR2) hl1 (Nat.le_refl _) hi rfl (fun y h1 h2 => by simp only [List.mem_cons, List.not_mem_nil, or_false, not_or] at h2; simp [h1, h2.1, h2.2])
          exact fin _ _ _ nw _ rfl F9 J9
        · rename (_ == Str.ofString "(?>.*?") = false => q6
          have n6 : (c :: t1).take 6 ≠ [40, 63, 62, 46, 42, 63] := fun e => (beq_eq_false_iff_ne.mp q6) (by rw [str_eq, t6, e]; decide)
          rename (_ == Str.ofString ".*") = false => q2
          have n2 : (c :: t1).take 2 ≠ [46, 42] := fun e => (beq_eq_false_iff_ne.mp q2) (by rw [str_eq, t2, e]; decide)
          rename (_ == Str.ofString ".") = false => qd
          rw [isC hit (d := 46) (by decide), decide_eq_false_iff_not] at qd
          rename _ = false => qb
          have hnb : c ∈ bad := by
            have h3 := StrLaws.found_one (Str.ofString "[()*+?{}|^$") c
            rw [hit] at qb
            rw [qb] at h3
            exact of_decide_eq_true h3.symm
          rw [if_neg n6, if_neg n2, if_neg hcl, if_neg qd, if_pos hnb] at hR2
          cases hR2
    · have hge : ¬ ((i : Int) < (b.length : Int)) := by omega
      have e : done ++ [(k, Z)] = res := by
        rw [List.drop_eq_nil_of_le hi] at hR
        cases n <;> simpa [rd] using hR
      clear fin
      k_steps
      refine hd _ ⟨_, _, _, _, rfl, (by assumption), (by assumption), refs ++ [Value.ref T2], kP, (A1, W.listOf avs.toArray kA) :: rest, (fun y => if y = Str.ofString "at" then some (.int (i : Int) ti) else u y), rfl, by rw [List.length_append, List.length_singleton]; omega, ?_, ?_⟩
      · rw [← e]
        exact (hD.mono fun p hp => .tail _ hp).snoc (.tail _ hT) (.head _) (hA.mono fun p hp => .tail _ hp)
      · funext y
        by_cases h1 : y = Str.ofString "at"
        · simp [h1]
        · by_cases h2 : y ∈ [Str.ofString "sign", Str.ofString "atoms"]
          · have h3 : y ∈ [Str.ofString "at", Str.ofString "sign", Str.ofString "atoms"] := .tail _ h2
            simp [h1, h2, h3]
          · have h3 : y ∉ [Str.ofString "at", Str.ofString "sign", Str.ofString "atoms"] := by simp at h2 ⊢; exact ⟨h1, h2⟩
            simp [h1, h2, h3]
  · rintro h tk m₁ news₁ F N ⟨refs, kP, rest, u, rfl, hrl, hD, rfl⟩
    k_steps
    refine LCg.CompSrc.ledger hh (by assumption) (by assumption) (.head _) (by rw [PySem.sizeLine_eq, List.size_toArray]; exact Nat.le_trans hrl (by decide)) fun g => ?_
    rw [List.size_toArray]
    suffices hgen : ∀ j i ks, i + j = refs.length → ks.length = i → ks.map (·.1) = (res.take i).map (fun p => kindS p.1) → LCg.CompRest _ w _ _ _ _ _ _ _ _ _ _ _ _ _ j i (strValues ks) _ from hgen refs.length 0 [] (by omega) rfl (by simp)
    intro j
    induction j with
    | zero =>
      intro i ks hi hks hkm
      have e : i = res.length := by rw [← hD.1]; omega
      rw [e, List.take_length] at hkm
      have hkl : ks.length ≤ 1000000 := by omega
      obtain ⟨f1, f2, f3⟩ := full_kinds (runs Y).1 (runs Y).2
      rw [hres] at f1 f2 f3
      obtain ⟨g1, pl, g2, g3, g4⟩ := kinds_ok hkm f1 f2 f3 (by rw [← hres]; simp)
      refine LCg.CompRest.zero ?_
      clear F
      k_steps
      rename News _ _ _ _ => N9
      exact hq _ _ _ refs.toArray _ (Fr.keep (by assumption)) (fun p hp => ⟨(N9 p hp).1, (N9 p hp).2.2⟩) (fun h'' g => have N10 := News.again N9 g; ⟨N10.isList (by k_mem), parts_of N10 hD fun p hp => .tail _ (.tail _ (.tail _ hp))⟩)
    | succ j ih =>
      intro i ks hi hks hkm
      have hir : i < res.length := by rw [← hD.1]; omega
      obtain ⟨r, tr, a2, avs2, k2, x1, x2, x3⟩ := hD.2 i res[i] (List.getElem?_eq_getElem hir)
      have hsn : (ks ++ [(kindS res[i].1, tr)]).map (·.1) = (res.take (i + 1)).map (fun p => kindS p.1) := by
        rw [List.take_succ_eq_append_getElem hir, List.map_append, List.map_append, hkm]; rfl
      refine LCg.CompRest.succ ?_
      intro v I oI C oC D m2 h7 tk3 E' hv hC hx' F' N' off' ne'
      have hv2 : v = .ref r := by
        have hv : refs.toArray[i]? = some v := hv
        rw [List.getElem?_toArray, x1] at hv
        exact (Option.some.inj hv).symm
      subst hv2
      generalize kindS res[i].1 = kk at hsn x2
      dsimp only
      k_steps
      refine LCg.CompEnd.intro (by assumption) (by assumption) ((P, _) :: rest) (fun p hp => hp) (by assumption) (.inr ⟨_, .head _, rfl, _, rfl⟩) ?_
      rw [show strValues ks ++ [Value.str kk tr] = strValues (ks ++ [(kk, tr)]) by simp [strValues]]
      exact ih _ _ (by omega) (by simp only [List.length_append, List.length_singleton]; omega) hsn
theorem rows_Fread_end : True := by
  k_with_none
  trivial
end
section
theorem News.addMany {h₀ h h' : Heap} {L : Addr} {m : Str → Option Value} {news nw : List (Addr × Obj)} (F : Fr h₀ L h m) (N : News h₀ L h news) (st : h.StaysIn h') (hk : ∀ p ∈ nw, h'.get? p.1 = some p.2 ∧ h.get? p.1 = none) : News h₀ L h' (nw ++ news) := fun p hp => by
  rcases List.mem_append.mp hp with hp | hp
  · obtain ⟨ha, hn⟩ := hk p hp
    refine ⟨ha, fun q => ?_, ?_⟩
    · obtain ⟨oL, _, _, hL, _⟩ := F.ns
      rw [← show p.1 = L from q, hn] at hL
      cases hL
    · cases e : h₀.get? p.1 with
      | none => rfl
      | some o' => rw [F.keep _ _ e] at hn; cases hn
  · exact ⟨st _ _ (N p hp).1, (N p hp).2⟩
theorem envN {keys : List Str} {base m : Str → Option Value} (h2 : ∀ y, y ∉ keys → m y = base y) : m = fun y => if y ∈ keys then m y else base y := by
  funext y
  by_cases e2 : y ∈ keys
  · simp [e2]
  · simp [e2, h2 y e2]
def TrOk (W : List Nat) : Prop := W.length ≤ 3000 ∧ 91 ∉ W ∧ ∀ c ∈ W, c < 128
def WdOk (W : List Nat) : Prop := okk W ∧ W ≠ [] ∧ W.length ≤ 3000
theorem len_is {x : Str} {W : List Nat} (h : x.cps.toList = W) : x.length = W.length := by rw [← h, len_cps]
theorem t_trans2 {w : World} {mean mg mb} {A : Around} {s : Shared} {Q E : Value → Shared → Prop} (x : Str) (t : Tok) (W : List Nat)
  (X : (KF w.params).In s.heap) (T : Top qV LV mean mg mb s.heap) (hroom : A.depth + 8 < recursionLimit) (hu : A.units + 80 < cLine) (hh : A.handled = none) (hx : x.cps.toList = W) (hW : TrOk W)
  (hq : ∀ h' tk z tz, s.heap.StaysIn h' → z.cps.toList = told W → Q (.str z tz) { s with heap := h', toks := tk }) :
  wpAny (model PySem.Challenge.rw_in0170_01.row.prog w) A (call (.ref 43) [.str x t]) Q E s := by
  subst hx
  exact t_translate x t X T hroom hu hh (by rw [← len_cps]; exact hW.1) hW.2.1 hW.2.2 hq
theorem t_word2 {w : World} {mean mg mb} {A : Around} {s : Shared} {Q E : Value → Shared → Prop} (x : Str) (t : Tok) (W : List Nat)
  (X : (KF w.params).In s.heap) (T : Top qV LV mean mg mb s.heap) (hroom : A.depth + 8 < recursionLimit) (hu : A.units + 80 < cLine) (hh : A.handled = none) (hx : x.cps.toList = W) (hW : WdOk W)
  (hq : ∀ h' tk z tz, s.heap.StaysIn h' → z.cps.toList = word W → Q (.str z tz) { s with heap := h', toks := tk }) :
  wpAny (model PySem.Challenge.rw_in0170_01.row.prog w) A (call (.ref 226) [.str x t]) Q E s := by
  subst hx
  exact t_word x t X T hroom hu hh hW.1 (fun q => hW.2.1 (List.eq_nil_of_length_eq_zero (by rw [len_cps]; exact q))) (by rw [← len_cps]; exact hW.2.2) hq
theorem t_read2 {w : World} {mean mg mb} {A : Around} {s : Shared} {Q E : Value → Shared → Prop} (x : Str) (t : Tok) (Y : List Nat)
  (X : (KF w.params).In s.heap) (T : Top qV LV mean mg mb s.heap) (hroom : A.depth + 2 < recursionLimit) (hu : A.units + 20 < cLine) (hh : A.handled = none) (hx : x.cps.toList = told Y) (hl : (told Y).length ≤ 3000)
  (hq : ∀ h' tk a vs nw, s.heap.StaysIn h' → (∀ p ∈ nw, h'.get? p.1 = some p.2 ∧ s.heap.get? p.1 = none) → Kept nw a vs ((0, (runs Y).1) :: partsT (runs Y).2) → Q (.ref a) { s with heap := h', toks := tk }) :
  wpAny (model PySem.Challenge.rw_in0170_01.row.prog w) A (call (.ref 183) [.str x t]) Q E s := by
  exact t_read x t Y X T hroom hu hh hx (by rw [len_is hx]; exact hl) hq
theorem t_takes2 {w : World} {mean mg mb} {A : Around} {s : Shared} {Q E : Value → Shared → Prop} (a : Addr) (x : Str) (t : Tok) (vs : Array Value) (Y W : List Nat) (nw : News1)
  (X : (KF w.params).In s.heap) (T : Top qV LV mean mg mb s.heap) (hroom : A.depth + 16 < recursionLimit) (hu : A.units + 160 < cLine) (hh : A.handled = none) (hx : x.cps.toList = W) (hk : Kept nw a vs ((0, (runs Y).1) :: partsT (runs Y).2)) (hn : ∀ p ∈ nw, s.heap.get? p.1 = some p.2) (hY : 7 * Y.length ≤ 3000) (hl : W.length ≤ 3000)
  (hq : ∀ h' tk, s.heap.StaysIn h' → Q (.bool (takes (runs Y) W)) { s with heap := h', toks := tk }) :
  wpAny (model PySem.Challenge.rw_in0170_01.row.prog w) A (call (.ref 197) [.ref a, .str x t]) Q E s := by
  subst hx
  obtain ⟨k1, k2⟩ := hk _ hn
  refine t_takes a x t vs _ X T hroom hu hh k1 k2 (fun p hp => ?_) (by rw [← len_cps]; exact hl) fun h' tk st => ?_
  · obtain ⟨z1, z2⟩ := parts_small Y p hp
    exact ⟨z1, by lia⟩
  · rw [takesP_takes]
    exact hq h' tk st
theorem t_runs2 {w : World} {mean mg mb} {A : Around} {s : Shared} {Q E : Value → Shared → Prop} (x : Str) (t : Tok) (W : List Nat)
  (X : (KF w.params).In s.heap) (T : Top qV LV mean mg mb s.heap) (hroom : A.depth + 1 < recursionLimit) (hu : A.units + 10 < cLine) (hh : A.handled = none) (hx : x.cps.toList = W) (hl : W.length ≤ 2900)
  (hq : ∀ h' tk a p0 pr, s.heap.StaysIn h' → h'.IsList a (strValues (p0 :: pr)).toArray → (cp p0, pr.map cp) = runs W → (∀ y ∈ p0 :: pr, y.1.length ≤ 3000) → pr.length ≤ 3000 → Q (.ref a) { s with heap := h', toks := tk }) :
  wpAny (model PySem.Challenge.rw_in0170_01.row.prog w) A (call (.ref 202) [.str x t]) Q E s := by
  subst hx
  rw [len_cps] at hl
  exact t_runs x t X T hroom hu hh (by lia) fun h' tk a p0 pr st h1 h2 h3 h4 => hq h' tk a p0 pr st h1 h2 (fun y hy => by have := h3 y hy; lia) (by lia)
theorem t_told2 {w : World} {mean mg mb} {A : Around} {s : Shared} {Q E : Value → Shared → Prop} (a b : Addr) (p0 q0 : Str × Tok) (pr qr : List (Str × Tok)) (very : Bool) (R1 R2 : L × List L)
  (X : (KF w.params).In s.heap) (T : Top qV LV mean mg mb s.heap) (hroom : A.depth + 1 < recursionLimit) (hu : A.units + 10 < cLine) (hh : A.handled = none) (ha : s.heap.IsList a (strValues (p0 :: pr)).toArray) (hb : s.heap.IsList b (strValues (q0 :: qr)).toArray) (h1 : (cp p0, pr.map cp) = R1) (h2 : (cp q0, qr.map cp) = R2) (hls : ∀ x ∈ p0 :: pr, x.1.length ≤ 3000) (hls2 : ∀ x ∈ q0 :: qr, x.1.length ≤ 3000) (hp : pr.length ≤ 3000) (hq1 : qr.length ≤ 3000)
  (hq : ∀ h' tk, s.heap.StaysIn h' → Q (.bool (lawTold very R1 R2)) { s with heap := h', toks := tk }) :
  wpAny (model PySem.Challenge.rw_in0170_01.row.prog w) A (call (.ref 209) [.ref a, .ref b, .bool very]) Q E s := by
  subst h1
  subst h2
  exact t_told a b p0 q0 pr qr very X T hroom hu hh ha hb hls hls2 hp hq1 hq
theorem rows_Frun : True := by
  k_with_none
  k_with "m:storeName" => (dsimp (config := { beta := false, eta := false, iota := false, proj := true, zeta := false }) only; walk_at "storeName")
  k_with "m:exec For Name Name cons nil" => (k_dflt (((with_unfolding_all refine' wpAny_For ?_ ?hsₓ); (case hsₓ => (intro _; with_unfolding_all rfl)))))
  k_with "m:unpackItems ref" => (k_dflt (((refine' unpackItemsN_ ?k1ₓ ?k2ₓ ?k3ₓ ?k4ₓ ?k5ₓ ?_; (case k1ₓ => with_reducible assumption); (case k2ₓ => with_reducible assumption); (case k3ₓ => first | exact News.isTup (by with_reducible assumption) (by exact .head _) | exact News.isTup (by with_reducible assumption) (by exact .tail _ (.head _))); (case k4ₓ => exact deeper_handled (by with_reducible assumption)); (case k5ₓ => with_unfolding_all rfl)); intro _ _ _)))
  k_with "m:pyIter ref" => (((with_reducible show wpAny _ _ (pyIter (Value.ref _)) _ _ _); refine Stop.mk ?_))
  k_with "m:call ref" => ((k_dflt (((with_reducible show wpAny _ _ (call (Value.ref 43) [_]) _ _ _); (with_unfolding_all refine' t_trans2 _ _ _ ?k1ₓ ?k2ₓ ?k3ₓ ?k4ₓ ?k5ₓ ?k6ₓ ?k7ₓ ?_); (case k6ₓ => with_reducible assumption); (case k7ₓ => with_reducible assumption); (case k1ₓ => exact Frag.In.keeps (by assumption) (Fr.keep (by assumption))); (case k2ₓ => exact Top.keeps (by assumption) (Fr.keep (by assumption))); (case k3ₓ => k_dflt (exact dep_lt (by with_reducible assumption) (by decide))); (case k4ₓ => k_dflt (exact unit_lt (by with_reducible assumption) (by decide))); (case k5ₓ => assumption); intro _ _ _ _ st'ₓ hz'ₓ; (have F'ₓ := Fr.keeps (by assumption) st'ₓ); (have N'ₓ := News.grown (by assumption) st'ₓ))); revert st'ₓ hz'ₓ F'ₓ N'ₓ; intro _ _ _ _))
  k_with "m:call ref" => ((k_dflt (((with_reducible show wpAny _ _ (call (Value.ref 226) [_]) _ _ _); (with_unfolding_all refine' t_word2 _ _ _ ?k1ₓ ?k2ₓ ?k3ₓ ?k4ₓ ?k5ₓ ?k6ₓ ?k7ₓ ?_); (case k6ₓ => with_reducible assumption); (case k7ₓ => with_reducible assumption); (case k1ₓ => exact Frag.In.keeps (by assumption) (Fr.keep (by assumption))); (case k2ₓ => exact Top.keeps (by assumption) (Fr.keep (by assumption))); (case k3ₓ => k_dflt (exact dep_lt (by with_reducible assumption) (by decide))); (case k4ₓ => k_dflt (exact unit_lt (by with_reducible assumption) (by decide))); (case k5ₓ => assumption); intro _ _ _ _ st'ₓ hz'ₓ; (have F'ₓ := Fr.keeps (by assumption) st'ₓ); (have N'ₓ := News.grown (by assumption) st'ₓ))); revert st'ₓ hz'ₓ F'ₓ N'ₓ; intro _ _ _ _))
  k_with "m:call ref" => ((k_dflt (((with_reducible show wpAny _ _ (call (Value.ref 183) [_]) _ _ _); (with_unfolding_all refine' t_read2 _ _ _ ?k1ₓ ?k2ₓ ?k3ₓ ?k4ₓ ?k5ₓ ?k6ₓ ?k7ₓ ?_); (case k6ₓ => with_reducible assumption); (case k7ₓ => with_reducible assumption); (case k1ₓ => exact Frag.In.keeps (by assumption) (Fr.keep (by assumption))); (case k2ₓ => exact Top.keeps (by assumption) (Fr.keep (by assumption))); (case k3ₓ => k_dflt (exact dep_lt (by with_reducible assumption) (by decide))); (case k4ₓ => k_dflt (exact unit_lt (by with_reducible assumption) (by decide))); (case k5ₓ => assumption); intro _ _ _ _ _ st'ₓ hn'ₓ hk'ₓ; (have Fₜ := (by with_reducible assumption : Fr _ _ _ _)); (have Nₜ := (by with_reducible assumption : News _ _ _ _)); (have F'ₓ := Fr.keeps Fₜ st'ₓ); (have N'ₓ := News.addMany Fₜ Nₜ st'ₓ hn'ₓ))); clear Fₜ Nₜ; revert st'ₓ hn'ₓ hk'ₓ F'ₓ N'ₓ; intro _ _ _ _ _))
  k_with "m:call ref" => ((k_dflt (((with_reducible show wpAny _ _ (call (Value.ref 197) [_, _]) _ _ _); (have Nₜ := (by with_reducible assumption : News _ _ _ _)); (with_unfolding_all refine' t_takes2 _ _ _ _ _ _ _ ?k1ₓ ?k2ₓ ?k3ₓ ?k4ₓ ?k5ₓ ?k6ₓ ?k7ₓ ?k8ₓ ?k9ₓ ?k10ₓ ?_); (case k6ₓ => with_reducible assumption); (case k7ₓ => with_reducible assumption); (case k8ₓ => exact fun p hp => (Nₜ p (by simp [hp])).1); (case k9ₓ => omega); (case k10ₓ => first | with_reducible assumption | omega); (case k1ₓ => exact Frag.In.keeps (by assumption) (Fr.keep (by assumption))); (case k2ₓ => exact Top.keeps (by assumption) (Fr.keep (by assumption))); (case k3ₓ => k_dflt (exact dep_lt (by with_reducible assumption) (by decide))); (case k4ₓ => k_dflt (exact unit_lt (by with_reducible assumption) (by decide))); (case k5ₓ => assumption); intro _ _ st'ₓ; (have F'ₓ := Fr.keeps (by assumption) st'ₓ); (have N'ₓ := News.grown (by assumption) st'ₓ))); clear Nₜ; revert st'ₓ F'ₓ N'ₓ; intro _ _ _))
  k_with "m:call ref" => ((k_dflt (((with_reducible show wpAny _ _ (call (Value.ref 202) [_]) _ _ _); (with_unfolding_all refine' t_runs2 _ _ _ ?k1ₓ ?k2ₓ ?k3ₓ ?k4ₓ ?k5ₓ ?k6ₓ ?k7ₓ ?_); (case k6ₓ => with_reducible assumption); (case k7ₓ => omega); (case k1ₓ => exact Frag.In.keeps (by assumption) (Fr.keep (by assumption))); (case k2ₓ => exact Top.keeps (by assumption) (Fr.keep (by assumption))); (case k3ₓ => k_dflt (exact dep_lt (by with_reducible assumption) (by decide))); (case k4ₓ => k_dflt (exact unit_lt (by with_reducible assumption) (by decide))); (case k5ₓ => assumption); intro _ _ _ _ _ st'ₓ hl'ₓ hr'ₓ hs'ₓ hp'ₓ; (have F'ₓ := Fr.keeps (by assumption) st'ₓ); (have N'ₓ := News.grown (by assumption) st'ₓ))); revert st'ₓ hl'ₓ hr'ₓ hs'ₓ hp'ₓ F'ₓ N'ₓ; intro _ _ _ _ _ _ _))
  k_with "m:call ref" => ((k_dflt (((with_reducible show wpAny _ _ (call (Value.ref 209) [_, _, _]) _ _ _); (with_unfolding_all refine' t_told2 _ _ _ _ _ _ _ _ _ ?k1ₓ ?k2ₓ ?k3ₓ ?k4ₓ ?k5ₓ ?k6ₓ ?k7ₓ ?k8ₓ ?k9ₓ ?k10ₓ ?k11ₓ ?k12ₓ ?k13ₓ ?_); (case k6ₓ => exact Heap.IsList.at (by with_reducible assumption) (fun o e => (by with_reducible assumption : Heap.StaysIn _ _) _ _ e)); (case k7ₓ => with_reducible assumption); (case k8ₓ => with_reducible assumption); (case k9ₓ => with_reducible assumption); (case k10ₓ => with_reducible assumption); (case k11ₓ => with_reducible assumption); (case k12ₓ => with_reducible assumption); (case k13ₓ => with_reducible assumption); (case k1ₓ => exact Frag.In.keeps (by assumption) (Fr.keep (by assumption))); (case k2ₓ => exact Top.keeps (by assumption) (Fr.keep (by assumption))); (case k3ₓ => k_dflt (exact dep_lt (by with_reducible assumption) (by decide))); (case k4ₓ => k_dflt (exact unit_lt (by with_reducible assumption) (by decide))); (case k5ₓ => assumption); intro _ _ st'ₓ; (have F'ₓ := Fr.keeps (by assumption) st'ₓ); (have N'ₓ := News.grown (by assumption) st'ₓ))); revert st'ₓ F'ₓ N'ₓ; intro _ _ _))
  k_with "m:compareOp IsNot bool bool" => ((refine Stop.mk ?_))
  trivial
theorem t_run {w : World} {mean mg mb} {A : Around} {s : Shared} {Q E : Value → Shared → Prop} (x : Str) (t : Tok) (O : Addr) (qs : List (Str × Tok)) (P : List Nat)
  (X : (KF w.params).In s.heap) (T : Top qV LV mean mg mb s.heap) (hroom : A.depth + 20 < recursionLimit) (hu : A.units + 200 < cLine) (hh : A.handled = none) (hx : x.cps.toList = P) (hP : okt P) (hl : P.length ≤ 5) (hO : s.heap.IsList O (strValues qs).toArray) (hqs : ∀ q ∈ qs, okt q.1.cps.toList ∧ q.1.length ≤ 15)
  (hq : ∀ h' tk, s.heap.StaysIn h' → Q (.bool true) { s with heap := h', toks := tk }) :
  wpAny (model PySem.Challenge.rw_in0170_01.row.prog w) A (call (.ref 233) [.str x t, .ref O]) Q E s := by
  have c1 : TrOk P := ⟨by lia, (okt_plain hP).1, (okt_plain hP).2⟩
  have l1 := told_len P
  have c2 : WdOk (told P) := ⟨told_okk hP, by simp [told], by lia⟩
  have c3 : TrOk (told P) := ⟨by lia, (okk_plain c2.1).1, (okk_plain c2.1).2⟩
  have l2 := word_len (told P)
  have c4 : TrOk (word (told P)) := ⟨by lia, (word_plain c2.1).1, (word_plain c2.1).2⟩
  have l3 : (told (told P)).length ≤ 3000 := Nat.le_trans (told_len _) (by lia)
  have l4 : (told (word (told P))).length ≤ 3000 := Nat.le_trans (told_len _) (by lia)
  revert X
  k_fill
  intro X
  refine' enter [(Str.ofString "p", .str x t), (Str.ofString "others", .ref O)] X T ?k1 ?k6 ?k7 ?k9 ?kB ?_ ?c2 ?c3 ?c4 ?c5
  case k1 => lia
  case k6 => k_is
  case k7 => k_is
  case k9 => exact BindsTo.of_eq rfl
  case c5 => decide
  case kB => exact locs rfl
  case c2 => exact rfl
  case c3 => exact rfl
  case c4 => exact rfl
  intro L h₁ F N
  k_steps
  rename_i zt tzt hst5 hzt _ _ _ _ zp tzp _ _ _ _ a1 vs1 nw1 _ hn1 hk1 _ _ zw tzw _ _ _ _ zc tzc _ _ _ _ a2 vs2 nw2 _ hn2 hk2 D9 h9 l9 h10 h11 h12 F9 N9
  refine iter_listP (items := (strValues qs).toArray) (fun i m news => news = nw2 ++ (nw1 ++ []) ∧ ∀ y, y ∉ [Str.ofString "q", Str.ofString "name"] → m y = (fun y => if y = Str.ofString "plain" then some (Value.ref a1) else if y = Str.ofString "coded" then some (Value.ref a2) else if y = Str.ofString "told" then some (Value.str zt tzt) else List.lookup y [(Str.ofString "p", Value.str x t), (Str.ofString "others", Value.ref O)].reverse) y) hh F9 (fun p hp => N9 p (.tail _ hp)) ⟨rfl, fun _ _ => rfl⟩ ?_ ?_ ?_
  · exact fun i m news h _ F N => Heap.IsList.at hO fun o e => F.keep _ _ e
  · intro I i v m₁ news₁ h tk3 oI hv hJ off F3 N3 P hPP
    obtain ⟨rfl, hm⟩ := hJ
    rw [envN hm] at F3
    generalize m₁ = u at F3
    obtain ⟨⟨q1, q2⟩, hqi, rfl⟩ : ∃ q : Str × Tok, qs[i]? = some q ∧ v = .str q.1 q.2 := by
      rw [List.getElem?_toArray, strValues, List.getElem?_map] at hv
      cases e : qs[i]? with
      | none => rw [e] at hv; cases hv
      | some q => rw [e] at hv; exact ⟨q, rfl, (Option.some.inj hv).symm⟩
    obtain ⟨hq1, hq2⟩ := hqs _ (List.mem_of_getElem? hqi)
    dsimp only at hq1 hq2
    generalize hQ : q1.cps.toList = Qc at hq1
    have hql : Qc.length ≤ 15 := by rw [← hQ, len_cps]; exact hq2
    have d1 : TrOk Qc := ⟨by lia, (okt_plain hq1).1, (okt_plain hq1).2⟩
    have e1 := told_len Qc
    have d2 : WdOk (told Qc) := ⟨told_okk hq1, by simp [told], by lia⟩
    have e2 := word_len (told Qc)
    have e3 : (told Qc).length ≤ 3000 := by lia
    have e4 : (word (told Qc)).length ≤ 3000 := by lia
    clear hv hqi hqs
    k_steps
    unfold Stop
    refine isnot_bool ?_
    rw [main_plain hP hq1, bne_self_eq_false]
    k_steps
    unfold Stop
    refine isnot_bool ?_
    rw [main_coded hP hq1, bne_self_eq_false]
    k_steps
    refine hPP _ _ (mkT (news₂ := nw2 ++ (nw1 ++ [])) (by assumption) (by assumption) off ⟨rfl, fun y h1 => ?_⟩)
    simp only [List.mem_cons, List.not_mem_nil, or_false, not_or] at h1
    simp [h1.1, h1.2]
  · rintro m₁ news₁ h tk3 ⟨rfl, hm⟩ F3 N3
    rw [envN hm] at F3
    generalize m₁ = u at F3
    k_steps
    exact hq _ _ (Fr.keep F3)
theorem rows_Frun_end : True := by
  k_with_none
  trivial
end
section
theorem ints_at {ws : List Value} {zs : List Int} (h : IntsAre ws zs) : ∀ k, k < ws.length → ∃ z t, ws[k]? = some (.int z t) := by
  induction h with
  | nil => intro k hk; cases hk
  | cons n t h ih =>
    intro k hk
    cases k with
    | zero => exact ⟨n, t, rfl⟩
    | succ k => exact ih k (by simpa using hk)
theorem ints_snoc {ws : List Value} {zs : List Int} (h : IntsAre ws zs) (z : Int) (t : Tok) : IntsAre (ws ++ [.int z t]) (zs ++ [z]) := by
  induction h with
  | nil => exact .cons _ _ .nil
  | cons n t h ih => exact .cons _ _ ih
theorem ints_five {us : List Value} {ys : List Int} (h : IntsAre us ys) (h5 : us.length = 5) : ∃ y0 t0 y1 t1 y2 t2 y3 t3 y4 t4, us = [.int y0 t0, .int y1 t1, .int y2 t2, .int y3 t3, .int y4 t4] := by
  cases h with
  | nil => cases h5
  | cons y0 t0 h =>
    cases h with
    | nil => cases h5
    | cons y1 t1 h =>
      cases h with
      | nil => cases h5
      | cons y2 t2 h =>
        cases h with
        | nil => cases h5
        | cons y3 t3 h =>
          cases h with
          | nil => cases h5
          | cons y4 t4 h =>
            cases h with
            | nil => exact ⟨_, _, _, _, _, _, _, _, _, _, rfl⟩
            | cons y5 t5 h => simp at h5
theorem itemI {prog : Program} {w : World} {A : Around} {s : Shared} {E : Value → Shared → Prop} {value slice : Expr} {l : Addr} {ws : List Value} {zs : List Int} {k : Int} {u : Tok} {Q : Value → Shared → Prop} (hl : s.heap.IsList l ws.toArray) (hI : IntsAre ws zs) (h0 : 0 ≤ k) (h1 : k < (ws.length : Int)) (h2 : ws.length ≤ 1000)
    (h : ∀ z t, Q (.int z t) s)
    (hs : subscripted slice false (.ref l) (.int k u) = operate [.ref l, .int k u] (getItem (.ref l) (.int k u))) (hg : ∀ r, letTemporaryGo value (.ref l) r = pure ()) :
    wpAny (model prog w) A (subscriptTail value slice (.ref l) (.int k u)) Q E s := by
  obtain ⟨z, t, e⟩ := ints_at hI k.toNat (by lia)
  exact itemL hl h0 (by lia) (by rw [List.getElem?_toArray]; exact e) (h z t) hs hg
theorem sv_snoc {qs : List (Str × Tok)} {z : Str} {tz : Tok} : strValues qs ++ [Value.str z tz] = strValues (qs ++ [(z, tz)]) := by simp [strValues]
def Mark (n : Nat) : Prop := True
theorem ne_lt {a b : Nat} (h : a ≠ b) : a < b ∨ b < a := Nat.lt_or_gt_of_ne h
theorem News.drop2 {h₀ h : Heap} {L : Addr} {a b : Addr × Obj} {l : List (Addr × Obj)} (N : News h₀ L h (a :: b :: l)) : News h₀ L h (a :: l) := fun p hp => N p (by
  rcases List.mem_cons.mp hp with h | h
  · rw [h]; exact .head _
  · exact .tail _ (.tail _ h))
abbrev Cells (L : Addr) (o1 o2 o3 o4 : Obj) : List (Addr × Obj) := [(L + 1 + 1 + 1 + 1, o4), (L + 1 + 1 + 1, o3), (L + 1 + 1, o2), (L + 1, o1)]
abbrev OffC (L D : Nat) : Prop := D < L + 1 ∨ L + 1 + 1 + 1 + 1 < D
abbrev Lt4 (L D : Nat) : Prop := L + 1 + 1 + 1 + 1 < D
theorem offC {L D : Nat} (h : L + 1 + 1 + 1 + 1 ≠ D ∧ L + 1 + 1 + 1 ≠ D ∧ L + 1 + 1 ≠ D ∧ L + 1 ≠ D) : OffC L D := by
  obtain ⟨p1, p2, p3, p4⟩ := h
  unfold OffC
  lia
theorem cells_off {h₀ h : Heap} {L D a : Addr} {o o1 o2 o3 o4 : Obj} (N : News h₀ L h [(D, o), (L + 1 + 1 + 1 + 1, o4), (L + 1 + 1 + 1, o3), (L + 1 + 1, o2), (L + 1, o1)]) (hn : h.get? a = none) : OffC L a ∧ (a < D ∨ D < a) := by
  have g : ∀ p ∈ [(D, o), (L + 1 + 1 + 1 + 1, o4), (L + 1 + 1 + 1, o3), (L + 1 + 1, o2), (L + 1, o1)], p.1 ≠ a := fun p hp q => by
    have := (N p hp).1
    rw [q, hn] at this; cases this
  refine ⟨offC ⟨g _ (.tail _ (.head _)), g _ (.tail _ (.tail _ (.head _))), g _ (.tail _ (.tail _ (.tail _ (.head _)))), g _ (.tail _ (.tail _ (.tail _ (.tail _ (.head _)))))⟩, ?_⟩
  rcases ne_lt (g _ (.head _)) with h | h
  · exact .inr h
  · exact .inl h
def Inv1 (s : Shared) (L : Addr) (f : Flow) (s' : Shared) : Prop := f = .next ∧ ∃ h' tk m D ws zs o1 o2 o3 o4, s' = { s with heap := h', toks := tk } ∧ Fr s.heap L h' m ∧ News s.heap L h' ((D, W.listOf (List.toArray ws) 0) :: Cells L o1 o2 o3 o4) ∧
  o1.data = .cell (some (.ref D)) ∧ o2.data = .cell none ∧ o3.data = .cell none ∧ o4.data = .cell none ∧ IntsAre ws zs ∧ 1 ≤ zs.length ∧ zs.length ≤ 5 ∧ Lt4 L D
theorem Inv1.mkI {s : Shared} {L : Addr} {h' : Heap} {tk : Nat} {m D ws zs o1 o2 o3 o4}
    (q0 : Fr s.heap L h' m) (q1 : News s.heap L h' ((D, W.listOf (List.toArray ws) 0) :: Cells L o1 o2 o3 o4)) (q2 : o1.data = .cell (some (.ref D))) (q3 : o2.data = .cell none) (q4 : o3.data = .cell none) (q5 : o4.data = .cell none) (q6 : IntsAre ws zs) (q7 : 1 ≤ zs.length) (q8 : zs.length ≤ 5) (q9 : Lt4 L D) : Inv1 s L .next { s with heap := h', toks := tk } :=
  ⟨rfl, h', tk, m, D, ws, zs, o1, o2, o3, o4, rfl, q0, q1, q2, q3, q4, q5, q6, q7, q8, q9⟩
theorem Inv1.elim {s : Shared} {L : Addr} {f : Flow} {s' : Shared} {C : Prop} (I : Inv1 s L f s')
    (k : ∀ h' tk m D ws zs o1 o2 o3 o4, f = .next → s' = { s with heap := h', toks := tk } → Fr s.heap L h' m → News s.heap L h' ((D, W.listOf (List.toArray ws) 0) :: Cells L o1 o2 o3 o4) → o1.data = .cell (some (.ref D)) → o2.data = .cell none → o3.data = .cell none → o4.data = .cell none → IntsAre ws zs → 1 ≤ zs.length → zs.length ≤ 5 → Lt4 L D → C) : C := by
  obtain ⟨q, h', tk, m, D, ws, zs, o1, o2, o3, o4, q0, q1, q2, q3, q4, q5, q6, q7, q8, q9, q10⟩ := I
  exact k h' tk m D ws zs o1 o2 o3 o4 q q0 q1 q2 q3 q4 q5 q6 q7 q8 q9 q10
def Inv2 (s : Shared) (L : Addr) (f : Flow) (s' : Shared) : Prop := f = .next ∧ ∃ h' tk m D y0 t0 y1 t1 y2 t2 y3 t3 y4 t4 o1 o2 o3 o4, s' = { s with heap := h', toks := tk } ∧ Fr s.heap L h' m ∧ News s.heap L h' ((D, W.listOf #[.int y0 t0, .int y1 t1, .int y2 t2, .int y3 t3, .int y4 t4] 5) :: Cells L o1 o2 o3 o4) ∧
  o2.data = .cell (some (.ref D)) ∧ o3.data = .cell none ∧ o4.data = .cell none ∧ OffC L D
theorem Inv2.mkI {s : Shared} {L : Addr} {h' : Heap} {tk : Nat} {m D y0 t0 y1 t1 y2 t2 y3 t3 y4 t4 o1 o2 o3 o4}
    (q0 : Fr s.heap L h' m) (q1 : News s.heap L h' ((D, W.listOf #[.int y0 t0, .int y1 t1, .int y2 t2, .int y3 t3, .int y4 t4] 5) :: Cells L o1 o2 o3 o4)) (q2 : o2.data = .cell (some (.ref D))) (q3 : o3.data = .cell none) (q4 : o4.data = .cell none) (q5 : OffC L D) : Inv2 s L .next { s with heap := h', toks := tk } :=
  ⟨rfl, h', tk, m, D, y0, t0, y1, t1, y2, t2, y3, t3, y4, t4, o1, o2, o3, o4, rfl, q0, q1, q2, q3, q4, q5⟩
theorem Inv2.elim {s : Shared} {L : Addr} {f : Flow} {s' : Shared} {C : Prop} (I : Inv2 s L f s')
    (k : ∀ h' tk m D y0 t0 y1 t1 y2 t2 y3 t3 y4 t4 o1 o2 o3 o4, f = .next → s' = { s with heap := h', toks := tk } → Fr s.heap L h' m → News s.heap L h' ((D, W.listOf #[.int y0 t0, .int y1 t1, .int y2 t2, .int y3 t3, .int y4 t4] 5) :: Cells L o1 o2 o3 o4) → o2.data = .cell (some (.ref D)) → o3.data = .cell none → o4.data = .cell none → OffC L D → C) : C := by
  obtain ⟨q, h', tk, m, D, y0, t0, y1, t1, y2, t2, y3, t3, y4, t4, o1, o2, o3, o4, q0, q1, q2, q3, q4, q5, q6⟩ := I
  exact k h' tk m D y0 t0 y1 t1 y2 t2 y3 t3 y4 t4 o1 o2 o3 o4 q q0 q1 q2 q3 q4 q5 q6
theorem cols_ok {x : Str} {n : Nat} {v : Int} (hx : x.cps.toList = listL n) (hn : n < 65536) (h0 : 0 ≤ v) (h1 : v < 6) : (Txt.slice (Txt.slice x (some v) none) none (some 5)).length = 5 ∧ okr (Txt.slice (Txt.slice x (some v) none) none (some 5)).cps.toList := by
  obtain ⟨k, rfl⟩ := Int.eq_ofNat_of_zero_le h0
  have hk : k < 6 := by lia
  obtain ⟨g1, g2⟩ := list_sig n hn
  have e1 : (Txt.slice x (some (k : Int)) none).cps.toList = (listL n).drop k := by rw [slice_from, hx]
  have l1 : (Txt.slice x (some (k : Int)) none).length = 10 - k := by rw [← len_cps, e1, List.length_drop, g1]
  have e2 : (Txt.slice (Txt.slice x (some (k : Int)) none) none (some 5)).cps.toList = ((listL n).drop k).take 5 := by
    rw [slice_cps, e1, l1]
    have a : kms_lo none (10 - k) = 0 := rfl
    have b : kms_hi (some 5) (10 - k) = 5 := by
      have : ∀ m : Nat, 5 ≤ m → kms_hi (some 5) m = 5 := fun m hm => by simp [kms_hi]; lia
      exact this _ (by lia)
    rw [a, b, List.drop_zero]
  refine ⟨by rw [← len_cps, e2, List.length_take, List.length_drop, g1]; lia, fun c hc => ?_⟩
  rw [e2] at hc
  exact g2 c (List.mem_of_mem_drop (List.mem_of_mem_take hc))
theorem one_okt : ∀ {ps : List (Str × Tok)}, (∀ p ∈ ps, One p) → okt (ps.flatMap fun p => p.1.cps.toList) ∧ (ps.flatMap fun p => p.1.cps.toList).length = ps.length ∧ (ps.map (·.1.length)).sum = ps.length
  | [], _ => ⟨fun c hc => (by cases hc), rfl, rfl⟩
  | p :: ps, h => by
    obtain ⟨i1, i2, i3⟩ := one_okt fun q hq => h q (.tail _ hq)
    obtain ⟨c, hc, hs⟩ := h p (.head _)
    have hl : p.1.length = 1 := by rw [← len_cps, hc]; rfl
    refine ⟨fun d hd => ?_, ?_, ?_⟩
    · rw [List.flatMap_cons, hc] at hd
      rcases List.mem_append.mp hd with hd | hd
      · rw [List.mem_singleton.mp hd]; exact hs
      · exact i1 d hd
    · rw [List.flatMap_cons, hc, List.length_append, i2]; simp; lia
    · rw [List.map_cons, List.sum_cons, i3, hl, List.length_cons]; lia
theorem t_listed2 {w : World} {mean mg mb} {A : Around} {s : Shared} {Q E : Value → Shared → Prop} (v : Int) (u0 : Tok)
  (X : (KF w.params).In s.heap) (T : Top qV LV mean mg mb s.heap) (hroom : A.depth + 1 < recursionLimit) (hu : A.units + 10 < cLine) (hh : A.handled = none) (h0 : 0 ≤ v) (h1 : v < 65536)
  (hq : ∀ h' tk z tz, s.heap.StaysIn h' → z.cps.toList = listL v.toNat → Q (.str z tz) { s with heap := h', toks := tk }) :
  wpAny (model PySem.Challenge.rw_in0170_01.row.prog w) A (call (.ref 178) [.int v u0]) Q E s := by
  obtain ⟨n, rfl⟩ := Int.eq_ofNat_of_zero_le h0
  exact t_listed n u0 X T hroom hu hh (by lia) hq
theorem t_mode2 {w : World} {mean mg mb} {A : Around} {s : Shared} {Q E : Value → Shared → Prop} (v : Int) (u0 : Tok)
  (X : (KF w.params).In s.heap) (T : Top qV LV mean mg mb s.heap) (hroom : A.depth + 2 < recursionLimit) (hu : A.units + 20 < cLine) (hh : A.handled = none) (h0 : 0 ≤ v) (h1 : v < 65536)
  (hq : ∀ h' tk z tz, s.heap.StaysIn h' → z.cps.toList = listL v.toNat → Q (.str z tz) { s with heap := h', toks := tk }) :
  wpAny (model PySem.Challenge.rw_in0170_01.row.prog w) A (call (.ref 171) [.int v u0]) Q E s := by
  obtain ⟨n, rfl⟩ := Int.eq_ofNat_of_zero_le h0
  exact t_mode n u0 X T hroom hu hh (by lia) fun h' tk z tz st hz => hq h' tk z tz st (by rw [hz]; exact mode_list n (by lia))
theorem rows_Flaw : True := by
  k_with_none
  k_with "m:storeName" => (dsimp (config := { beta := false, eta := false, iota := false, proj := true, zeta := false }) only; walk_at "storeName")
  k_with "m:call builtin:len" => (k_dflt (((with_reducible show wpAny _ _ (call (Value.builtin "len") [Value.ref _]) _ _ _); (with_unfolding_all refine' len_L ?k1ₓ ?k2ₓ ?_); (case k1ₓ => is_list); (case k2ₓ => first | assumption | (simp only [List.size_toArray, List.length_map, len_strValues, List.length_cons, List.length_nil]; lia)))))
  k_with "m:binaryOp FloorDiv int int" => (k_dflt ((refine floordiv_g ?kaₓ ?kbₓ ?_; (case kaₓ => decide); (case kbₓ => decide); intro _ _)))
  k_with "m:call builtin:str.join" => (k_dflt (((refine' join_L ?k1ₓ ?k2ₓ ?_); (case k1ₓ => is_list); (case k2ₓ => first | with_reducible assumption | lia); intro _ _ _ _)))
  k_with "m:exec Assign" => (((with_reducible have mk' : Mark 1 := by with_reducible assumption); (clear mk'); (with_reducible show wpAny _ _ (exec (Stmt.Assign [Expr.Name (Str.ofString "numbers") _] _ _) _) _ _ _); (refine Stop.mk ?_)))
  k_with "m:exec Assign" => (((with_reducible have mk' : Mark 2 := by with_reducible assumption); (clear mk'); (with_reducible show wpAny _ _ (exec (Stmt.Assign [Expr.Name (Str.ofString "drawn") _] _ _) _) _ _ _); (refine Stop.mk ?_)))
  k_with "m:binaryOp Mod int int" => ((k_dflt ((refine mod_g ?kaₓ ?_; (case kaₓ => first | decide | (simp only [List.size_toArray]; lia)); intro _ _ _ hv1'ₓ; (try simp only [List.size_toArray] at hv1'ₓ))); revert hv1'ₓ; intro _))
  k_with "m:call ref" => ((k_dflt (((with_reducible show wpAny _ _ (call (Value.ref 178) [_]) _ _ _); (with_unfolding_all refine' t_listed2 _ _ ?k1ₓ ?k2ₓ ?k3ₓ ?k4ₓ ?k5ₓ ?k6ₓ ?k7ₓ ?_); (case k6ₓ => with_reducible assumption); (case k7ₓ => with_reducible assumption); (case k1ₓ => exact Frag.In.keeps (by assumption) (Fr.keep (by assumption))); (case k2ₓ => exact Top.keeps (by assumption) (Fr.keep (by assumption))); (case k3ₓ => k_dflt (exact dep_lt (by with_reducible assumption) (by decide))); (case k4ₓ => k_dflt (exact unit_lt (by with_reducible assumption) (by decide))); (case k5ₓ => assumption); intro _ _ _ _ st'ₓ hz'ₓ; (have F'ₓ := Fr.keeps (by assumption) st'ₓ); (have N'ₓ := News.grown (by assumption) st'ₓ))); revert st'ₓ hz'ₓ F'ₓ N'ₓ; intro _ _ _ _))
  k_with "m:call ref" => ((k_dflt (((with_reducible show wpAny _ _ (call (Value.ref 171) [_]) _ _ _); (with_unfolding_all refine' t_mode2 _ _ ?k1ₓ ?k2ₓ ?k3ₓ ?k4ₓ ?k5ₓ ?k6ₓ ?k7ₓ ?_); (case k6ₓ => with_reducible assumption); (case k7ₓ => with_reducible assumption); (case k1ₓ => exact Frag.In.keeps (by assumption) (Fr.keep (by assumption))); (case k2ₓ => exact Top.keeps (by assumption) (Fr.keep (by assumption))); (case k3ₓ => k_dflt (exact dep_lt (by with_reducible assumption) (by decide))); (case k4ₓ => k_dflt (exact unit_lt (by with_reducible assumption) (by decide))); (case k5ₓ => assumption); intro _ _ _ _ st'ₓ hz'ₓ; (have F'ₓ := Fr.keeps (by assumption) st'ₓ); (have N'ₓ := News.grown (by assumption) st'ₓ))); revert st'ₓ hz'ₓ F'ₓ N'ₓ; intro _ _ _ _))
  k_with "m:call ref" => ((k_dflt (((with_reducible show wpAny _ _ (call (Value.ref 214) [_, _]) _ _ _); (with_unfolding_all refine' t_p _ _ _ _ ?k1ₓ ?k2ₓ ?k3ₓ ?k4ₓ ?k5ₓ ?k6ₓ ?k7ₓ ?_); (case k6ₓ => exact (cols_ok (by with_reducible assumption) (by with_reducible assumption) (by with_reducible assumption) (by with_reducible assumption)).1); (case k7ₓ => exact (cols_ok (by with_reducible assumption) (by with_reducible assumption) (by with_reducible assumption) (by with_reducible assumption)).2); (case k1ₓ => exact Frag.In.keeps (by assumption) (Fr.keep (by assumption))); (case k2ₓ => exact Top.keeps (by assumption) (Fr.keep (by assumption))); (case k3ₓ => k_dflt (exact dep_lt (by with_reducible assumption) (by decide))); (case k4ₓ => k_dflt (exact unit_lt (by with_reducible assumption) (by decide))); (case k5ₓ => assumption); intro _ _ _ _ _ st'ₓ hl'ₓ hn'ₓ h5'ₓ ho'ₓ; (have Fₜ := (by with_reducible assumption : Fr _ _ _ _)); (have Nₜ := (by with_reducible assumption : News _ _ _ _)); (have F'ₓ := Fr.keeps Fₜ st'ₓ); (have N'ₓ := News.addNew Fₜ Nₜ st'ₓ hl'ₓ hn'ₓ); (have hoff'ₓ := cells_off Nₜ hn'ₓ); (unfold OffC at hoff'ₓ); (obtain ⟨ho1'ₓ, ho2'ₓ, ho3'ₓ⟩ := one_okt ho'ₓ))); clear Fₜ Nₜ; revert st'ₓ hl'ₓ hn'ₓ h5'ₓ ho'ₓ F'ₓ N'ₓ hoff'ₓ ho1'ₓ ho2'ₓ ho3'ₓ; intro _ _ _ _ _ _ _ _ _ _ _))
  k_with "m:call ref" => ((k_dflt (((with_reducible show wpAny _ _ (call (Value.ref 221) [_, _, _]) _ _ _); (with_unfolding_all refine' t_q _ _ _ _ _ _ ?k1ₓ ?k2ₓ ?k3ₓ ?k4ₓ ?k5ₓ ?k6ₓ ?k7ₓ ?k8ₓ ?k9ₓ ?k10ₓ ?_); (case k6ₓ => exact (cols_ok (by with_reducible assumption) (by with_reducible assumption) (by with_reducible assumption) (by with_reducible assumption)).1); (case k7ₓ => exact (cols_ok (by with_reducible assumption) (by with_reducible assumption) (by with_reducible assumption) (by with_reducible assumption)).2); (case k8ₓ => exact News.isList (by with_reducible assumption) (by k_mem)); (case k9ₓ => with_reducible assumption); (case k10ₓ => with_reducible assumption); (case k1ₓ => exact Frag.In.keeps (by assumption) (Fr.keep (by assumption))); (case k2ₓ => exact Top.keeps (by assumption) (Fr.keep (by assumption))); (case k3ₓ => k_dflt (exact dep_lt (by with_reducible assumption) (by decide))); (case k4ₓ => k_dflt (exact unit_lt (by with_reducible assumption) (by decide))); (case k5ₓ => assumption); intro _ _ _ _ st'ₓ hok'ₓ hl15'ₓ; (have F'ₓ := Fr.keeps (by assumption) st'ₓ); (have N'ₓ := News.grown (by assumption) st'ₓ))); revert st'ₓ hok'ₓ hl15'ₓ F'ₓ N'ₓ; intro _ _ _ _ _))
  k_with "m:call ref" => ((k_dflt (((with_reducible show wpAny _ _ (call (Value.ref 233) [_, _]) _ _ _); (with_unfolding_all refine' t_run _ _ _ _ _ ?k1ₓ ?k2ₓ ?k3ₓ ?k4ₓ ?k5ₓ ?k6ₓ ?k7ₓ ?k8ₓ ?k9ₓ ?k10ₓ ?_); (case k6ₓ => with_reducible assumption); (case k7ₓ => with_reducible assumption); (case k8ₓ => lia); (case k9ₓ => exact News.isList (by with_reducible assumption) (by k_mem)); (case k10ₓ => with_reducible assumption); (case k1ₓ => exact Frag.In.keeps (by assumption) (Fr.keep (by assumption))); (case k2ₓ => exact Top.keeps (by assumption) (Fr.keep (by assumption))); (case k3ₓ => k_dflt (exact dep_lt (by with_reducible assumption) (by decide))); (case k4ₓ => k_dflt (exact unit_lt (by with_reducible assumption) (by decide))); (case k5ₓ => assumption); intro _ _ st'ₓ; (have F'ₓ := Fr.keeps (by assumption) st'ₓ); (have N'ₓ := News.grown (by assumption) st'ₓ))); revert st'ₓ F'ₓ N'ₓ; intro _ _ _))
  k_with "m:eval ListComp" => (k_dflt (((with_reducible have mk' : Mark 4 := by with_reducible assumption); (clear mk'); k_dflt (refine LCg.ListComp_U (F₀ := by with_reducible assumption) (by with_unfolding_all rfl) (by decide) (by rfl) (by decide) (by rfl) ?_))))
  k_with "m:compareOp NotEq str str" => ((refine Stop.mk ?_))
  trivial
theorem t_law {w : World} {mean mg mb} {A : Around} {s : Shared} {Q E : Value → Shared → Prop} (l : Addr) (vs : List Value) (ns : List Int)
  (X : (KF w.params).In s.heap) (T : Top qV LV mean mg mb s.heap) (hroom : A.depth + 30 < recursionLimit) (hu : A.units + 300 < cLine) (hh : A.handled = none) (hls : s.heap.IsList l vs.toArray) (hv : IntsAre vs ns) (hn : ns.length ≤ 63)
  (hq : ∀ h' tk, s.heap.StaysIn h' → Q (.bool true) { s with heap := h', toks := tk }) :
  wpAny (model PySem.Challenge.rw_in0170_01.row.prog w) A (call (.ref 238) [.ref l]) Q E s := by
  revert X
  k_fill
  intro X
  refine' enterC [(Str.ofString "script", .ref l)] X T ?k1 ?k6 ?k7 ?k9 ?kB ?kD ?_ ?c2 ?c3 ?c4
  case k1 => lia
  case k6 => k_is
  case k7 => k_is
  case k9 => exact BindsTo.of_eq rfl
  case kB => exact rfl
  case kD => decide +kernel
  case c2 => exact rfl
  case c3 => exact rfl
  case c4 => exact rfl
  intro L h₁ tk₁ cells₁ F N Y
  k_cells Y
  try dsimp only
  have mk1 : Mark 1 := trivial
  k_steps
  unfold Stop
  refine wpAny_mono (Q := Inv1 s L) ?_ (fun f s' hI => ?_) (fun _ _ e => e)
  · clear mk1
    k_steps
    · rename News _ _ _ _ => N8
      rename Fr _ _ _ _ => F8
      rename IntsAre _ (List.take 5 ns) => hI8
      rename _ < _ ∧ _ => hl8
      exact Inv1.mkI F8 N8 (by assumption) (by assumption) (by assumption) (by assumption) hI8 (by lia) (by lia) hl8.1
    · rename News _ _ _ _ => N8
      rename Fr _ _ _ _ => F8
      rename _ < _ ∧ _ => hl8
      exact Inv1.mkI F8 (News.drop2 N8) (by assumption) (by assumption) (by assumption) (by assumption) (.cons _ _ (.cons _ _ (.cons _ _ (.cons _ _ (.cons _ _ .nil))))) (by decide) (by decide) hl8.2.1
  · clear F N mk1
    have mk2 : Mark 2 := trivial
    refine hI.elim ?_
    clear hI
    rintro h5 tk5 m5 D ws zs o1 o2 o3 o4 rfl rfl F5 N5 e1 e2 e3 e4 hI hz1 hz2 hlt
    have N5 : News s.heap L h5 [(D, W.listOf ws.toArray 0), (L + 1 + 1 + 1 + 1, o4), (L + 1 + 1 + 1, o3), (L + 1 + 1, o2), (L + 1, o1)] := N5
    have hwl : ws.length = zs.length := hI.length
    unfold Lt4 at hlt
    k_steps
    unfold Stop
    refine wpAny_mono (Q := Inv2 s L) ?_ (fun f s' hI2 => ?_) (fun _ _ e => e)
    · clear mk2
      k_steps
      rename IsRange _ _ _ _ _ _ _ _ => hr
      rename Fr _ _ _ _ => F6
      rename News _ _ _ _ => N6
      refine LCg.CompSrc.range hh F6 N6 hr (by decide) (n := 5) rfl (by rw [PySem.sizeLine_eq]; decide) fun g => ?_
      clear hr F6 N6
      suffices hgen : ∀ j i us (ys : List Int), i + j = 5 → List.length us = i → IntsAre us ys → LCg.CompRest _ w _ _ _ _ _ _ _ _ _ _ _ _ _ j i us _ from hgen 5 0 [] [] rfl rfl .nil
      intro j
      induction j with
      | zero =>
        intro i us ys hi hus hys
        refine LCg.CompRest.zero ?_
        k_steps
        rename _ ≠ _ ∧ _ => ho
        obtain ⟨p1, p2⟩ := ho
        have p1 := ne_lt p1
        have p3 := offC p2
        clear p2
        unfold OffC at p3
        k_steps
        rename Fr _ _ _ _ => F'
        rename News _ _ _ _ => N'
        rename _ = Data.cell (some _) => d'
        obtain ⟨y0, t0, y1, t1, y2, t2, y3, t3, y4, t4, rfl⟩ := ints_five hys (by lia)
        exact Inv2.mkI F' (News.drop2 N') d' e3 e4 p3
      | succ j ih =>
        intro i us ys hi hus hys
        refine LCg.CompRest.succ ?_
        intro v I oI C oC D7 m2 h7 tk7 E' hv hC hx' F7 N7 off7 ne7
        obtain ⟨tv, rfl⟩ := hv
        have mk3 : Mark 3 := trivial
        dsimp only
        k_steps
        refine LCg.CompEnd.intro (by assumption) (by assumption) [(D, W.listOf ws.toArray 0), (L + 1 + 1 + 1 + 1, o4), (L + 1 + 1 + 1, o3), (L + 1 + 1, o2), (L + 1, o1)] (fun p hp => .tail _ hp) off7 trivial ?_
        exact ih _ _ _ (by lia) (by rw [List.length_append, hus]; rfl) (ints_snoc hys _ _)
    · rename News _ _ _ _ => N6
      rename Fr _ _ _ _ => F6
      clear N6 F6 mk2 hI hz1 hz2 hlt hwl e1 e2 e3 e4
      refine hI2.elim ?_
      clear hI2
      rintro h9 tk9 m9 D y0 t0 y1 t1 y2 t2 y3 t3 y4 t4 o1 o2 o3 o4 rfl rfl F9 N9 e2 e3 e4 hoff
      have N9 : News s.heap L h9 [(D, W.listOf #[.int y0 t0, .int y1 t1, .int y2 t2, .int y3 t3, .int y4 t4] 5), (L + 1 + 1 + 1 + 1, o4), (L + 1 + 1 + 1, o3), (L + 1 + 1, o2), (L + 1, o1)] := N9
      unfold OffC at hoff
      k_steps
      unfold Stop
      rename_i v1 hv1 hv10 hv11 _ _ z1 tz1 _ hz1 _ _ _ _ v2 hv2 hv20 hv21 _ _ z2 tz2 _ hz2 _ _
      have hv12 : v2 = v1 := hv2.trans hv1.symm
      rw [hv12] at hz2
      have hn16 : v1.toNat < 65536 := by lia
      have hz1l : z1.length = 10 := by rw [← len_cps, hz1]; exact (list_sig _ hn16).1
      clear hv12 hv1 hv2 hv10 hv11 hv20 hv21
      refine neS (by rw [hz2, hz1]) ?_
      k_steps
      refine wpAny_Try_except (wpAny_mono (E := NoE) ?_ (fun _ _ q => q) (fun _ _ e => e.elim))
      have mk4 : Mark 4 := trivial
      k_steps
      rename_i hC oC dC tq vq hvq hx tkx aM psM kM stM hlM hnM h5M hoM hoffM ho1 ho2 ho3 hA oM dM zj tj kj hzj lS hS F6 N6 lt6
      clear mk4
      refine LCg.CompSrc.ledger hh F6 N6 (.head _) (by rw [PySem.sizeLine_eq]; exact Nat.le_of_ble_eq_true rfl) fun g => ?_
      clear F6 N6
      suffices hgen : ∀ j i (qs : List (Str × Tok)), i + j = 3 → qs.length = i → (∀ q ∈ qs, okt q.1.cps.toList ∧ q.1.length ≤ 15) → LCg.CompRest _ w _ _ _ _ _ _ _ _ _ _ _ _ _ j i (strValues qs) _ from hgen 3 0 [] rfl rfl (fun q hq => nomatch hq)
      intro j
      induction j with
      | zero =>
        intro i qs hi hqs hqo
        refine LCg.CompRest.zero ?_
        k_steps
        exact hq _ _ (Fr.keep (by assumption))
      | succ j ih =>
        intro i qs hi hqs hqo
        refine LCg.CompRest.succ ?_
        intro v I oI C oD D7 m2 h7 tk7 E' hv hC hx' F7 N7 off7 ne7
        obtain ⟨n, tn, rfl, hn0, hn5⟩ : ∃ n tn, v = .int n tn ∧ 0 ≤ n ∧ n < 5 := by
          have : i = 0 ∨ i = 1 ∨ i = 2 := by lia
          rcases this with rfl | rfl | rfl
          · exact ⟨2, _, (Option.some.inj hv).symm, by decide, by decide⟩
          · exact ⟨3, _, (Option.some.inj hv).symm, by decide, by decide⟩
          · exact ⟨4, _, (Option.some.inj hv).symm, by decide, by decide⟩
        have mk3 : Mark 3 := trivial
        clear hv
        dsimp only
        k_steps
        refine LCg.CompEnd.intro (by assumption) (by assumption) [(lS, _), (aM, _), (D, _), (L + 1 + 1 + 1 + 1, oM), (L + 1 + 1 + 1, oC), (L + 1 + 1, o2), (L + 1, o1)] (fun p hp => hp) off7 (.inr ⟨_, .head _, rfl, _, rfl⟩) ?_
        rename okt _ => hok
        rw [sv_snoc]
        refine ih _ _ (by lia) (by rw [List.length_append, hqs]; rfl) fun q hq2 => ?_
        rcases List.mem_append.mp hq2 with hq2 | hq2
        · exact hqo q hq2
        · rw [List.mem_singleton.mp hq2]
          exact ⟨hok, by assumption⟩
theorem rows_Flaw_end : True := by
  k_with_none
  trivial
end
section
def LawTrue : Prop := ∀ (w : World) (mean : ExcName → Option Value) (mg mb : Str → Option Value) (s : Shared) (l : Addr) (vs : List Value) (ns : List Int),
  (KF w.params).In s.heap → Top qV LV mean mg mb s.heap → s.heap.IsList l vs.toArray → IntsAre vs ns → ns.length ≤ 63 → (PyData.list (ns.map PyData.int)).layable0 = true →
  wpAny (model prT w) callerA (call (.ref 238) [.ref l]) (fun v s' => v = .bool true ∧ ∃ h' tk, s' = { s with heap := h', toks := tk } ∧ s.heap.StaysIn h') (fun _ _ => False) s
set_option maxHeartbeats 0 in
theorem said_a : sreFenced PySem.Challenge.rw_in0170_01.row.prog.main = true := by kernel_rfl
set_option maxHeartbeats 0 in
theorem said_b : namesResolve PySem.Challenge.rw_in0170_01.row.prog = true := by kernel_rfl
set_option maxHeartbeats 0 in
theorem said_c (ha : sreFenced PySem.Challenge.rw_in0170_01.row.prog.main = true) (hb : namesResolve PySem.Challenge.rw_in0170_01.row.prog = true) : looksOpen PySem.Challenge.rw_in0170_01.row.prog = true := by
  unfold looksOpen
  repeat' (with_reducible refine look_both ?_ ?_)
  all_goals first | with_reducible exact ha | with_reducible exact hb | kernel_rfl
set_option maxHeartbeats 0 in
theorem said_d (h : looksOpen PySem.Challenge.rw_in0170_01.row.prog = true) : PySem.Challenge.rw_in0170_01.row.wellSaid = true := by
  unfold OpenRow.wellSaid OpenRow.partSaid
  repeat' (with_reducible refine look_both ?_ ?_)
  all_goals first | with_reducible exact h | kernel_rfl
set_option maxHeartbeats 0 in
theorem law_said2 (h : PySem.Challenge.rw_in0170_01.row.wellSaid = true) : PySem.Challenge.rw_in0170_01.wellSaid = true := by
  unfold OpenLaw.wellSaid
  repeat' (with_reducible refine look_both ?_ ?_)
  all_goals first | with_reducible exact h | kernel_rfl
theorem law_said : PySem.Challenge.rw_in0170_01.wellSaid = true := law_said2 (said_d (said_c said_a said_b))
set_option maxHeartbeats 0 in
theorem holds_of (H : LawTrue) : PySem.Challenge.rw_in0170_01.Holds := by
  w_on
  refine holds_law law_said fun said => ?_
  refine holds_open (q := qV) (loose := lsV) (Xt := fun _ => true) (XP := fun _ _ => True) (Yf := HK.obs) (Ya := HK.val) (YP := HK.says) (N := 200000) leftT (Hook.of HK) (Hook.keeps HK) (fun _ _ => trivial) (fun _ _ _ _ _ => trivial)
    (by rfl) (by rfl) (by rfl) (fun s e => recFacts_nil rfl) (by rfl) (by assumption) (by decide +kernel) ⟨rfl, rfl, rfl, rfl, rfl, by decide +kernel⟩ ?hw ?hc
  case hw => w_witness2
  case hc =>
    intro w s₀ s₁ mg mb G Y fa o pm cd doc dV kV ho hd hcd hD hmg hg args vals as hpre hlay hrd hwl hlo
    have X : (KF w.params).In s₁.heap := Y
    have T := G.T
    have e : fa = 238 := by
      have k := mg_of (n := Str.ofString "law") (v := .ref 238) X T.g (by kernel_rfl)
      have k2 : mg (Str.ofString "law") = some (.ref fa) := hmg
      rw [k] at k2
      cases k2
      rfl
    subst e
    clear hmg
    wrow_args hpre hlay hrd hwl hlo
    refine wpAny_mono (H w _ mg mb s₁ _ _ _ X T (by assumption) (by assumption) (by omega) (by assumption)) (fun v s' hv => ?_) (fun e s' he => he.elim)
    obtain ⟨rfl, h', tk, rfl, st⟩ := hv
    exact GoodW.toG ⟨.inl ⟨.bool true, .bool true, [], rfl, fun _ => rfl, .bool true, by kernel_rfl, unshared_nil⟩, st, rfl, hg⟩
end
theorem law_true : LawTrue := fun w mean mg mb s l vs ns X T hl hv hn _ =>
  t_law l vs ns X T (by decide) (by decide) rfl hl hv hn fun h' tk st => ⟨rfl, h', tk, rfl, st⟩
end Mine
theorem PySem.Challenge.cw_in0170_01_holds : PySem.Challenge.rw_in0170_01.Holds :=
  Mine.holds_of Mine.law_true
