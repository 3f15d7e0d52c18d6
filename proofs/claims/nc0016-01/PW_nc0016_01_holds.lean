import PyProof.Rows.All
import Wide.All
import OpenK.AllK
import Wide.FinOn
import PySem.Challenge.RW_nc0016_01
open PySem PySem.W PyProof.Rows PySem.Calls PySem.Spec
set_option Elab.async false
set_option compiler.extract_closed false
namespace Mine
set_option maxRecDepth 100000
section
/-- a text, a row of a dict, a def of the text: the short forms in which the head's heap is written -/
noncomputable def sv (x : String) (t : Nat) : Value := .str (Str.ofString x) t
noncomputable def svn (l : List Nat) (t : Nat) : Value := .str ⟨l.toArray⟩ t
noncomputable def kE (P : Params) (x : String) (t : Nat) (v : Value) : DictEntry := ⟨PyData.keyHash P (Str.ofString x), .str (Str.ofString x) t, v⟩
noncomputable def kEn (P : Params) (x : List Nat) (t : Nat) (v : Value) : DictEntry := ⟨PyData.keyHash P ⟨x.toArray⟩, .str ⟨x.toArray⟩ t, v⟩
noncomputable abbrev pw : Program := PySem.Challenge.pw_nc0016_01
noncomputable def stAt : List Nat → Option Stmt
  | [i] => pw.main.body[i]?
  | [i, j] => match pw.main.body[i]? with
    | some (.ClassDef _ _ _ b _ _ _ _ _ _ _) => b[j]?
    | _ => none
  | _ => none
noncomputable abbrev fdAt {path : List Nat} {n0 : Str} {a : Arguments} {b : List Stmt} {dl : List Expr} {rt : Option Expr} {tp : List TypeParam} {sc : Scope} {tsc : Option Scope} {bd : Str} {ps : Pos} (_h : stAt path = some (.FunctionDef n0 a b dl rt tp sc tsc bd ps)) (name qual : String) (globals : Addr) (closure : List (Str × Addr)) (defaults kwdefaults doc pyModule : Value) (annotations : Option Addr) (code closureTuple : Value) (builtins : Addr) : FuncData :=
  ⟨Str.ofString name, Str.ofString qual, a, .stmts b, sc, globals, closure, defaults, kwdefaults, doc, pyModule, annotations, code, closureTuple, builtins⟩
/-- the opening's run on the tree, to its end -/
noncomputable def impRunT (f : SharedT → Thread → Option (SharedT × Thread)) : Nat → SharedT → Thread → Option SharedT
  | 0, _, _ => none
  | n + 1, s, t => match t.atExitBegin with
    | some [] => some s
    | some (_ :: _) => none
    | none => match f s t with
      | some (s', t') => impRunT f n s' t'
      | none => none
theorem impRunT_ends {tb : String → Option Builtin} {p : Program} {w : World} : ∀ (n : Nat) (s : SharedT) (t : Thread) (r : SharedT), impRunT (stepT (denote tb) p w) n s t = some r → importEnds tb p w n s.abs t = some r.abs
  | 0, _, _, _, h => by cases h
  | n + 1, s, t, r, h => by
    unfold impRunT at h
    unfold importEnds
    cases ht : t.atExitBegin with
    | some l =>
      rw [ht] at h
      cases l with
      | nil => cases h; rfl
      | cons _ _ => cases h
    | none =>
      rw [ht] at h
      dsimp only at h ⊢
      cases hs : stepT (denote tb) p w s t with
      | none => rw [hs] at h; cases h
      | some q =>
        obtain ⟨s₂, t₂⟩ := q
        rw [hs] at h
        rw [stepT_spec hs]
        exact impRunT_ends n s₂ t₂ r h
noncomputable def o_1 (P : Params) : Obj := ⟨(.type "dict"), .none, (.dict #[kE P "builtins" 162 (.ref 4), kE P "__main__" 163 (.ref 5), kE P "_operator" 250 (.ref 13)] 3), #[]⟩
noncomputable def o_2 (P : Params) : Obj := ⟨.none, .none, (.dict #[kEn P [105, 109, 112, 111, 114, 116, 46, 108, 111, 97, 100, 101, 100, 46, 95, 111, 112, 101, 114, 97, 116, 111, 114] 189 (.bool true), kEn P [99, 108, 97, 115, 115, 46, 95, 102, 114, 111, 122, 101, 110, 95, 105, 109, 112, 111, 114, 116, 108, 105, 98, 46, 66, 117, 105, 108, 116, 105, 110, 73, 109, 112, 111, 114, 116, 101, 114] 191 (.ref 15), kEn P [119, 97, 116, 99, 104, 101, 100, 46, 105, 109, 112, 111, 114, 116] 212 (.ref 19), kEn P [99, 108, 97, 115, 115, 46, 95, 102, 114, 111, 122, 101, 110, 95, 105, 109, 112, 111, 114, 116, 108, 105, 98, 46, 77, 111, 100, 117, 108, 101, 83, 112, 101, 99] 222 (.ref 23), kE P "sys.modules.booked-epoch" 251 (.int (3) 0), kE P "sys.modules.landed._operator" 252 (.bool true), kEn P [105, 109, 112, 111, 114, 116, 46, 108, 97, 116, 101, 114, 45, 108, 97, 105, 100, 46, 95, 111, 112, 101, 114, 97, 116, 111, 114] 316 (.bool true), kE P "watched.library" 318 (.ref 28), kE P "watched.library-objects" 0 (sv "\x0d" 0), kE P "watched.library-deep._operator" 319 (sv "\x04\x00\x00\x0c\x04\x00\x00\x0c\x04\x00\x00\x03\x04\x00\x00\x0c\x08\x04dict\x02" 0)] 10), #[]⟩
noncomputable def o_3 (P : Params) : Obj := ⟨(.type "dict"), .none, (.dict #[kE P "__name__" 165 (sv "__main__" 164), kE P "__doc__" 166 .none, kE P "__package__" 167 .none, kE P "__loader__" 168 (.builtin "__main__.__loader__#opaque"), kE P "__spec__" 169 .none, kE P "__annotations__" 170 (.ref 6), kE P "__builtins__" 171 (.ref 4), kE P "__file__" 173 (sv "/claim/cut.py" 172), kE P "__cached__" 174 .none, kE P "eq" 325 (.builtin "_operator.eq"), kE P "ge" 328 (.builtin "_operator.ge"), kE P "gt" 331 (.builtin "_operator.gt"), kE P "le" 334 (.builtin "_operator.le"), kE P "lt" 337 (.builtin "_operator.lt")] 14), #[]⟩
noncomputable def o_11 (P : Params) : Obj := ⟨(.type "tuple"), .none, (.seq #[(sv "eq" 182), (sv "ge" 183), (sv "gt" 184), (sv "le" 185), (sv "lt" 186)] 0), #[]⟩
noncomputable def o_12 (P : Params) : Obj := ⟨(.type "dict"), .none, (.dict #[kE P "__name__" 254 (sv "_operator" 253), kE P "__doc__" 255 (.builtin "_operator.__doc__:str#opaque"), kE P "__package__" 257 (sv "" 256), kE P "__loader__" 258 (.ref 15), kE P "__spec__" 259 (.ref 27), kE P "truth" 260 (.builtin "_operator.truth"), kE P "contains" 261 (.builtin "_operator.contains"), kE P "indexOf" 262 (.builtin "_operator.indexOf"), kE P "countOf" 263 (.builtin "_operator.countOf"), kE P "is_" 264 (.builtin "_operator.is_"), kE P "is_not" 265 (.builtin "_operator.is_not"), kE P "index" 266 (.builtin "_operator.index"), kE P "add" 267 (.builtin "_operator.add"), kE P "sub" 268 (.builtin "_operator.sub"), kE P "mul" 269 (.builtin "_operator.mul"), kE P "matmul" 270 (.builtin "_operator.matmul"), kE P "floordiv" 271 (.builtin "_operator.floordiv"), kE P "truediv" 272 (.builtin "_operator.truediv"), kE P "mod" 273 (.builtin "_operator.mod"), kE P "neg" 274 (.builtin "_operator.neg"), kE P "pos" 275 (.builtin "_operator.pos"), kE P "abs" 276 (.builtin "_operator.abs"), kE P "inv" 277 (.builtin "_operator.inv"), kE P "invert" 278 (.builtin "_operator.invert"), kE P "lshift" 279 (.builtin "_operator.lshift"), kE P "rshift" 280 (.builtin "_operator.rshift"), kE P "not_" 281 (.builtin "_operator.not_"), kE P "and_" 282 (.builtin "_operator.and_"), kE P "xor" 283 (.builtin "_operator.xor"), kE P "or_" 284 (.builtin "_operator.or_"), kE P "iadd" 285 (.builtin "_operator.iadd"), kE P "isub" 286 (.builtin "_operator.isub"), kE P "imul" 287 (.builtin "_operator.imul"), kE P "imatmul" 288 (.builtin "_operator.imatmul"), kE P "ifloordiv" 289 (.builtin "_operator.ifloordiv"), kE P "itruediv" 290 (.builtin "_operator.itruediv"), kE P "imod" 291 (.builtin "_operator.imod"), kE P "ilshift" 292 (.builtin "_operator.ilshift"), kE P "irshift" 293 (.builtin "_operator.irshift"), kE P "iand" 294 (.builtin "_operator.iand"), kE P "ixor" 295 (.builtin "_operator.ixor"), kE P "ior" 296 (.builtin "_operator.ior"), kE P "concat" 297 (.builtin "_operator.concat"), kE P "iconcat" 298 (.builtin "_operator.iconcat"), kE P "getitem" 299 (.builtin "_operator.getitem"), kE P "setitem" 300 (.builtin "_operator.setitem"), kE P "delitem" 301 (.builtin "_operator.delitem"), kE P "pow" 302 (.builtin "_operator.pow"), kE P "ipow" 303 (.builtin "_operator.ipow"), kE P "eq" 304 (.builtin "_operator.eq"), kE P "ne" 305 (.builtin "_operator.ne"), kE P "lt" 306 (.builtin "_operator.lt"), kE P "le" 307 (.builtin "_operator.le"), kE P "gt" 308 (.builtin "_operator.gt"), kE P "ge" 309 (.builtin "_operator.ge"), kE P "_compare_digest" 310 (.builtin "_operator._compare_digest"), kE P "length_hint" 311 (.builtin "_operator.length_hint"), kE P "call" 312 (.builtin "_operator.call"), kE P "attrgetter" 313 (.type "operator.attrgetter"), kE P "itemgetter" 314 (.type "operator.itemgetter"), kE P "methodcaller" 315 (.type "operator.methodcaller")] 61), #[]⟩
noncomputable def o_13 (P : Params) : Obj := ⟨(.type "module"), (.some 12), .plain, #[]⟩
noncomputable def o_14 (P : Params) : Obj := ⟨(.type "dict"), .none, (.dict #[kE P "__module__" 195 (sv "_frozen_importlib" 192), kE P "__firstlineno__" 196 (.int (971) 193), kE P "__doc__" 197 (.builtin "_frozen_importlib.BuiltinImporter.__doc__:str#opaque"), kE P "_ORIGIN" 198 (sv "built-in" 194), kE P "find_spec" 199 (.builtin "_frozen_importlib.BuiltinImporter.find_spec#opaque"), kE P "create_module" 200 (.builtin "_frozen_importlib.BuiltinImporter.create_module#opaque"), kE P "exec_module" 201 (.builtin "_frozen_importlib.BuiltinImporter.exec_module#opaque"), kE P "get_code" 202 (.builtin "_frozen_importlib.BuiltinImporter.get_code#opaque"), kE P "get_source" 203 (.builtin "_frozen_importlib.BuiltinImporter.get_source#opaque"), kE P "is_package" 204 (.builtin "_frozen_importlib.BuiltinImporter.is_package#opaque"), kE P "load_module" 205 (.builtin "_frozen_importlib.BuiltinImporter.load_module#opaque"), kE P "__static_attributes__" 206 (.ref 16), kE P "__dict__" 208 (.ref 17), kE P "__weakref__" 210 (.ref 18)] 14), #[]⟩
noncomputable def o_15 (P : Params) : Obj := ⟨(.type "type"), .none, (.cls ⟨Str.ofString "BuiltinImporter", [(.type "object")], [(.ref 15), (.type "object")], 14, Str.ofString "BuiltinImporter", true, [], [], false, .none, false⟩), #[]⟩
noncomputable def o_17 (P : Params) : Obj := ⟨(.type "getset_descriptor"), .none, (.fields #[(sv "__dict__" 207), (.ref 15), (.builtin "function.__dict__"), (.builtin "function.__dict__#set")]), #[]⟩
noncomputable def o_18 (P : Params) : Obj := ⟨(.type "getset_descriptor"), .none, (.fields #[(sv "__weakref__" 209), (.ref 15), (.builtin "ExceptionGroup.__weakref__"), .none]), #[]⟩
noncomputable def o_19 (P : Params) : Obj := ⟨.none, .none, (.seq #[(.int (14) 0), (svn [6, 195, 10, 95, 95, 109, 111, 100, 117, 108, 101, 95, 95, 6, 192, 17, 95, 102, 114, 111, 122, 101, 110, 95, 105, 109, 112, 111, 114, 116, 108, 105, 98, 6, 196, 15, 95, 95, 102, 105, 114, 115, 116, 108, 105, 110, 101, 110, 111, 95, 95, 4, 193, 0, 971, 6, 197, 7, 95, 95, 100, 111, 99, 95, 95, 9, 52, 95, 102, 114, 111, 122, 101, 110, 95, 105, 109, 112, 111, 114, 116, 108, 105, 98, 46, 66, 117, 105, 108, 116, 105, 110, 73, 109, 112, 111, 114, 116, 101, 114, 46, 95, 95, 100, 111, 99, 95, 95, 58, 115, 116, 114, 35, 111, 112, 97, 113, 117, 101, 6, 198, 7, 95, 79, 82, 73, 71, 73, 78, 6, 194, 8, 98, 117, 105, 108, 116, 45, 105, 110, 6, 199, 9, 102, 105, 110, 100, 95, 115, 112, 101, 99, 9, 50, 95, 102, 114, 111, 122, 101, 110, 95, 105, 109, 112, 111, 114, 116, 108, 105, 98, 46, 66, 117, 105, 108, 116, 105, 110, 73, 109, 112, 111, 114, 116, 101, 114, 46, 102, 105, 110, 100, 95, 115, 112, 101, 99, 35, 111, 112, 97, 113, 117, 101, 6, 200, 13, 99, 114, 101, 97, 116, 101, 95, 109, 111, 100, 117, 108, 101, 9, 54, 95, 102, 114, 111, 122, 101, 110, 95, 105, 109, 112, 111, 114, 116, 108, 105, 98, 46, 66, 117, 105, 108, 116, 105, 110, 73, 109, 112, 111, 114, 116, 101, 114, 46, 99, 114, 101, 97, 116, 101, 95, 109, 111, 100, 117, 108, 101, 35, 111, 112, 97, 113, 117, 101, 6, 201, 11, 101, 120, 101, 99, 95, 109, 111, 100, 117, 108, 101, 9, 52, 95, 102, 114, 111, 122, 101, 110, 95, 105, 109, 112, 111, 114, 116, 108, 105, 98, 46, 66, 117, 105, 108, 116, 105, 110, 73, 109, 112, 111, 114, 116, 101, 114, 46, 101, 120, 101, 99, 95, 109, 111, 100, 117, 108, 101, 35, 111, 112, 97, 113, 117, 101, 6, 202, 8, 103, 101, 116, 95, 99, 111, 100, 101, 9, 49, 95, 102, 114, 111, 122, 101, 110, 95, 105, 109, 112, 111, 114, 116, 108, 105, 98, 46, 66, 117, 105, 108, 116, 105, 110, 73, 109, 112, 111, 114, 116, 101, 114, 46, 103, 101, 116, 95, 99, 111, 100, 101, 35, 111, 112, 97, 113, 117, 101, 6, 203, 10, 103, 101, 116, 95, 115, 111, 117, 114, 99, 101, 9, 51, 95, 102, 114, 111, 122, 101, 110, 95, 105, 109, 112, 111, 114, 116, 108, 105, 98, 46, 66, 117, 105, 108, 116, 105, 110, 73, 109, 112, 111, 114, 116, 101, 114, 46, 103, 101, 116, 95, 115, 111, 117, 114, 99, 101, 35, 111, 112, 97, 113, 117, 101, 6, 204, 10, 105, 115, 95, 112, 97, 99, 107, 97, 103, 101, 9, 51, 95, 102, 114, 111, 122, 101, 110, 95, 105, 109, 112, 111, 114, 116, 108, 105, 98, 46, 66, 117, 105, 108, 116, 105, 110, 73, 109, 112, 111, 114, 116, 101, 114, 46, 105, 115, 95, 112, 97, 99, 107, 97, 103, 101, 35, 111, 112, 97, 113, 117, 101, 6, 205, 11, 108, 111, 97, 100, 95, 109, 111, 100, 117, 108, 101, 9, 52, 95, 102, 114, 111, 122, 101, 110, 95, 105, 109, 112, 111, 114, 116, 108, 105, 98, 46, 66, 117, 105, 108, 116, 105, 110, 73, 109, 112, 111, 114, 116, 101, 114, 46, 108, 111, 97, 100, 95, 109, 111, 100, 117, 108, 101, 35, 111, 112, 97, 113, 117, 101, 6, 206, 21, 95, 95, 115, 116, 97, 116, 105, 99, 95, 97, 116, 116, 114, 105, 98, 117, 116, 101, 115, 95, 95, 4, 0, 0, 16, 6, 208, 8, 95, 95, 100, 105, 99, 116, 95, 95, 4, 0, 0, 17, 6, 210, 11, 95, 95, 119, 101, 97, 107, 114, 101, 102, 95, 95, 4, 0, 0, 18] 0), (.bool true), (.bool true), (sv "" 211), (.int (22) 0), (svn [6, 233, 10, 95, 95, 109, 111, 100, 117, 108, 101, 95, 95, 6, 223, 17, 95, 102, 114, 111, 122, 101, 110, 95, 105, 109, 112, 111, 114, 116, 108, 105, 98, 6, 234, 15, 95, 95, 102, 105, 114, 115, 116, 108, 105, 110, 101, 110, 111, 95, 95, 4, 224, 0, 562, 6, 235, 7, 95, 95, 100, 111, 99, 95, 95, 9, 47, 95, 102, 114, 111, 122, 101, 110, 95, 105, 109, 112, 111, 114, 116, 108, 105, 98, 46, 77, 111, 100, 117, 108, 101, 83, 112, 101, 99, 46, 95, 95, 100, 111, 99, 95, 95, 58, 115, 116, 114, 35, 111, 112, 97, 113, 117, 101, 6, 236, 8, 95, 95, 105, 110, 105, 116, 95, 95, 9, 44, 95, 102, 114, 111, 122, 101, 110, 95, 105, 109, 112, 111, 114, 116, 108, 105, 98, 46, 77, 111, 100, 117, 108, 101, 83, 112, 101, 99, 46, 95, 95, 105, 110, 105, 116, 95, 95, 35, 111, 112, 97, 113, 117, 101, 6, 237, 8, 95, 95, 114, 101, 112, 114, 95, 95, 9, 44, 95, 102, 114, 111, 122, 101, 110, 95, 105, 109, 112, 111, 114, 116, 108, 105, 98, 46, 77, 111, 100, 117, 108, 101, 83, 112, 101, 99, 46, 95, 95, 114, 101, 112, 114, 95, 95, 35, 111, 112, 97, 113, 117, 101, 6, 238, 6, 95, 95, 101, 113, 95, 95, 9, 42, 95, 102, 114, 111, 122, 101, 110, 95, 105, 109, 112, 111, 114, 116, 108, 105, 98, 46, 77, 111, 100, 117, 108, 101, 83, 112, 101, 99, 46, 95, 95, 101, 113, 95, 95, 35, 111, 112, 97, 113, 117, 101, 6, 239, 6, 99, 97, 99, 104, 101, 100, 9, 42, 95, 102, 114, 111, 122, 101, 110, 95, 105, 109, 112, 111, 114, 116, 108, 105, 98, 46, 77, 111, 100, 117, 108, 101, 83, 112, 101, 99, 46, 99, 97, 99, 104, 101, 100, 35, 111, 112, 97, 113, 117, 101, 6, 240, 6, 112, 97, 114, 101, 110, 116, 9, 42, 95, 102, 114, 111, 122, 101, 110, 95, 105, 109, 112, 111, 114, 116, 108, 105, 98, 46, 77, 111, 100, 117, 108, 101, 83, 112, 101, 99, 46, 112, 97, 114, 101, 110, 116, 35, 111, 112, 97, 113, 117, 101, 6, 241, 12, 104, 97, 115, 95, 108, 111, 99, 97, 116, 105, 111, 110, 9, 48, 95, 102, 114, 111, 122, 101, 110, 95, 105, 109, 112, 111, 114, 116, 108, 105, 98, 46, 77, 111, 100, 117, 108, 101, 83, 112, 101, 99, 46, 104, 97, 115, 95, 108, 111, 99, 97, 116, 105, 111, 110, 35, 111, 112, 97, 113, 117, 101, 6, 242, 21, 95, 95, 115, 116, 97, 116, 105, 99, 95, 97, 116, 116, 114, 105, 98, 117, 116, 101, 115, 95, 95, 4, 0, 0, 24, 6, 244, 8, 95, 95, 100, 105, 99, 116, 95, 95, 4, 0, 0, 25, 6, 246, 11, 95, 95, 119, 101, 97, 107, 114, 101, 102, 95, 95, 4, 0, 0, 26, 6, 247, 8, 95, 95, 104, 97, 115, 104, 95, 95, 0] 0), (.bool true), (.bool true), (sv "" 248)] 1), #[]⟩
noncomputable def o_20 (P : Params) : Obj := ⟨(.type "list"), .none, (.seq #[] 0), #[]⟩
noncomputable def o_21 (P : Params) : Obj := ⟨(.type "dict"), .none, (.dict #[kE P "name" 214 (sv "_operator" 213), kE P "loader" 215 (.ref 15), kE P "origin" 216 (sv "built-in" 190), kE P "loader_state" 217 .none, kE P "submodule_search_locations" 218 .none, kE P "_uninitialized_submodules" 219 (.ref 20), kE P "_set_fileattr" 220 (.bool false), kE P "_cached" 221 .none, kE P "_initializing" 249 (.bool false)] 9), #[]⟩
noncomputable def o_22 (P : Params) : Obj := ⟨(.type "dict"), .none, (.dict #[kE P "__module__" 233 (sv "_frozen_importlib" 223), kE P "__firstlineno__" 234 (.int (562) 224), kE P "__doc__" 235 (.builtin "_frozen_importlib.ModuleSpec.__doc__:str#opaque"), kE P "__init__" 236 (.builtin "_frozen_importlib.ModuleSpec.__init__#opaque"), kE P "__repr__" 237 (.builtin "_frozen_importlib.ModuleSpec.__repr__#opaque"), kE P "__eq__" 238 (.builtin "_frozen_importlib.ModuleSpec.__eq__#opaque"), kE P "cached" 239 (.builtin "_frozen_importlib.ModuleSpec.cached#opaque"), kE P "parent" 240 (.builtin "_frozen_importlib.ModuleSpec.parent#opaque"), kE P "has_location" 241 (.builtin "_frozen_importlib.ModuleSpec.has_location#opaque"), kE P "__static_attributes__" 242 (.ref 24), kE P "__dict__" 244 (.ref 25), kE P "__weakref__" 246 (.ref 26), kE P "__hash__" 247 .none] 13), #[]⟩
noncomputable def o_23 (P : Params) : Obj := ⟨(.type "type"), .none, (.cls ⟨Str.ofString "ModuleSpec", [(.type "object")], [(.ref 23), (.type "object")], 22, Str.ofString "ModuleSpec", true, [], [], false, .none, false⟩), #[]⟩
noncomputable def o_24 (P : Params) : Obj := ⟨(.type "tuple"), .none, (.seq #[(sv "_cached" 225), (sv "_set_fileattr" 226), (sv "_uninitialized_submodules" 227), (sv "loader" 228), (sv "loader_state" 229), (sv "name" 230), (sv "origin" 231), (sv "submodule_search_locations" 232)] 0), #[]⟩
noncomputable def o_25 (P : Params) : Obj := ⟨(.type "getset_descriptor"), .none, (.fields #[(sv "__dict__" 243), (.ref 23), (.builtin "function.__dict__"), (.builtin "function.__dict__#set")]), #[]⟩
noncomputable def o_26 (P : Params) : Obj := ⟨(.type "getset_descriptor"), .none, (.fields #[(sv "__weakref__" 245), (.ref 23), (.builtin "ExceptionGroup.__weakref__"), .none]), #[]⟩
noncomputable def o_27 (P : Params) : Obj := ⟨(.ref 23), (.some 21), .plain, #[]⟩
noncomputable def o_28 (P : Params) : Obj := ⟨.none, .none, (.seq #[(.int (12) 0), (svn [6, 254, 8, 95, 95, 110, 97, 109, 101, 95, 95, 6, 253, 9, 95, 111, 112, 101, 114, 97, 116, 111, 114, 6, 255, 7, 95, 95, 100, 111, 99, 95, 95, 9, 28, 95, 111, 112, 101, 114, 97, 116, 111, 114, 46, 95, 95, 100, 111, 99, 95, 95, 58, 115, 116, 114, 35, 111, 112, 97, 113, 117, 101, 6, 257, 11, 95, 95, 112, 97, 99, 107, 97, 103, 101, 95, 95, 6, 256, 0, 6, 258, 10, 95, 95, 108, 111, 97, 100, 101, 114, 95, 95, 4, 0, 0, 15, 6, 259, 8, 95, 95, 115, 112, 101, 99, 95, 95, 4, 0, 0, 27, 6, 260, 5, 116, 114, 117, 116, 104, 9, 15, 95, 111, 112, 101, 114, 97, 116, 111, 114, 46, 116, 114, 117, 116, 104, 6, 261, 8, 99, 111, 110, 116, 97, 105, 110, 115, 9, 18, 95, 111, 112, 101, 114, 97, 116, 111, 114, 46, 99, 111, 110, 116, 97, 105, 110, 115, 6, 262, 7, 105, 110, 100, 101, 120, 79, 102, 9, 17, 95, 111, 112, 101, 114, 97, 116, 111, 114, 46, 105, 110, 100, 101, 120, 79, 102, 6, 263, 7, 99, 111, 117, 110, 116, 79, 102, 9, 17, 95, 111, 112, 101, 114, 97, 116, 111, 114, 46, 99, 111, 117, 110, 116, 79, 102, 6, 264, 3, 105, 115, 95, 9, 13, 95, 111, 112, 101, 114, 97, 116, 111, 114, 46, 105, 115, 95, 6, 265, 6, 105, 115, 95, 110, 111, 116, 9, 16, 95, 111, 112, 101, 114, 97, 116, 111, 114, 46, 105, 115, 95, 110, 111, 116, 6, 266, 5, 105, 110, 100, 101, 120, 9, 15, 95, 111, 112, 101, 114, 97, 116, 111, 114, 46, 105, 110, 100, 101, 120, 6, 267, 3, 97, 100, 100, 9, 13, 95, 111, 112, 101, 114, 97, 116, 111, 114, 46, 97, 100, 100, 6, 268, 3, 115, 117, 98, 9, 13, 95, 111, 112, 101, 114, 97, 116, 111, 114, 46, 115, 117, 98, 6, 269, 3, 109, 117, 108, 9, 13, 95, 111, 112, 101, 114, 97, 116, 111, 114, 46, 109, 117, 108, 6, 270, 6, 109, 97, 116, 109, 117, 108, 9, 16, 95, 111, 112, 101, 114, 97, 116, 111, 114, 46, 109, 97, 116, 109, 117, 108, 6, 271, 8, 102, 108, 111, 111, 114, 100, 105, 118, 9, 18, 95, 111, 112, 101, 114, 97, 116, 111, 114, 46, 102, 108, 111, 111, 114, 100, 105, 118, 6, 272, 7, 116, 114, 117, 101, 100, 105, 118, 9, 17, 95, 111, 112, 101, 114, 97, 116, 111, 114, 46, 116, 114, 117, 101, 100, 105, 118, 6, 273, 3, 109, 111, 100, 9, 13, 95, 111, 112, 101, 114, 97, 116, 111, 114, 46, 109, 111, 100, 6, 274, 3, 110, 101, 103, 9, 13, 95, 111, 112, 101, 114, 97, 116, 111, 114, 46, 110, 101, 103, 6, 275, 3, 112, 111, 115, 9, 13, 95, 111, 112, 101, 114, 97, 116, 111, 114, 46, 112, 111, 115, 6, 276, 3, 97, 98, 115, 9, 13, 95, 111, 112, 101, 114, 97, 116, 111, 114, 46, 97, 98, 115, 6, 277, 3, 105, 110, 118, 9, 13, 95, 111, 112, 101, 114, 97, 116, 111, 114, 46, 105, 110, 118, 6, 278, 6, 105, 110, 118, 101, 114, 116, 9, 16, 95, 111, 112, 101, 114, 97, 116, 111, 114, 46, 105, 110, 118, 101, 114, 116, 6, 279, 6, 108, 115, 104, 105, 102, 116, 9, 16, 95, 111, 112, 101, 114, 97, 116, 111, 114, 46, 108, 115, 104, 105, 102, 116, 6, 280, 6, 114, 115, 104, 105, 102, 116, 9, 16, 95, 111, 112, 101, 114, 97, 116, 111, 114, 46, 114, 115, 104, 105, 102, 116, 6, 281, 4, 110, 111, 116, 95, 9, 14, 95, 111, 112, 101, 114, 97, 116, 111, 114, 46, 110, 111, 116, 95, 6, 282, 4, 97, 110, 100, 95, 9, 14, 95, 111, 112, 101, 114, 97, 116, 111, 114, 46, 97, 110, 100, 95, 6, 283, 3, 120, 111, 114, 9, 13, 95, 111, 112, 101, 114, 97, 116, 111, 114, 46, 120, 111, 114, 6, 284, 3, 111, 114, 95, 9, 13, 95, 111, 112, 101, 114, 97, 116, 111, 114, 46, 111, 114, 95, 6, 285, 4, 105, 97, 100, 100, 9, 14, 95, 111, 112, 101, 114, 97, 116, 111, 114, 46, 105, 97, 100, 100, 6, 286, 4, 105, 115, 117, 98, 9, 14, 95, 111, 112, 101, 114, 97, 116, 111, 114, 46, 105, 115, 117, 98, 6, 287, 4, 105, 109, 117, 108, 9, 14, 95, 111, 112, 101, 114, 97, 116, 111, 114, 46, 105, 109, 117, 108, 6, 288, 7, 105, 109, 97, 116, 109, 117, 108, 9, 17, 95, 111, 112, 101, 114, 97, 116, 111, 114, 46, 105, 109, 97, 116, 109, 117, 108, 6, 289, 9, 105, 102, 108, 111, 111, 114, 100, 105, 118, 9, 19, 95, 111, 112, 101, 114, 97, 116, 111, 114, 46, 105, 102, 108, 111, 111, 114, 100, 105, 118, 6, 290, 8, 105, 116, 114, 117, 101, 100, 105, 118, 9, 18, 95, 111, 112, 101, 114, 97, 116, 111, 114, 46, 105, 116, 114, 117, 101, 100, 105, 118, 6, 291, 4, 105, 109, 111, 100, 9, 14, 95, 111, 112, 101, 114, 97, 116, 111, 114, 46, 105, 109, 111, 100, 6, 292, 7, 105, 108, 115, 104, 105, 102, 116, 9, 17, 95, 111, 112, 101, 114, 97, 116, 111, 114, 46, 105, 108, 115, 104, 105, 102, 116, 6, 293, 7, 105, 114, 115, 104, 105, 102, 116, 9, 17, 95, 111, 112, 101, 114, 97, 116, 111, 114, 46, 105, 114, 115, 104, 105, 102, 116, 6, 294, 4, 105, 97, 110, 100, 9, 14, 95, 111, 112, 101, 114, 97, 116, 111, 114, 46, 105, 97, 110, 100, 6, 295, 4, 105, 120, 111, 114, 9, 14, 95, 111, 112, 101, 114, 97, 116, 111, 114, 46, 105, 120, 111, 114, 6, 296, 3, 105, 111, 114, 9, 13, 95, 111, 112, 101, 114, 97, 116, 111, 114, 46, 105, 111, 114, 6, 297, 6, 99, 111, 110, 99, 97, 116, 9, 16, 95, 111, 112, 101, 114, 97, 116, 111, 114, 46, 99, 111, 110, 99, 97, 116, 6, 298, 7, 105, 99, 111, 110, 99, 97, 116, 9, 17, 95, 111, 112, 101, 114, 97, 116, 111, 114, 46, 105, 99, 111, 110, 99, 97, 116, 6, 299, 7, 103, 101, 116, 105, 116, 101, 109, 9, 17, 95, 111, 112, 101, 114, 97, 116, 111, 114, 46, 103, 101, 116, 105, 116, 101, 109, 6, 300, 7, 115, 101, 116, 105, 116, 101, 109, 9, 17, 95, 111, 112, 101, 114, 97, 116, 111, 114, 46, 115, 101, 116, 105, 116, 101, 109, 6, 301, 7, 100, 101, 108, 105, 116, 101, 109, 9, 17, 95, 111, 112, 101, 114, 97, 116, 111, 114, 46, 100, 101, 108, 105, 116, 101, 109, 6, 302, 3, 112, 111, 119, 9, 13, 95, 111, 112, 101, 114, 97, 116, 111, 114, 46, 112, 111, 119, 6, 303, 4, 105, 112, 111, 119, 9, 14, 95, 111, 112, 101, 114, 97, 116, 111, 114, 46, 105, 112, 111, 119, 6, 304, 2, 101, 113, 9, 12, 95, 111, 112, 101, 114, 97, 116, 111, 114, 46, 101, 113, 6, 305, 2, 110, 101, 9, 12, 95, 111, 112, 101, 114, 97, 116, 111, 114, 46, 110, 101, 6, 306, 2, 108, 116, 9, 12, 95, 111, 112, 101, 114, 97, 116, 111, 114, 46, 108, 116, 6, 307, 2, 108, 101, 9, 12, 95, 111, 112, 101, 114, 97, 116, 111, 114, 46, 108, 101, 6, 308, 2, 103, 116, 9, 12, 95, 111, 112, 101, 114, 97, 116, 111, 114, 46, 103, 116, 6, 309, 2, 103, 101, 9, 12, 95, 111, 112, 101, 114, 97, 116, 111, 114, 46, 103, 101, 6, 310, 15, 95, 99, 111, 109, 112, 97, 114, 101, 95, 100, 105, 103, 101, 115, 116, 9, 25, 95, 111, 112, 101, 114, 97, 116, 111, 114, 46, 95, 99, 111, 109, 112, 97, 114, 101, 95, 100, 105, 103, 101, 115, 116, 6, 311, 11, 108, 101, 110, 103, 116, 104, 95, 104, 105, 110, 116, 9, 21, 95, 111, 112, 101, 114, 97, 116, 111, 114, 46, 108, 101, 110, 103, 116, 104, 95, 104, 105, 110, 116, 6, 312, 4, 99, 97, 108, 108, 9, 14, 95, 111, 112, 101, 114, 97, 116, 111, 114, 46, 99, 97, 108, 108, 6, 313, 10, 97, 116, 116, 114, 103, 101, 116, 116, 101, 114, 8, 19, 111, 112, 101, 114, 97, 116, 111, 114, 46, 97, 116, 116, 114, 103, 101, 116, 116, 101, 114, 6, 314, 10, 105, 116, 101, 109, 103, 101, 116, 116, 101, 114, 8, 19, 111, 112, 101, 114, 97, 116, 111, 114, 46, 105, 116, 101, 109, 103, 101, 116, 116, 101, 114, 6, 315, 12, 109, 101, 116, 104, 111, 100, 99, 97, 108, 108, 101, 114, 8, 21, 111, 112, 101, 114, 97, 116, 111, 114, 46, 109, 101, 116, 104, 111, 100, 99, 97, 108, 108, 101, 114] 0), (.bool true), (.bool false), (sv "_operator" 317)] 0), #[]⟩
noncomputable def o_12_2 (P : Params) : Obj := ⟨(.type "dict"), .none, (.dict #[kE P "__name__" 254 (sv "_operator" 253), kE P "__doc__" 255 (.builtin "off-the-table:_operator.__doc__:shared#opaque"), kE P "__package__" 257 (sv "" 256), kE P "__loader__" 258 (.builtin "off-the-table:_operator.__loader__:shared#opaque"), kE P "__spec__" 259 (.builtin "off-the-table:_operator.__spec__:shared#opaque"), kE P "truth" 260 (.builtin "_operator.truth"), kE P "contains" 261 (.builtin "_operator.contains"), kE P "indexOf" 262 (.builtin "_operator.indexOf"), kE P "countOf" 263 (.builtin "_operator.countOf"), kE P "is_" 264 (.builtin "_operator.is_"), kE P "is_not" 265 (.builtin "_operator.is_not"), kE P "index" 266 (.builtin "_operator.index"), kE P "add" 267 (.builtin "_operator.add"), kE P "sub" 268 (.builtin "_operator.sub"), kE P "mul" 269 (.builtin "_operator.mul"), kE P "matmul" 270 (.builtin "_operator.matmul"), kE P "floordiv" 271 (.builtin "_operator.floordiv"), kE P "truediv" 272 (.builtin "_operator.truediv"), kE P "mod" 273 (.builtin "_operator.mod"), kE P "neg" 274 (.builtin "_operator.neg"), kE P "pos" 275 (.builtin "_operator.pos"), kE P "abs" 276 (.builtin "_operator.abs"), kE P "inv" 277 (.builtin "_operator.inv"), kE P "invert" 278 (.builtin "_operator.invert"), kE P "lshift" 279 (.builtin "_operator.lshift"), kE P "rshift" 280 (.builtin "_operator.rshift"), kE P "not_" 281 (.builtin "_operator.not_"), kE P "and_" 282 (.builtin "_operator.and_"), kE P "xor" 283 (.builtin "_operator.xor"), kE P "or_" 284 (.builtin "_operator.or_"), kE P "iadd" 285 (.builtin "_operator.iadd"), kE P "isub" 286 (.builtin "_operator.isub"), kE P "imul" 287 (.builtin "_operator.imul"), kE P "imatmul" 288 (.builtin "_operator.imatmul"), kE P "ifloordiv" 289 (.builtin "_operator.ifloordiv"), kE P "itruediv" 290 (.builtin "_operator.itruediv"), kE P "imod" 291 (.builtin "_operator.imod"), kE P "ilshift" 292 (.builtin "_operator.ilshift"), kE P "irshift" 293 (.builtin "_operator.irshift"), kE P "iand" 294 (.builtin "_operator.iand"), kE P "ixor" 295 (.builtin "_operator.ixor"), kE P "ior" 296 (.builtin "_operator.ior"), kE P "concat" 297 (.builtin "_operator.concat"), kE P "iconcat" 298 (.builtin "_operator.iconcat"), kE P "getitem" 299 (.builtin "_operator.getitem"), kE P "setitem" 300 (.builtin "_operator.setitem"), kE P "delitem" 301 (.builtin "_operator.delitem"), kE P "pow" 302 (.builtin "_operator.pow"), kE P "ipow" 303 (.builtin "_operator.ipow"), kE P "eq" 304 (.builtin "_operator.eq"), kE P "ne" 305 (.builtin "_operator.ne"), kE P "lt" 306 (.builtin "_operator.lt"), kE P "le" 307 (.builtin "_operator.le"), kE P "gt" 308 (.builtin "_operator.gt"), kE P "ge" 309 (.builtin "_operator.ge"), kE P "_compare_digest" 310 (.builtin "off-the-table:_operator._compare_digest:shared#opaque"), kE P "length_hint" 311 (.builtin "_operator.length_hint"), kE P "call" 312 (.builtin "_operator.call"), kE P "attrgetter" 313 (.builtin "off-the-table:_operator.attrgetter:shared#opaque"), kE P "itemgetter" 314 (.type "operator.itemgetter"), kE P "methodcaller" 315 (.builtin "off-the-table:_operator.methodcaller:shared#opaque")] 61), #[]⟩
noncomputable def o_31 (P : Params) : Obj := ⟨(.type "code"), .none, (.fields #[(sv "<module>" 339), (sv "<module>" 340), (sv "/claim/cut.py" 341), (.int (1) 0), (.int (0) 0), (.int (0) 0), (.int (0) 0), (.int (0) 0), (.ref 29), (.bool false), (.int (338) 0), (.ref 30), .none, .none, .none, .none, (.int (342) 0), (.int (1) 0), (sv "/claim/cut.py" 343)]), #[]⟩
noncomputable def o_32 (P : Params) : Obj := ⟨(.type "frame"), .none, .plain, #[(.some (.ref 31)), (.some (.ref 3)), (.some (.ref 3)), .none, (.some (sv "__main__" 164)), .none, (.some (.ref 0))]⟩
noncomputable def o_3_2 (P : Params) : Obj := ⟨(.type "dict"), .none, (.dict #[kE P "__name__" 165 (sv "pyrsistent._pvector" 351), kE P "__doc__" 166 .none, kE P "__package__" 167 .none, kE P "__loader__" 168 (.builtin "__main__.__loader__#opaque"), kE P "__spec__" 169 .none, kE P "__annotations__" 170 (.ref 6), kE P "__builtins__" 171 (.ref 4), kE P "__file__" 173 (sv "/claim/cut.py" 172), kE P "__cached__" 174 .none, kE P "eq" 325 (.builtin "_operator.eq"), kE P "ge" 328 (.builtin "_operator.ge"), kE P "gt" 331 (.builtin "_operator.gt"), kE P "le" 334 (.builtin "_operator.le"), kE P "lt" 337 (.builtin "_operator.lt"), kE P "_wall" 350 (.ref 39), kE P "_bitcount" 359 (.ref 46), kE P "BRANCH_FACTOR" 361 (.int (32) 360), kE P "BIT_MASK" 364 (.int (31) 363), kE P "SHIFT" 369 (.int (5) 368), kE P "compare_pvector" 378 (.ref 54), kE P "_index_or_slice" 386 (.ref 61)] 21), #[]⟩
noncomputable def o_30 (P : Params) : Obj := ⟨.none, .none, (.fields #[(.int (2) 0), (.int (0) 0), (.ref 38), (.int (6) 0), (.int (0) 0), (.ref 45), (.int (11) 0), (.int (0) 0), (.ref 53), (.int (13) 0), (.int (0) 0), (.ref 60)]), #[]⟩
noncomputable def o_35 (P : Params) : Obj := ⟨(.type "tuple"), .none, (.seq #[(sv "k" 347)] 0), #[]⟩
noncomputable def o_37 (P : Params) : Obj := ⟨.none, .none, (.func (fdAt (path := [1]) rfl "_wall" "_wall" 0 [] .none .none .none .none .none .none .none 0)), #[]⟩
noncomputable def o_38 (P : Params) : Obj := ⟨(.type "code"), .none, (.fields #[(sv "_wall" 344), (sv "_wall" 345), (sv "/claim/cut.py" 346), (.int (2) 0), (.int (1) 0), (.int (0) 0), (.int (0) 0), (.int (3) 0), (.ref 33), (.bool true), (.int (338) 0), (.ref 34), .none, (.ref 35), (.ref 36), (.ref 37), (.int (348) 0), (.int (2) 0), (sv "/claim/cut.py" 349)]), #[]⟩
noncomputable def o_39 (P : Params) : Obj := ⟨(.type "function"), .none, (.func (fdAt (path := [1]) rfl "_wall" "_wall" 3 [] .none .none .none (sv "__main__" 164) .none (.ref 38) .none 0)), #[]⟩
noncomputable def o_42 (P : Params) : Obj := ⟨(.type "tuple"), .none, (.seq #[(sv "val" 356)] 0), #[]⟩
noncomputable def o_44 (P : Params) : Obj := ⟨.none, .none, (.func (fdAt (path := [3]) rfl "_bitcount" "_bitcount" 0 [] .none .none .none .none .none .none .none 0)), #[]⟩
noncomputable def o_45 (P : Params) : Obj := ⟨(.type "code"), .none, (.fields #[(sv "_bitcount" 353), (sv "_bitcount" 354), (sv "/claim/cut.py" 355), (.int (6) 0), (.int (1) 0), (.int (0) 0), (.int (0) 0), (.int (3) 0), (.ref 40), (.bool true), (.int (338) 0), (.ref 41), .none, (.ref 42), (.ref 43), (.ref 44), (.int (357) 0), (.int (6) 0), (sv "/claim/cut.py" 358)]), #[]⟩
noncomputable def o_46 (P : Params) : Obj := ⟨(.type "function"), .none, (.func (fdAt (path := [3]) rfl "_bitcount" "_bitcount" 3 [] .none .none .none (sv "pyrsistent._pvector" 351) .none (.ref 45) .none 0)), #[]⟩
noncomputable def o_47 (P : Params) : Obj := ⟨(.type "frame"), .none, (.dict #[kE P "val" 365 (.int (31) 363)] 1), #[]⟩
noncomputable def o_50 (P : Params) : Obj := ⟨(.type "tuple"), .none, (.seq #[(sv "v" 373), (sv "other" 374), (sv "operator" 375)] 0), #[]⟩
noncomputable def o_52 (P : Params) : Obj := ⟨.none, .none, (.func (fdAt (path := [7]) rfl "compare_pvector" "compare_pvector" 0 [] .none .none .none .none .none .none .none 0)), #[]⟩
noncomputable def o_53 (P : Params) : Obj := ⟨(.type "code"), .none, (.fields #[(sv "compare_pvector" 370), (sv "compare_pvector" 371), (sv "/claim/cut.py" 372), (.int (11) 0), (.int (3) 0), (.int (0) 0), (.int (0) 0), (.int (3) 0), (.ref 48), (.bool true), (.int (338) 0), (.ref 49), .none, (.ref 50), (.ref 51), (.ref 52), (.int (376) 0), (.int (11) 0), (sv "/claim/cut.py" 377)]), #[]⟩
noncomputable def o_54 (P : Params) : Obj := ⟨(.type "function"), .none, (.func (fdAt (path := [7]) rfl "compare_pvector" "compare_pvector" 3 [] .none .none .none (sv "pyrsistent._pvector" 351) .none (.ref 53) .none 0)), #[]⟩
noncomputable def o_57 (P : Params) : Obj := ⟨(.type "tuple"), .none, (.seq #[(sv "index" 382), (sv "stop" 383)] 0), #[]⟩
noncomputable def o_59 (P : Params) : Obj := ⟨.none, .none, (.func (fdAt (path := [8]) rfl "_index_or_slice" "_index_or_slice" 0 [] .none .none .none .none .none .none .none 0)), #[]⟩
noncomputable def o_60 (P : Params) : Obj := ⟨(.type "code"), .none, (.fields #[(sv "_index_or_slice" 379), (sv "_index_or_slice" 380), (sv "/claim/cut.py" 381), (.int (13) 0), (.int (2) 0), (.int (0) 0), (.int (0) 0), (.int (3) 0), (.ref 55), (.bool true), (.int (338) 0), (.ref 56), .none, (.ref 57), (.ref 58), (.ref 59), (.int (384) 0), (.int (13) 0), (sv "/claim/cut.py" 385)]), #[]⟩
noncomputable def o_61 (P : Params) : Obj := ⟨(.type "function"), .none, (.func (fdAt (path := [8]) rfl "_index_or_slice" "_index_or_slice" 3 [] .none .none .none (sv "pyrsistent._pvector" 351) .none (.ref 60) .none 0)), #[]⟩
noncomputable def o_3_3 (P : Params) : Obj := ⟨(.type "dict"), .none, (.dict #[kE P "__name__" 165 (sv "pyrsistent._pvector" 351), kE P "__doc__" 166 .none, kE P "__package__" 167 .none, kE P "__loader__" 168 (.builtin "__main__.__loader__#opaque"), kE P "__spec__" 169 .none, kE P "__annotations__" 170 (.ref 6), kE P "__builtins__" 171 (.ref 4), kE P "__file__" 173 (sv "/claim/cut.py" 172), kE P "__cached__" 174 .none, kE P "eq" 325 (.builtin "_operator.eq"), kE P "ge" 328 (.builtin "_operator.ge"), kE P "gt" 331 (.builtin "_operator.gt"), kE P "le" 334 (.builtin "_operator.le"), kE P "lt" 337 (.builtin "_operator.lt"), kE P "_wall" 350 (.ref 39), kE P "_bitcount" 359 (.ref 46), kE P "BRANCH_FACTOR" 361 (.int (32) 360), kE P "BIT_MASK" 364 (.int (31) 363), kE P "SHIFT" 369 (.int (5) 368), kE P "compare_pvector" 378 (.ref 54), kE P "_index_or_slice" 386 (.ref 61), kE P "PythonPVector" 731 (.ref 303)] 22), #[]⟩
noncomputable def o_30_2 (P : Params) : Obj := ⟨.none, .none, (.fields #[(.int (2) 0), (.int (0) 0), (.ref 38), (.int (6) 0), (.int (0) 0), (.ref 45), (.int (11) 0), (.int (0) 0), (.ref 53), (.int (13) 0), (.int (0) 0), (.ref 60), (.int (17) 0), (.int (0) 0), (.ref 68)]), #[]⟩
noncomputable def o_62 (P : Params) : Obj := ⟨(.type "tuple"), .none, (.seq #[(.type "object")] 0), #[]⟩
noncomputable def o_63 (P : Params) : Obj := ⟨(.type "builtin_function_or_method"), .none, (.fields #[(.builtin "type.__prepare__"), (.type "type")]), #[]⟩
noncomputable def o_64 (P : Params) : Obj := ⟨(.type "dict"), .none, (.dict #[kE P "__module__" 394 (sv "pyrsistent._pvector" 351), kE P "__qualname__" 396 (sv "PythonPVector" 395), kE P "__firstlineno__" 398 (.int (17) 397), kE P "__slots__" 405 (.ref 70), kE P "__new__" 418 (.ref 78), kE P "__len__" 425 (.ref 85), kE P "__getitem__" 433 (.ref 92), kE P "__add__" 441 (.ref 99), kE P "__repr__" 448 (.ref 106), kE P "__str__" 455 (.ref 113), kE P "__iter__" 462 (.ref 120), kE P "__ne__" 470 (.ref 127), kE P "__eq__" 478 (.ref 134), kE P "__gt__" 486 (.ref 141), kE P "__lt__" 494 (.ref 148), kE P "__ge__" 502 (.ref 155), kE P "__le__" 510 (.ref 162), kE P "__mul__" 518 (.ref 169), kE P "__rmul__" 519 (.ref 169), kE P "_fill_list" 530 (.ref 176), kE P "tolist" 538 (.ref 183), kE P "_totuple" 545 (.ref 190), kE P "set" 555 (.ref 197), kE P "_do_set" 568 (.ref 204), kE P "_node_for" 590 (.ref 213), kE P "_create_new_root" 599 (.ref 221), kE P "append" 610 (.ref 228), kE P "_new_path" 619 (.ref 235), kE P "_mutating_insert_tail" 626 (.ref 242), kE P "_mutating_fill_tail" 638 (.ref 249), kE P "_mutating_extend" 648 (.ref 256), kE P "extend" 658 (.ref 263), kE P "_push_tail" 670 (.ref 270), kE P "index" 680 (.ref 277), kE P "count" 688 (.ref 284), kE P "delete" 698 (.ref 292), kE P "remove" 707 (.ref 299), kE P "__static_attributes__" 713 (.ref 300), kE P "__classcell__" 714 (.ref 65)] 39), #[]⟩
noncomputable def o_65 (P : Params) : Obj := ⟨(.type "cell"), .none, (.cell (.some (.ref 303))), #[]⟩
noncomputable def o_67 (P : Params) : Obj := ⟨.none, .none, (.fields #[(.int (20) 0), (.int (4) 0), (.ref 77), (.int (29) 0), (.int (4) 0), (.ref 84), (.int (32) 0), (.int (4) 0), (.ref 91), (.int (41) 0), (.int (4) 0), (.ref 98), (.int (44) 0), (.int (4) 0), (.ref 105), (.int (47) 0), (.int (4) 0), (.ref 112), (.int (50) 0), (.int (4) 0), (.ref 119), (.int (53) 0), (.int (4) 0), (.ref 126), (.int (56) 0), (.int (4) 0), (.ref 133), (.int (59) 0), (.int (4) 0), (.ref 140), (.int (62) 0), (.int (4) 0), (.ref 147), (.int (65) 0), (.int (4) 0), (.ref 154), (.int (68) 0), (.int (4) 0), (.ref 161), (.int (71) 0), (.int (4) 0), (.ref 168), (.int (79) 0), (.int (4) 0), (.ref 175), (.int (87) 0), (.int (4) 0), (.ref 182), (.int (93) 0), (.int (4) 0), (.ref 189), (.int (96) 0), (.int (4) 0), (.ref 196), (.int (111) 0), (.int (4) 0), (.ref 203), (.int (121) 0), (.int (4) 0), (.ref 210), (.int (131) 0), (.int (4) 0), (.ref 220), (.int (140) 0), (.int (4) 0), (.ref 227), (.int (148) 0), (.int (4) 0), (.ref 234), (.int (153) 0), (.int (4) 0), (.ref 241), (.int (157) 0), (.int (4) 0), (.ref 248), (.int (165) 0), (.int (4) 0), (.ref 255), (.int (174) 0), (.int (4) 0), (.ref 262), (.int (182) 0), (.int (4) 0), (.ref 269), (.int (194) 0), (.int (4) 0), (.ref 276), (.int (197) 0), (.int (4) 0), (.ref 283), (.int (200) 0), (.int (4) 0), (.ref 291), (.int (205) 0), (.int (4) 0), (.ref 298)]), #[]⟩
noncomputable def o_68 (P : Params) : Obj := ⟨(.type "code"), .none, (.fields #[(sv "PythonPVector" 389), (sv "PythonPVector" 390), (sv "/claim/cut.py" 391), (.int (17) 0), (.int (0) 0), (.int (0) 0), (.int (0) 0), (.int (0) 0), (.ref 66), (.bool false), (.int (338) 0), (.ref 67), .none, .none, .none, .none, (.int (392) 0), (.int (17) 0), (sv "/claim/cut.py" 393)]), #[]⟩
noncomputable def o_69 (P : Params) : Obj := ⟨(.type "frame"), .none, .plain, #[(.some (.ref 68)), (.some (.ref 3)), (.some (.ref 64)), .none, (.some (sv "pyrsistent._pvector" 351)), .none, (.some (.ref 0))]⟩
noncomputable def o_70 (P : Params) : Obj := ⟨(.type "tuple"), .none, (.seq #[(sv "_count" 399), (sv "_shift" 400), (sv "_root" 401), (sv "_tail" 402), (sv "_tail_offset" 403), (sv "__weakref__" 404)] 0), #[]⟩
noncomputable def o_71 (P : Params) : Obj := ⟨(.type "tuple"), .none, (.seq #[(.ref 65)] 0), #[]⟩
noncomputable def o_72 (P : Params) : Obj := ⟨(.type "tuple"), .none, (.seq #[(sv "__class__" 409)] 0), #[]⟩
noncomputable def o_74 (P : Params) : Obj := ⟨(.type "tuple"), .none, (.seq #[(sv "cls" 410), (sv "count" 411), (sv "shift" 412), (sv "root" 413), (sv "tail" 414), (sv "self" 415)] 0), #[]⟩
noncomputable def o_76 (P : Params) : Obj := ⟨.none, .none, (.func (fdAt (path := [9, 1]) rfl "__new__" "PythonPVector.__new__" 0 [] .none .none .none .none .none .none .none 0)), #[]⟩
noncomputable def o_77 (P : Params) : Obj := ⟨(.type "code"), .none, (.fields #[(sv "__new__" 406), (sv "PythonPVector.__new__" 407), (sv "/claim/cut.py" 408), (.int (20) 0), (.int (5) 0), (.int (0) 0), (.int (0) 0), (.int (3) 0), (.ref 72), (.bool true), (.int (338) 0), (.ref 73), .none, (.ref 74), (.ref 75), (.ref 76), (.int (416) 0), (.int (20) 0), (sv "/claim/cut.py" 417)]), #[]⟩
noncomputable def o_78 (P : Params) : Obj := ⟨(.type "function"), .none, (.func (fdAt (path := [9, 1]) rfl "__new__" "PythonPVector.__new__" 3 [("__class__", 65)] .none .none .none (sv "pyrsistent._pvector" 351) .none (.ref 77) (.ref 71) 0)), #[]⟩
noncomputable def o_81 (P : Params) : Obj := ⟨(.type "tuple"), .none, (.seq #[(sv "self" 422)] 0), #[]⟩
noncomputable def o_83 (P : Params) : Obj := ⟨.none, .none, (.func (fdAt (path := [9, 2]) rfl "__len__" "PythonPVector.__len__" 0 [] .none .none .none .none .none .none .none 0)), #[]⟩
noncomputable def o_84 (P : Params) : Obj := ⟨(.type "code"), .none, (.fields #[(sv "__len__" 419), (sv "PythonPVector.__len__" 420), (sv "/claim/cut.py" 421), (.int (29) 0), (.int (1) 0), (.int (0) 0), (.int (0) 0), (.int (3) 0), (.ref 79), (.bool true), (.int (338) 0), (.ref 80), .none, (.ref 81), (.ref 82), (.ref 83), (.int (423) 0), (.int (29) 0), (sv "/claim/cut.py" 424)]), #[]⟩
noncomputable def o_85 (P : Params) : Obj := ⟨(.type "function"), .none, (.func (fdAt (path := [9, 2]) rfl "__len__" "PythonPVector.__len__" 3 [] .none .none .none (sv "pyrsistent._pvector" 351) .none (.ref 84) .none 0)), #[]⟩
noncomputable def o_88 (P : Params) : Obj := ⟨(.type "tuple"), .none, (.seq #[(sv "self" 429), (sv "index" 430)] 0), #[]⟩
noncomputable def o_90 (P : Params) : Obj := ⟨.none, .none, (.func (fdAt (path := [9, 3]) rfl "__getitem__" "PythonPVector.__getitem__" 0 [] .none .none .none .none .none .none .none 0)), #[]⟩
noncomputable def o_91 (P : Params) : Obj := ⟨(.type "code"), .none, (.fields #[(sv "__getitem__" 426), (sv "PythonPVector.__getitem__" 427), (sv "/claim/cut.py" 428), (.int (32) 0), (.int (2) 0), (.int (0) 0), (.int (0) 0), (.int (3) 0), (.ref 86), (.bool true), (.int (338) 0), (.ref 87), .none, (.ref 88), (.ref 89), (.ref 90), (.int (431) 0), (.int (32) 0), (sv "/claim/cut.py" 432)]), #[]⟩
noncomputable def o_92 (P : Params) : Obj := ⟨(.type "function"), .none, (.func (fdAt (path := [9, 3]) rfl "__getitem__" "PythonPVector.__getitem__" 3 [] .none .none .none (sv "pyrsistent._pvector" 351) .none (.ref 91) .none 0)), #[]⟩
noncomputable def o_95 (P : Params) : Obj := ⟨(.type "tuple"), .none, (.seq #[(sv "self" 437), (sv "other" 438)] 0), #[]⟩
noncomputable def o_97 (P : Params) : Obj := ⟨.none, .none, (.func (fdAt (path := [9, 4]) rfl "__add__" "PythonPVector.__add__" 0 [] .none .none .none .none .none .none .none 0)), #[]⟩
noncomputable def o_98 (P : Params) : Obj := ⟨(.type "code"), .none, (.fields #[(sv "__add__" 434), (sv "PythonPVector.__add__" 435), (sv "/claim/cut.py" 436), (.int (41) 0), (.int (2) 0), (.int (0) 0), (.int (0) 0), (.int (3) 0), (.ref 93), (.bool true), (.int (338) 0), (.ref 94), .none, (.ref 95), (.ref 96), (.ref 97), (.int (439) 0), (.int (41) 0), (sv "/claim/cut.py" 440)]), #[]⟩
noncomputable def o_99 (P : Params) : Obj := ⟨(.type "function"), .none, (.func (fdAt (path := [9, 4]) rfl "__add__" "PythonPVector.__add__" 3 [] .none .none .none (sv "pyrsistent._pvector" 351) .none (.ref 98) .none 0)), #[]⟩
noncomputable def o_102 (P : Params) : Obj := ⟨(.type "tuple"), .none, (.seq #[(sv "self" 445)] 0), #[]⟩
noncomputable def o_104 (P : Params) : Obj := ⟨.none, .none, (.func (fdAt (path := [9, 5]) rfl "__repr__" "PythonPVector.__repr__" 0 [] .none .none .none .none .none .none .none 0)), #[]⟩
noncomputable def o_105 (P : Params) : Obj := ⟨(.type "code"), .none, (.fields #[(sv "__repr__" 442), (sv "PythonPVector.__repr__" 443), (sv "/claim/cut.py" 444), (.int (44) 0), (.int (1) 0), (.int (0) 0), (.int (0) 0), (.int (3) 0), (.ref 100), (.bool true), (.int (338) 0), (.ref 101), .none, (.ref 102), (.ref 103), (.ref 104), (.int (446) 0), (.int (44) 0), (sv "/claim/cut.py" 447)]), #[]⟩
noncomputable def o_106 (P : Params) : Obj := ⟨(.type "function"), .none, (.func (fdAt (path := [9, 5]) rfl "__repr__" "PythonPVector.__repr__" 3 [] .none .none .none (sv "pyrsistent._pvector" 351) .none (.ref 105) .none 0)), #[]⟩
noncomputable def o_109 (P : Params) : Obj := ⟨(.type "tuple"), .none, (.seq #[(sv "self" 452)] 0), #[]⟩
noncomputable def o_111 (P : Params) : Obj := ⟨.none, .none, (.func (fdAt (path := [9, 6]) rfl "__str__" "PythonPVector.__str__" 0 [] .none .none .none .none .none .none .none 0)), #[]⟩
noncomputable def o_112 (P : Params) : Obj := ⟨(.type "code"), .none, (.fields #[(sv "__str__" 449), (sv "PythonPVector.__str__" 450), (sv "/claim/cut.py" 451), (.int (47) 0), (.int (1) 0), (.int (0) 0), (.int (0) 0), (.int (3) 0), (.ref 107), (.bool true), (.int (338) 0), (.ref 108), .none, (.ref 109), (.ref 110), (.ref 111), (.int (453) 0), (.int (47) 0), (sv "/claim/cut.py" 454)]), #[]⟩
noncomputable def o_113 (P : Params) : Obj := ⟨(.type "function"), .none, (.func (fdAt (path := [9, 6]) rfl "__str__" "PythonPVector.__str__" 3 [] .none .none .none (sv "pyrsistent._pvector" 351) .none (.ref 112) .none 0)), #[]⟩
noncomputable def o_116 (P : Params) : Obj := ⟨(.type "tuple"), .none, (.seq #[(sv "self" 459)] 0), #[]⟩
noncomputable def o_118 (P : Params) : Obj := ⟨.none, .none, (.func (fdAt (path := [9, 7]) rfl "__iter__" "PythonPVector.__iter__" 0 [] .none .none .none .none .none .none .none 0)), #[]⟩
noncomputable def o_119 (P : Params) : Obj := ⟨(.type "code"), .none, (.fields #[(sv "__iter__" 456), (sv "PythonPVector.__iter__" 457), (sv "/claim/cut.py" 458), (.int (50) 0), (.int (1) 0), (.int (0) 0), (.int (0) 0), (.int (3) 0), (.ref 114), (.bool true), (.int (338) 0), (.ref 115), .none, (.ref 116), (.ref 117), (.ref 118), (.int (460) 0), (.int (50) 0), (sv "/claim/cut.py" 461)]), #[]⟩
noncomputable def o_120 (P : Params) : Obj := ⟨(.type "function"), .none, (.func (fdAt (path := [9, 7]) rfl "__iter__" "PythonPVector.__iter__" 3 [] .none .none .none (sv "pyrsistent._pvector" 351) .none (.ref 119) .none 0)), #[]⟩
noncomputable def o_123 (P : Params) : Obj := ⟨(.type "tuple"), .none, (.seq #[(sv "self" 466), (sv "other" 467)] 0), #[]⟩
noncomputable def o_125 (P : Params) : Obj := ⟨.none, .none, (.func (fdAt (path := [9, 8]) rfl "__ne__" "PythonPVector.__ne__" 0 [] .none .none .none .none .none .none .none 0)), #[]⟩
noncomputable def o_126 (P : Params) : Obj := ⟨(.type "code"), .none, (.fields #[(sv "__ne__" 463), (sv "PythonPVector.__ne__" 464), (sv "/claim/cut.py" 465), (.int (53) 0), (.int (2) 0), (.int (0) 0), (.int (0) 0), (.int (3) 0), (.ref 121), (.bool true), (.int (338) 0), (.ref 122), .none, (.ref 123), (.ref 124), (.ref 125), (.int (468) 0), (.int (53) 0), (sv "/claim/cut.py" 469)]), #[]⟩
noncomputable def o_127 (P : Params) : Obj := ⟨(.type "function"), .none, (.func (fdAt (path := [9, 8]) rfl "__ne__" "PythonPVector.__ne__" 3 [] .none .none .none (sv "pyrsistent._pvector" 351) .none (.ref 126) .none 0)), #[]⟩
noncomputable def o_130 (P : Params) : Obj := ⟨(.type "tuple"), .none, (.seq #[(sv "self" 474), (sv "other" 475)] 0), #[]⟩
noncomputable def o_132 (P : Params) : Obj := ⟨.none, .none, (.func (fdAt (path := [9, 9]) rfl "__eq__" "PythonPVector.__eq__" 0 [] .none .none .none .none .none .none .none 0)), #[]⟩
noncomputable def o_133 (P : Params) : Obj := ⟨(.type "code"), .none, (.fields #[(sv "__eq__" 471), (sv "PythonPVector.__eq__" 472), (sv "/claim/cut.py" 473), (.int (56) 0), (.int (2) 0), (.int (0) 0), (.int (0) 0), (.int (3) 0), (.ref 128), (.bool true), (.int (338) 0), (.ref 129), .none, (.ref 130), (.ref 131), (.ref 132), (.int (476) 0), (.int (56) 0), (sv "/claim/cut.py" 477)]), #[]⟩
noncomputable def o_134 (P : Params) : Obj := ⟨(.type "function"), .none, (.func (fdAt (path := [9, 9]) rfl "__eq__" "PythonPVector.__eq__" 3 [] .none .none .none (sv "pyrsistent._pvector" 351) .none (.ref 133) .none 0)), #[]⟩
noncomputable def o_137 (P : Params) : Obj := ⟨(.type "tuple"), .none, (.seq #[(sv "self" 482), (sv "other" 483)] 0), #[]⟩
noncomputable def o_139 (P : Params) : Obj := ⟨.none, .none, (.func (fdAt (path := [9, 10]) rfl "__gt__" "PythonPVector.__gt__" 0 [] .none .none .none .none .none .none .none 0)), #[]⟩
noncomputable def o_140 (P : Params) : Obj := ⟨(.type "code"), .none, (.fields #[(sv "__gt__" 479), (sv "PythonPVector.__gt__" 480), (sv "/claim/cut.py" 481), (.int (59) 0), (.int (2) 0), (.int (0) 0), (.int (0) 0), (.int (3) 0), (.ref 135), (.bool true), (.int (338) 0), (.ref 136), .none, (.ref 137), (.ref 138), (.ref 139), (.int (484) 0), (.int (59) 0), (sv "/claim/cut.py" 485)]), #[]⟩
noncomputable def o_141 (P : Params) : Obj := ⟨(.type "function"), .none, (.func (fdAt (path := [9, 10]) rfl "__gt__" "PythonPVector.__gt__" 3 [] .none .none .none (sv "pyrsistent._pvector" 351) .none (.ref 140) .none 0)), #[]⟩
noncomputable def o_144 (P : Params) : Obj := ⟨(.type "tuple"), .none, (.seq #[(sv "self" 490), (sv "other" 491)] 0), #[]⟩
noncomputable def o_146 (P : Params) : Obj := ⟨.none, .none, (.func (fdAt (path := [9, 11]) rfl "__lt__" "PythonPVector.__lt__" 0 [] .none .none .none .none .none .none .none 0)), #[]⟩
noncomputable def o_147 (P : Params) : Obj := ⟨(.type "code"), .none, (.fields #[(sv "__lt__" 487), (sv "PythonPVector.__lt__" 488), (sv "/claim/cut.py" 489), (.int (62) 0), (.int (2) 0), (.int (0) 0), (.int (0) 0), (.int (3) 0), (.ref 142), (.bool true), (.int (338) 0), (.ref 143), .none, (.ref 144), (.ref 145), (.ref 146), (.int (492) 0), (.int (62) 0), (sv "/claim/cut.py" 493)]), #[]⟩
noncomputable def o_148 (P : Params) : Obj := ⟨(.type "function"), .none, (.func (fdAt (path := [9, 11]) rfl "__lt__" "PythonPVector.__lt__" 3 [] .none .none .none (sv "pyrsistent._pvector" 351) .none (.ref 147) .none 0)), #[]⟩
noncomputable def o_151 (P : Params) : Obj := ⟨(.type "tuple"), .none, (.seq #[(sv "self" 498), (sv "other" 499)] 0), #[]⟩
noncomputable def o_153 (P : Params) : Obj := ⟨.none, .none, (.func (fdAt (path := [9, 12]) rfl "__ge__" "PythonPVector.__ge__" 0 [] .none .none .none .none .none .none .none 0)), #[]⟩
noncomputable def o_154 (P : Params) : Obj := ⟨(.type "code"), .none, (.fields #[(sv "__ge__" 495), (sv "PythonPVector.__ge__" 496), (sv "/claim/cut.py" 497), (.int (65) 0), (.int (2) 0), (.int (0) 0), (.int (0) 0), (.int (3) 0), (.ref 149), (.bool true), (.int (338) 0), (.ref 150), .none, (.ref 151), (.ref 152), (.ref 153), (.int (500) 0), (.int (65) 0), (sv "/claim/cut.py" 501)]), #[]⟩
noncomputable def o_155 (P : Params) : Obj := ⟨(.type "function"), .none, (.func (fdAt (path := [9, 12]) rfl "__ge__" "PythonPVector.__ge__" 3 [] .none .none .none (sv "pyrsistent._pvector" 351) .none (.ref 154) .none 0)), #[]⟩
noncomputable def o_158 (P : Params) : Obj := ⟨(.type "tuple"), .none, (.seq #[(sv "self" 506), (sv "other" 507)] 0), #[]⟩
noncomputable def o_160 (P : Params) : Obj := ⟨.none, .none, (.func (fdAt (path := [9, 13]) rfl "__le__" "PythonPVector.__le__" 0 [] .none .none .none .none .none .none .none 0)), #[]⟩
noncomputable def o_161 (P : Params) : Obj := ⟨(.type "code"), .none, (.fields #[(sv "__le__" 503), (sv "PythonPVector.__le__" 504), (sv "/claim/cut.py" 505), (.int (68) 0), (.int (2) 0), (.int (0) 0), (.int (0) 0), (.int (3) 0), (.ref 156), (.bool true), (.int (338) 0), (.ref 157), .none, (.ref 158), (.ref 159), (.ref 160), (.int (508) 0), (.int (68) 0), (sv "/claim/cut.py" 509)]), #[]⟩
noncomputable def o_162 (P : Params) : Obj := ⟨(.type "function"), .none, (.func (fdAt (path := [9, 13]) rfl "__le__" "PythonPVector.__le__" 3 [] .none .none .none (sv "pyrsistent._pvector" 351) .none (.ref 161) .none 0)), #[]⟩
noncomputable def o_165 (P : Params) : Obj := ⟨(.type "tuple"), .none, (.seq #[(sv "self" 514), (sv "times" 515)] 0), #[]⟩
noncomputable def o_167 (P : Params) : Obj := ⟨.none, .none, (.func (fdAt (path := [9, 14]) rfl "__mul__" "PythonPVector.__mul__" 0 [] .none .none .none .none .none .none .none 0)), #[]⟩
noncomputable def o_168 (P : Params) : Obj := ⟨(.type "code"), .none, (.fields #[(sv "__mul__" 511), (sv "PythonPVector.__mul__" 512), (sv "/claim/cut.py" 513), (.int (71) 0), (.int (2) 0), (.int (0) 0), (.int (0) 0), (.int (3) 0), (.ref 163), (.bool true), (.int (338) 0), (.ref 164), .none, (.ref 165), (.ref 166), (.ref 167), (.int (516) 0), (.int (71) 0), (sv "/claim/cut.py" 517)]), #[]⟩
noncomputable def o_169 (P : Params) : Obj := ⟨(.type "function"), .none, (.func (fdAt (path := [9, 14]) rfl "__mul__" "PythonPVector.__mul__" 3 [] .none .none .none (sv "pyrsistent._pvector" 351) .none (.ref 168) .none 0)), #[]⟩
noncomputable def o_172 (P : Params) : Obj := ⟨(.type "tuple"), .none, (.seq #[(sv "self" 523), (sv "node" 524), (sv "shift" 525), (sv "the_list" 526), (sv "n" 527)] 0), #[]⟩
noncomputable def o_174 (P : Params) : Obj := ⟨.none, .none, (.func (fdAt (path := [9, 16]) rfl "_fill_list" "PythonPVector._fill_list" 0 [] .none .none .none .none .none .none .none 0)), #[]⟩
noncomputable def o_175 (P : Params) : Obj := ⟨(.type "code"), .none, (.fields #[(sv "_fill_list" 520), (sv "PythonPVector._fill_list" 521), (sv "/claim/cut.py" 522), (.int (79) 0), (.int (4) 0), (.int (0) 0), (.int (0) 0), (.int (3) 0), (.ref 170), (.bool true), (.int (338) 0), (.ref 171), .none, (.ref 172), (.ref 173), (.ref 174), (.int (528) 0), (.int (79) 0), (sv "/claim/cut.py" 529)]), #[]⟩
noncomputable def o_176 (P : Params) : Obj := ⟨(.type "function"), .none, (.func (fdAt (path := [9, 16]) rfl "_fill_list" "PythonPVector._fill_list" 3 [] .none .none .none (sv "pyrsistent._pvector" 351) .none (.ref 175) .none 0)), #[]⟩
noncomputable def o_179 (P : Params) : Obj := ⟨(.type "tuple"), .none, (.seq #[(sv "self" 534), (sv "the_list" 535)] 0), #[]⟩
noncomputable def o_181 (P : Params) : Obj := ⟨.none, .none, (.func (fdAt (path := [9, 17]) rfl "tolist" "PythonPVector.tolist" 0 [] .none .none .none .none .none .none .none 0)), #[]⟩
noncomputable def o_182 (P : Params) : Obj := ⟨(.type "code"), .none, (.fields #[(sv "tolist" 531), (sv "PythonPVector.tolist" 532), (sv "/claim/cut.py" 533), (.int (87) 0), (.int (1) 0), (.int (0) 0), (.int (0) 0), (.int (3) 0), (.ref 177), (.bool true), (.int (338) 0), (.ref 178), .none, (.ref 179), (.ref 180), (.ref 181), (.int (536) 0), (.int (87) 0), (sv "/claim/cut.py" 537)]), #[]⟩
noncomputable def o_183 (P : Params) : Obj := ⟨(.type "function"), .none, (.func (fdAt (path := [9, 17]) rfl "tolist" "PythonPVector.tolist" 3 [] .none .none .none (sv "pyrsistent._pvector" 351) .none (.ref 182) .none 0)), #[]⟩
noncomputable def o_186 (P : Params) : Obj := ⟨(.type "tuple"), .none, (.seq #[(sv "self" 542)] 0), #[]⟩
noncomputable def o_188 (P : Params) : Obj := ⟨.none, .none, (.func (fdAt (path := [9, 18]) rfl "_totuple" "PythonPVector._totuple" 0 [] .none .none .none .none .none .none .none 0)), #[]⟩
noncomputable def o_189 (P : Params) : Obj := ⟨(.type "code"), .none, (.fields #[(sv "_totuple" 539), (sv "PythonPVector._totuple" 540), (sv "/claim/cut.py" 541), (.int (93) 0), (.int (1) 0), (.int (0) 0), (.int (0) 0), (.int (3) 0), (.ref 184), (.bool true), (.int (338) 0), (.ref 185), .none, (.ref 186), (.ref 187), (.ref 188), (.int (543) 0), (.int (93) 0), (sv "/claim/cut.py" 544)]), #[]⟩
noncomputable def o_190 (P : Params) : Obj := ⟨(.type "function"), .none, (.func (fdAt (path := [9, 18]) rfl "_totuple" "PythonPVector._totuple" 3 [] .none .none .none (sv "pyrsistent._pvector" 351) .none (.ref 189) .none 0)), #[]⟩
noncomputable def o_193 (P : Params) : Obj := ⟨(.type "tuple"), .none, (.seq #[(sv "self" 549), (sv "i" 550), (sv "val" 551), (sv "new_tail" 552)] 0), #[]⟩
noncomputable def o_195 (P : Params) : Obj := ⟨.none, .none, (.func (fdAt (path := [9, 19]) rfl "set" "PythonPVector.set" 0 [] .none .none .none .none .none .none .none 0)), #[]⟩
noncomputable def o_196 (P : Params) : Obj := ⟨(.type "code"), .none, (.fields #[(sv "set" 546), (sv "PythonPVector.set" 547), (sv "/claim/cut.py" 548), (.int (96) 0), (.int (3) 0), (.int (0) 0), (.int (0) 0), (.int (3) 0), (.ref 191), (.bool true), (.int (338) 0), (.ref 192), .none, (.ref 193), (.ref 194), (.ref 195), (.int (553) 0), (.int (96) 0), (sv "/claim/cut.py" 554)]), #[]⟩
noncomputable def o_197 (P : Params) : Obj := ⟨(.type "function"), .none, (.func (fdAt (path := [9, 19]) rfl "set" "PythonPVector.set" 3 [] .none .none .none (sv "pyrsistent._pvector" 351) .none (.ref 196) .none 0)), #[]⟩
noncomputable def o_200 (P : Params) : Obj := ⟨(.type "tuple"), .none, (.seq #[(sv "self" 559), (sv "level" 560), (sv "node" 561), (sv "i" 562), (sv "val" 563), (sv "ret" 564), (sv "sub_index" 565)] 0), #[]⟩
noncomputable def o_202 (P : Params) : Obj := ⟨.none, .none, (.func (fdAt (path := [9, 20]) rfl "_do_set" "PythonPVector._do_set" 0 [] .none .none .none .none .none .none .none 0)), #[]⟩
noncomputable def o_203 (P : Params) : Obj := ⟨(.type "code"), .none, (.fields #[(sv "_do_set" 556), (sv "PythonPVector._do_set" 557), (sv "/claim/cut.py" 558), (.int (111) 0), (.int (5) 0), (.int (0) 0), (.int (0) 0), (.int (3) 0), (.ref 198), (.bool true), (.int (338) 0), (.ref 199), .none, (.ref 200), (.ref 201), (.ref 202), (.int (566) 0), (.int (111) 0), (sv "/claim/cut.py" 567)]), #[]⟩
noncomputable def o_204 (P : Params) : Obj := ⟨(.type "function"), .none, (.func (fdAt (path := [9, 20]) rfl "_do_set" "PythonPVector._do_set" 3 [] .none .none .none (sv "pyrsistent._pvector" 351) .none (.ref 203) .none 0)), #[]⟩
noncomputable def o_207 (P : Params) : Obj := ⟨(.type "tuple"), .none, (.seq #[(sv "pvector_like" 572), (sv "i" 573), (sv "node" 574), (sv "level" 575)] 0), #[]⟩
noncomputable def o_209 (P : Params) : Obj := ⟨.none, .none, (.func (fdAt (path := [9, 21]) rfl "_node_for" "PythonPVector._node_for" 0 [] .none .none .none .none .none .none .none 0)), #[]⟩
noncomputable def o_210 (P : Params) : Obj := ⟨(.type "code"), .none, (.fields #[(sv "_node_for" 569), (sv "PythonPVector._node_for" 570), (sv "/claim/cut.py" 571), (.int (120) 0), (.int (2) 0), (.int (0) 0), (.int (0) 0), (.int (3) 0), (.ref 205), (.bool true), (.int (338) 0), (.ref 206), .none, (.ref 207), (.ref 208), (.ref 209), (.int (576) 0), (.int (120) 0), (sv "/claim/cut.py" 577)]), #[]⟩
noncomputable def o_211 (P : Params) : Obj := ⟨(.type "function"), .none, (.func (fdAt (path := [9, 21]) rfl "_node_for" "PythonPVector._node_for" 3 [] .none .none .none (sv "pyrsistent._pvector" 351) (.some 214) (.ref 210) .none 0)), #[]⟩
noncomputable def o_212 (P : Params) : Obj := ⟨(.type "dict"), .none, (.dict #[kE P "__module__" 579 (sv "pyrsistent._pvector" 351), kE P "__name__" 582 (sv "_node_for" 581), kE P "__qualname__" 585 (sv "PythonPVector._node_for" 584), kE P "__doc__" 587 .none, kE P "__annotations__" 589 (.ref 214)] 5), #[]⟩
noncomputable def o_213 (P : Params) : Obj := ⟨(.type "staticmethod"), (.some 212), (.fields #[(.ref 211), (.bool false)]), #[]⟩
noncomputable def o_217 (P : Params) : Obj := ⟨(.type "tuple"), .none, (.seq #[(sv "self" 594), (sv "new_shift" 595), (sv "new_root" 596)] 0), #[]⟩
noncomputable def o_219 (P : Params) : Obj := ⟨.none, .none, (.func (fdAt (path := [9, 22]) rfl "_create_new_root" "PythonPVector._create_new_root" 0 [] .none .none .none .none .none .none .none 0)), #[]⟩
noncomputable def o_220 (P : Params) : Obj := ⟨(.type "code"), .none, (.fields #[(sv "_create_new_root" 591), (sv "PythonPVector._create_new_root" 592), (sv "/claim/cut.py" 593), (.int (131) 0), (.int (1) 0), (.int (0) 0), (.int (0) 0), (.int (3) 0), (.ref 215), (.bool true), (.int (338) 0), (.ref 216), .none, (.ref 217), (.ref 218), (.ref 219), (.int (597) 0), (.int (131) 0), (sv "/claim/cut.py" 598)]), #[]⟩
noncomputable def o_221 (P : Params) : Obj := ⟨(.type "function"), .none, (.func (fdAt (path := [9, 22]) rfl "_create_new_root" "PythonPVector._create_new_root" 3 [] .none .none .none (sv "pyrsistent._pvector" 351) .none (.ref 220) .none 0)), #[]⟩
noncomputable def o_224 (P : Params) : Obj := ⟨(.type "tuple"), .none, (.seq #[(sv "self" 603), (sv "val" 604), (sv "new_tail" 605), (sv "new_root" 606), (sv "new_shift" 607)] 0), #[]⟩
noncomputable def o_226 (P : Params) : Obj := ⟨.none, .none, (.func (fdAt (path := [9, 23]) rfl "append" "PythonPVector.append" 0 [] .none .none .none .none .none .none .none 0)), #[]⟩
noncomputable def o_227 (P : Params) : Obj := ⟨(.type "code"), .none, (.fields #[(sv "append" 600), (sv "PythonPVector.append" 601), (sv "/claim/cut.py" 602), (.int (140) 0), (.int (2) 0), (.int (0) 0), (.int (0) 0), (.int (3) 0), (.ref 222), (.bool true), (.int (338) 0), (.ref 223), .none, (.ref 224), (.ref 225), (.ref 226), (.int (608) 0), (.int (140) 0), (sv "/claim/cut.py" 609)]), #[]⟩
noncomputable def o_228 (P : Params) : Obj := ⟨(.type "function"), .none, (.func (fdAt (path := [9, 23]) rfl "append" "PythonPVector.append" 3 [] .none .none .none (sv "pyrsistent._pvector" 351) .none (.ref 227) .none 0)), #[]⟩
noncomputable def o_231 (P : Params) : Obj := ⟨(.type "tuple"), .none, (.seq #[(sv "self" 614), (sv "level" 615), (sv "node" 616)] 0), #[]⟩
noncomputable def o_233 (P : Params) : Obj := ⟨.none, .none, (.func (fdAt (path := [9, 24]) rfl "_new_path" "PythonPVector._new_path" 0 [] .none .none .none .none .none .none .none 0)), #[]⟩
noncomputable def o_234 (P : Params) : Obj := ⟨(.type "code"), .none, (.fields #[(sv "_new_path" 611), (sv "PythonPVector._new_path" 612), (sv "/claim/cut.py" 613), (.int (148) 0), (.int (3) 0), (.int (0) 0), (.int (0) 0), (.int (3) 0), (.ref 229), (.bool true), (.int (338) 0), (.ref 230), .none, (.ref 231), (.ref 232), (.ref 233), (.int (617) 0), (.int (148) 0), (sv "/claim/cut.py" 618)]), #[]⟩
noncomputable def o_235 (P : Params) : Obj := ⟨(.type "function"), .none, (.func (fdAt (path := [9, 24]) rfl "_new_path" "PythonPVector._new_path" 3 [] .none .none .none (sv "pyrsistent._pvector" 351) .none (.ref 234) .none 0)), #[]⟩
noncomputable def o_238 (P : Params) : Obj := ⟨(.type "tuple"), .none, (.seq #[(sv "self" 623)] 0), #[]⟩
noncomputable def o_240 (P : Params) : Obj := ⟨.none, .none, (.func (fdAt (path := [9, 25]) rfl "_mutating_insert_tail" "PythonPVector._mutating_insert_tail" 0 [] .none .none .none .none .none .none .none 0)), #[]⟩
noncomputable def o_241 (P : Params) : Obj := ⟨(.type "code"), .none, (.fields #[(sv "_mutating_insert_tail" 620), (sv "PythonPVector._mutating_insert_tail" 621), (sv "/claim/cut.py" 622), (.int (153) 0), (.int (1) 0), (.int (0) 0), (.int (0) 0), (.int (3) 0), (.ref 236), (.bool true), (.int (338) 0), (.ref 237), .none, (.ref 238), (.ref 239), (.ref 240), (.int (624) 0), (.int (153) 0), (sv "/claim/cut.py" 625)]), #[]⟩
noncomputable def o_242 (P : Params) : Obj := ⟨(.type "function"), .none, (.func (fdAt (path := [9, 25]) rfl "_mutating_insert_tail" "PythonPVector._mutating_insert_tail" 3 [] .none .none .none (sv "pyrsistent._pvector" 351) .none (.ref 241) .none 0)), #[]⟩
noncomputable def o_245 (P : Params) : Obj := ⟨(.type "tuple"), .none, (.seq #[(sv "self" 630), (sv "offset" 631), (sv "sequence" 632), (sv "max_delta_len" 633), (sv "delta" 634), (sv "delta_len" 635)] 0), #[]⟩
noncomputable def o_247 (P : Params) : Obj := ⟨.none, .none, (.func (fdAt (path := [9, 26]) rfl "_mutating_fill_tail" "PythonPVector._mutating_fill_tail" 0 [] .none .none .none .none .none .none .none 0)), #[]⟩
noncomputable def o_248 (P : Params) : Obj := ⟨(.type "code"), .none, (.fields #[(sv "_mutating_fill_tail" 627), (sv "PythonPVector._mutating_fill_tail" 628), (sv "/claim/cut.py" 629), (.int (157) 0), (.int (3) 0), (.int (0) 0), (.int (0) 0), (.int (3) 0), (.ref 243), (.bool true), (.int (338) 0), (.ref 244), .none, (.ref 245), (.ref 246), (.ref 247), (.int (636) 0), (.int (157) 0), (sv "/claim/cut.py" 637)]), #[]⟩
noncomputable def o_249 (P : Params) : Obj := ⟨(.type "function"), .none, (.func (fdAt (path := [9, 26]) rfl "_mutating_fill_tail" "PythonPVector._mutating_fill_tail" 3 [] .none .none .none (sv "pyrsistent._pvector" 351) .none (.ref 248) .none 0)), #[]⟩
noncomputable def o_252 (P : Params) : Obj := ⟨(.type "tuple"), .none, (.seq #[(sv "self" 642), (sv "sequence" 643), (sv "offset" 644), (sv "sequence_len" 645)] 0), #[]⟩
noncomputable def o_254 (P : Params) : Obj := ⟨.none, .none, (.func (fdAt (path := [9, 27]) rfl "_mutating_extend" "PythonPVector._mutating_extend" 0 [] .none .none .none .none .none .none .none 0)), #[]⟩
noncomputable def o_255 (P : Params) : Obj := ⟨(.type "code"), .none, (.fields #[(sv "_mutating_extend" 639), (sv "PythonPVector._mutating_extend" 640), (sv "/claim/cut.py" 641), (.int (165) 0), (.int (2) 0), (.int (0) 0), (.int (0) 0), (.int (3) 0), (.ref 250), (.bool true), (.int (338) 0), (.ref 251), .none, (.ref 252), (.ref 253), (.ref 254), (.int (646) 0), (.int (165) 0), (sv "/claim/cut.py" 647)]), #[]⟩
noncomputable def o_256 (P : Params) : Obj := ⟨(.type "function"), .none, (.func (fdAt (path := [9, 27]) rfl "_mutating_extend" "PythonPVector._mutating_extend" 3 [] .none .none .none (sv "pyrsistent._pvector" 351) .none (.ref 255) .none 0)), #[]⟩
noncomputable def o_259 (P : Params) : Obj := ⟨(.type "tuple"), .none, (.seq #[(sv "self" 652), (sv "obj" 653), (sv "l" 654), (sv "new_vector" 655)] 0), #[]⟩
noncomputable def o_261 (P : Params) : Obj := ⟨.none, .none, (.func (fdAt (path := [9, 28]) rfl "extend" "PythonPVector.extend" 0 [] .none .none .none .none .none .none .none 0)), #[]⟩
noncomputable def o_262 (P : Params) : Obj := ⟨(.type "code"), .none, (.fields #[(sv "extend" 649), (sv "PythonPVector.extend" 650), (sv "/claim/cut.py" 651), (.int (174) 0), (.int (2) 0), (.int (0) 0), (.int (0) 0), (.int (3) 0), (.ref 257), (.bool true), (.int (338) 0), (.ref 258), .none, (.ref 259), (.ref 260), (.ref 261), (.int (656) 0), (.int (174) 0), (sv "/claim/cut.py" 657)]), #[]⟩
noncomputable def o_263 (P : Params) : Obj := ⟨(.type "function"), .none, (.func (fdAt (path := [9, 28]) rfl "extend" "PythonPVector.extend" 3 [] .none .none .none (sv "pyrsistent._pvector" 351) .none (.ref 262) .none 0)), #[]⟩
noncomputable def o_266 (P : Params) : Obj := ⟨(.type "tuple"), .none, (.seq #[(sv "self" 662), (sv "level" 663), (sv "parent" 664), (sv "tail_node" 665), (sv "ret" 666), (sv "sub_index" 667)] 0), #[]⟩
noncomputable def o_268 (P : Params) : Obj := ⟨.none, .none, (.func (fdAt (path := [9, 29]) rfl "_push_tail" "PythonPVector._push_tail" 0 [] .none .none .none .none .none .none .none 0)), #[]⟩
noncomputable def o_269 (P : Params) : Obj := ⟨(.type "code"), .none, (.fields #[(sv "_push_tail" 659), (sv "PythonPVector._push_tail" 660), (sv "/claim/cut.py" 661), (.int (182) 0), (.int (4) 0), (.int (0) 0), (.int (0) 0), (.int (3) 0), (.ref 264), (.bool true), (.int (338) 0), (.ref 265), .none, (.ref 266), (.ref 267), (.ref 268), (.int (668) 0), (.int (182) 0), (sv "/claim/cut.py" 669)]), #[]⟩
noncomputable def o_270 (P : Params) : Obj := ⟨(.type "function"), .none, (.func (fdAt (path := [9, 29]) rfl "_push_tail" "PythonPVector._push_tail" 3 [] .none .none .none (sv "pyrsistent._pvector" 351) .none (.ref 269) .none 0)), #[]⟩
noncomputable def o_273 (P : Params) : Obj := ⟨(.type "tuple"), .none, (.seq #[(sv "self" 674), (sv "value" 675), (sv "args" 676), (sv "kwargs" 677)] 0), #[]⟩
noncomputable def o_275 (P : Params) : Obj := ⟨.none, .none, (.func (fdAt (path := [9, 30]) rfl "index" "PythonPVector.index" 0 [] .none .none .none .none .none .none .none 0)), #[]⟩
noncomputable def o_276 (P : Params) : Obj := ⟨(.type "code"), .none, (.fields #[(sv "index" 671), (sv "PythonPVector.index" 672), (sv "/claim/cut.py" 673), (.int (194) 0), (.int (2) 0), (.int (0) 0), (.int (0) 0), (.int (15) 0), (.ref 271), (.bool true), (.int (338) 0), (.ref 272), .none, (.ref 273), (.ref 274), (.ref 275), (.int (678) 0), (.int (194) 0), (sv "/claim/cut.py" 679)]), #[]⟩
noncomputable def o_277 (P : Params) : Obj := ⟨(.type "function"), .none, (.func (fdAt (path := [9, 30]) rfl "index" "PythonPVector.index" 3 [] .none .none .none (sv "pyrsistent._pvector" 351) .none (.ref 276) .none 0)), #[]⟩
noncomputable def o_280 (P : Params) : Obj := ⟨(.type "tuple"), .none, (.seq #[(sv "self" 684), (sv "value" 685)] 0), #[]⟩
noncomputable def o_282 (P : Params) : Obj := ⟨.none, .none, (.func (fdAt (path := [9, 31]) rfl "count" "PythonPVector.count" 0 [] .none .none .none .none .none .none .none 0)), #[]⟩
noncomputable def o_283 (P : Params) : Obj := ⟨(.type "code"), .none, (.fields #[(sv "count" 681), (sv "PythonPVector.count" 682), (sv "/claim/cut.py" 683), (.int (197) 0), (.int (2) 0), (.int (0) 0), (.int (0) 0), (.int (3) 0), (.ref 278), (.bool true), (.int (338) 0), (.ref 279), .none, (.ref 280), (.ref 281), (.ref 282), (.int (686) 0), (.int (197) 0), (sv "/claim/cut.py" 687)]), #[]⟩
noncomputable def o_284 (P : Params) : Obj := ⟨(.type "function"), .none, (.func (fdAt (path := [9, 31]) rfl "count" "PythonPVector.count" 3 [] .none .none .none (sv "pyrsistent._pvector" 351) .none (.ref 283) .none 0)), #[]⟩
noncomputable def o_285 (P : Params) : Obj := ⟨(.type "tuple"), .none, (.seq #[.none] 0), #[]⟩
noncomputable def o_288 (P : Params) : Obj := ⟨(.type "tuple"), .none, (.seq #[(sv "self" 692), (sv "index" 693), (sv "stop" 694), (sv "l" 695)] 0), #[]⟩
noncomputable def o_290 (P : Params) : Obj := ⟨.none, .none, (.func (fdAt (path := [9, 32]) rfl "delete" "PythonPVector.delete" 0 [] .none .none .none .none .none .none .none 0)), #[]⟩
noncomputable def o_291 (P : Params) : Obj := ⟨(.type "code"), .none, (.fields #[(sv "delete" 689), (sv "PythonPVector.delete" 690), (sv "/claim/cut.py" 691), (.int (200) 0), (.int (3) 0), (.int (0) 0), (.int (0) 0), (.int (3) 0), (.ref 286), (.bool true), (.int (338) 0), (.ref 287), .none, (.ref 288), (.ref 289), (.ref 290), (.int (696) 0), (.int (200) 0), (sv "/claim/cut.py" 697)]), #[]⟩
noncomputable def o_292 (P : Params) : Obj := ⟨(.type "function"), .none, (.func (fdAt (path := [9, 32]) rfl "delete" "PythonPVector.delete" 3 [] (.ref 285) .none .none (sv "pyrsistent._pvector" 351) .none (.ref 291) .none 0)), #[]⟩
noncomputable def o_295 (P : Params) : Obj := ⟨(.type "tuple"), .none, (.seq #[(sv "self" 702), (sv "value" 703), (sv "l" 704)] 0), #[]⟩
noncomputable def o_297 (P : Params) : Obj := ⟨.none, .none, (.func (fdAt (path := [9, 33]) rfl "remove" "PythonPVector.remove" 0 [] .none .none .none .none .none .none .none 0)), #[]⟩
noncomputable def o_298 (P : Params) : Obj := ⟨(.type "code"), .none, (.fields #[(sv "remove" 699), (sv "PythonPVector.remove" 700), (sv "/claim/cut.py" 701), (.int (205) 0), (.int (2) 0), (.int (0) 0), (.int (0) 0), (.int (3) 0), (.ref 293), (.bool true), (.int (338) 0), (.ref 294), .none, (.ref 295), (.ref 296), (.ref 297), (.int (705) 0), (.int (205) 0), (sv "/claim/cut.py" 706)]), #[]⟩
noncomputable def o_299 (P : Params) : Obj := ⟨(.type "function"), .none, (.func (fdAt (path := [9, 33]) rfl "remove" "PythonPVector.remove" 3 [] .none .none .none (sv "pyrsistent._pvector" 351) .none (.ref 298) .none 0)), #[]⟩
noncomputable def o_300 (P : Params) : Obj := ⟨(.type "tuple"), .none, (.seq #[(sv "_count" 708), (sv "_root" 709), (sv "_shift" 710), (sv "_tail" 711), (sv "_tail_offset" 712)] 0), #[]⟩
noncomputable def o_301 (P : Params) : Obj := ⟨(.type "list"), .none, (.seq #[(sv "_count" 399), (sv "_shift" 400), (sv "_root" 401), (sv "_tail" 402), (sv "_tail_offset" 403), (sv "__weakref__" 404)] 1), #[]⟩
noncomputable def o_302 (P : Params) : Obj := ⟨(.type "dict"), .none, (.dict #[kE P "__module__" 394 (sv "pyrsistent._pvector" 351), kE P "__firstlineno__" 398 (.int (17) 397), kE P "__slots__" 405 (.ref 70), kE P "__new__" 418 (.ref 304), kE P "__len__" 425 (.ref 85), kE P "__getitem__" 433 (.ref 92), kE P "__add__" 441 (.ref 99), kE P "__repr__" 448 (.ref 106), kE P "__str__" 455 (.ref 113), kE P "__iter__" 462 (.ref 120), kE P "__ne__" 470 (.ref 127), kE P "__eq__" 478 (.ref 134), kE P "__gt__" 486 (.ref 141), kE P "__lt__" 494 (.ref 148), kE P "__ge__" 502 (.ref 155), kE P "__le__" 510 (.ref 162), kE P "__mul__" 518 (.ref 169), kE P "__rmul__" 519 (.ref 169), kE P "_fill_list" 530 (.ref 176), kE P "tolist" 538 (.ref 183), kE P "_totuple" 545 (.ref 190), kE P "set" 555 (.ref 197), kE P "_do_set" 568 (.ref 204), kE P "_node_for" 590 (.ref 213), kE P "_create_new_root" 599 (.ref 221), kE P "append" 610 (.ref 228), kE P "_new_path" 619 (.ref 235), kE P "_mutating_insert_tail" 626 (.ref 242), kE P "_mutating_fill_tail" 638 (.ref 249), kE P "_mutating_extend" 648 (.ref 256), kE P "extend" 658 (.ref 263), kE P "_push_tail" 670 (.ref 270), kE P "index" 680 (.ref 277), kE P "count" 688 (.ref 284), kE P "delete" 698 (.ref 292), kE P "remove" 707 (.ref 299), kE P "__static_attributes__" 713 (.ref 300), kE P "_count" 717 (.ref 305), kE P "_root" 719 (.ref 306), kE P "_shift" 721 (.ref 307), kE P "_tail" 723 (.ref 308), kE P "_tail_offset" 725 (.ref 309), kE P "__weakref__" 727 (.ref 310), kE P "__doc__" 728 .none, kE P "__hash__" 729 .none] 10), #[]⟩
noncomputable def o_303 (P : Params) : Obj := ⟨(.type "type"), .none, (.cls ⟨Str.ofString "PythonPVector", [(.type "object")], [(.ref 303), (.type "object")], 302, Str.ofString "PythonPVector", false, [Str.ofString "_count", Str.ofString "_root", Str.ofString "_shift", Str.ofString "_tail", Str.ofString "_tail_offset"], [], false, .none, false⟩), #[(.some (.ref 62)), .none, (.some (sv "PythonPVector" 387)), (.some (sv "PythonPVector" 395)), (.some .none), (.some (.bool true))]⟩
noncomputable def o_304 (P : Params) : Obj := ⟨(.type "staticmethod"), .none, (.fields #[(.ref 78)]), #[]⟩
noncomputable def o_305 (P : Params) : Obj := ⟨(.type "member_descriptor"), .none, (.fields #[(sv "_count" 716), (.ref 303), (.builtin "proto.slot"), (.builtin "proto.slot#set"), (.int (4) 0)]), #[]⟩
noncomputable def o_306 (P : Params) : Obj := ⟨(.type "member_descriptor"), .none, (.fields #[(sv "_root" 718), (.ref 303), (.builtin "proto.slot"), (.builtin "proto.slot#set"), (.int (3) 0)]), #[]⟩
noncomputable def o_307 (P : Params) : Obj := ⟨(.type "member_descriptor"), .none, (.fields #[(sv "_shift" 720), (.ref 303), (.builtin "proto.slot"), (.builtin "proto.slot#set"), (.int (2) 0)]), #[]⟩
noncomputable def o_308 (P : Params) : Obj := ⟨(.type "member_descriptor"), .none, (.fields #[(sv "_tail" 722), (.ref 303), (.builtin "proto.slot"), (.builtin "proto.slot#set"), (.int (1) 0)]), #[]⟩
noncomputable def o_309 (P : Params) : Obj := ⟨(.type "member_descriptor"), .none, (.fields #[(sv "_tail_offset" 724), (.ref 303), (.builtin "proto.slot"), (.builtin "proto.slot#set"), (.int (0) 0)]), #[]⟩
noncomputable def o_310 (P : Params) : Obj := ⟨(.type "getset_descriptor"), .none, (.fields #[(sv "__weakref__" 726), (.ref 303), (.builtin "ExceptionGroup.__weakref__"), .none]), #[]⟩
noncomputable def o_311 (P : Params) : Obj := ⟨(.type "super"), .none, (.fields #[(.ref 303), (.ref 303), (.ref 303)]), #[]⟩
noncomputable def o_312 (P : Params) : Obj := ⟨(.type "builtin_function_or_method"), .none, (.fields #[(.builtin "object.__init_subclass__"), (.ref 303)]), #[]⟩
noncomputable def o_3_4 (P : Params) : Obj := ⟨(.type "dict"), .none, (.dict #[kE P "__name__" 165 (sv "pyrsistent._pvector" 351), kE P "__doc__" 166 .none, kE P "__package__" 167 .none, kE P "__loader__" 168 (.builtin "__main__.__loader__#opaque"), kE P "__spec__" 169 .none, kE P "__annotations__" 170 (.ref 6), kE P "__builtins__" 171 (.ref 4), kE P "__file__" 173 (sv "/claim/cut.py" 172), kE P "__cached__" 174 .none, kE P "eq" 325 (.builtin "_operator.eq"), kE P "ge" 328 (.builtin "_operator.ge"), kE P "gt" 331 (.builtin "_operator.gt"), kE P "le" 334 (.builtin "_operator.le"), kE P "lt" 337 (.builtin "_operator.lt"), kE P "_wall" 350 (.ref 39), kE P "_bitcount" 359 (.ref 46), kE P "BRANCH_FACTOR" 361 (.int (32) 360), kE P "BIT_MASK" 364 (.int (31) 363), kE P "SHIFT" 369 (.int (5) 368), kE P "compare_pvector" 378 (.ref 54), kE P "_index_or_slice" 386 (.ref 61), kE P "PythonPVector" 731 (.ref 303), kE P "_EMPTY_PVECTOR" 751 (.ref 318)] 23), #[]⟩
noncomputable def o_315 (P : Params) : Obj := ⟨(.type "frame"), .none, (.dict #[kE P "cls" 734 (.ref 303), kE P "count" 735 (.int (0) 732), kE P "shift" 736 (.int (5) 368), kE P "root" 737 (.ref 313), kE P "tail" 738 (.ref 314), kE P "self" 740 (.ref 318)] 6), #[]⟩
noncomputable def o_318 (P : Params) : Obj := ⟨(.ref 303), (.some 317), .plain, #[(.some (.int (0) 732)), (.some (.ref 313)), (.some (.int (5) 368)), (.some (.ref 314)), (.some (.int (0) 749))]⟩
noncomputable def o_3_5 (P : Params) : Obj := ⟨(.type "dict"), .none, (.dict #[kE P "__name__" 165 (sv "law_nc0016_01" 759), kE P "__doc__" 166 .none, kE P "__package__" 167 .none, kE P "__loader__" 168 (.builtin "__main__.__loader__#opaque"), kE P "__spec__" 169 .none, kE P "__annotations__" 170 (.ref 6), kE P "__builtins__" 171 (.ref 4), kE P "__file__" 173 (sv "/claim/cut.py" 172), kE P "__cached__" 174 .none, kE P "eq" 325 (.builtin "_operator.eq"), kE P "ge" 328 (.builtin "_operator.ge"), kE P "gt" 331 (.builtin "_operator.gt"), kE P "le" 334 (.builtin "_operator.le"), kE P "lt" 337 (.builtin "_operator.lt"), kE P "_wall" 350 (.ref 39), kE P "_bitcount" 359 (.ref 46), kE P "BRANCH_FACTOR" 361 (.int (32) 360), kE P "BIT_MASK" 364 (.int (31) 363), kE P "SHIFT" 369 (.int (5) 368), kE P "compare_pvector" 378 (.ref 54), kE P "_index_or_slice" 386 (.ref 61), kE P "PythonPVector" 731 (.ref 303), kE P "_EMPTY_PVECTOR" 751 (.ref 318), kE P "python_pvector" 758 (.ref 327), kE P "_law_size" 768 (.ref 334), kE P "_law_place" 777 (.ref 341), kE P "_law_handed" 785 (.ref 348), kE P "_law_due" 804 (.ref 355), kE P "_law_done" 818 (.ref 362), kE P "_law_holds" 830 (.ref 369), kE P "law" 859 (.ref 376)] 31), #[]⟩
noncomputable def o_30_3 (P : Params) : Obj := ⟨.none, .none, (.fields #[(.int (2) 0), (.int (0) 0), (.ref 38), (.int (6) 0), (.int (0) 0), (.ref 45), (.int (11) 0), (.int (0) 0), (.ref 53), (.int (13) 0), (.int (0) 0), (.ref 60), (.int (17) 0), (.int (0) 0), (.ref 68), (.int (210) 0), (.int (0) 0), (.ref 326), (.int (213) 0), (.int (0) 0), (.ref 333), (.int (216) 0), (.int (0) 0), (.ref 340), (.int (221) 0), (.int (0) 0), (.ref 347), (.int (227) 0), (.int (0) 0), (.ref 354), (.int (265) 0), (.int (0) 0), (.ref 361), (.int (294) 0), (.int (0) 0), (.ref 368), (.int (310) 0), (.int (0) 0), (.ref 375)]), #[]⟩
noncomputable def o_320 (P : Params) : Obj := ⟨(.type "tuple"), .none, (.seq #[(.ref 319)] 0), #[]⟩
noncomputable def o_323 (P : Params) : Obj := ⟨(.type "tuple"), .none, (.seq #[(sv "iterable" 755)] 0), #[]⟩
noncomputable def o_325 (P : Params) : Obj := ⟨.none, .none, (.func (fdAt (path := [11]) rfl "python_pvector" "python_pvector" 0 [] .none .none .none .none .none .none .none 0)), #[]⟩
noncomputable def o_326 (P : Params) : Obj := ⟨(.type "code"), .none, (.fields #[(sv "python_pvector" 752), (sv "python_pvector" 753), (sv "/claim/cut.py" 754), (.int (210) 0), (.int (1) 0), (.int (0) 0), (.int (0) 0), (.int (3) 0), (.ref 321), (.bool true), (.int (338) 0), (.ref 322), .none, (.ref 323), (.ref 324), (.ref 325), (.int (756) 0), (.int (210) 0), (sv "/claim/cut.py" 757)]), #[]⟩
noncomputable def o_327 (P : Params) : Obj := ⟨(.type "function"), .none, (.func (fdAt (path := [11]) rfl "python_pvector" "python_pvector" 3 [] (.ref 320) .none .none (sv "pyrsistent._pvector" 351) .none (.ref 326) .none 0)), #[]⟩
noncomputable def o_330 (P : Params) : Obj := ⟨(.type "tuple"), .none, (.seq #[(sv "number" 764), (sv "more" 765)] 0), #[]⟩
noncomputable def o_332 (P : Params) : Obj := ⟨.none, .none, (.func (fdAt (path := [13]) rfl "_law_size" "_law_size" 0 [] .none .none .none .none .none .none .none 0)), #[]⟩
noncomputable def o_333 (P : Params) : Obj := ⟨(.type "code"), .none, (.fields #[(sv "_law_size" 761), (sv "_law_size" 762), (sv "/claim/cut.py" 763), (.int (213) 0), (.int (1) 0), (.int (0) 0), (.int (0) 0), (.int (3) 0), (.ref 328), (.bool true), (.int (338) 0), (.ref 329), .none, (.ref 330), (.ref 331), (.ref 332), (.int (766) 0), (.int (213) 0), (sv "/claim/cut.py" 767)]), #[]⟩
noncomputable def o_334 (P : Params) : Obj := ⟨(.type "function"), .none, (.func (fdAt (path := [13]) rfl "_law_size" "_law_size" 3 [] .none .none .none (sv "law_nc0016_01" 759) .none (.ref 333) .none 0)), #[]⟩
noncomputable def o_337 (P : Params) : Obj := ⟨(.type "tuple"), .none, (.seq #[(sv "number" 772), (sv "count" 773), (sv "more" 774)] 0), #[]⟩
noncomputable def o_339 (P : Params) : Obj := ⟨.none, .none, (.func (fdAt (path := [14]) rfl "_law_place" "_law_place" 0 [] .none .none .none .none .none .none .none 0)), #[]⟩
noncomputable def o_340 (P : Params) : Obj := ⟨(.type "code"), .none, (.fields #[(sv "_law_place" 769), (sv "_law_place" 770), (sv "/claim/cut.py" 771), (.int (216) 0), (.int (2) 0), (.int (0) 0), (.int (0) 0), (.int (3) 0), (.ref 335), (.bool true), (.int (338) 0), (.ref 336), .none, (.ref 337), (.ref 338), (.ref 339), (.int (775) 0), (.int (216) 0), (sv "/claim/cut.py" 776)]), #[]⟩
noncomputable def o_341 (P : Params) : Obj := ⟨(.type "function"), .none, (.func (fdAt (path := [14]) rfl "_law_place" "_law_place" 3 [] .none .none .none (sv "law_nc0016_01" 759) .none (.ref 340) .none 0)), #[]⟩
noncomputable def o_344 (P : Params) : Obj := ⟨(.type "tuple"), .none, (.seq #[(sv "form" 781), (sv "added" 782)] 0), #[]⟩
noncomputable def o_346 (P : Params) : Obj := ⟨.none, .none, (.func (fdAt (path := [15]) rfl "_law_handed" "_law_handed" 0 [] .none .none .none .none .none .none .none 0)), #[]⟩
noncomputable def o_347 (P : Params) : Obj := ⟨(.type "code"), .none, (.fields #[(sv "_law_handed" 778), (sv "_law_handed" 779), (sv "/claim/cut.py" 780), (.int (221) 0), (.int (2) 0), (.int (0) 0), (.int (0) 0), (.int (3) 0), (.ref 342), (.bool true), (.int (338) 0), (.ref 343), .none, (.ref 344), (.ref 345), (.ref 346), (.int (783) 0), (.int (221) 0), (sv "/claim/cut.py" 784)]), #[]⟩
noncomputable def o_348 (P : Params) : Obj := ⟨(.type "function"), .none, (.func (fdAt (path := [15]) rfl "_law_handed" "_law_handed" 3 [] .none .none .none (sv "law_nc0016_01" 759) .none (.ref 347) .none 0)), #[]⟩
noncomputable def o_351 (P : Params) : Obj := ⟨(.type "tuple"), .none, (.seq #[(sv "kind" 789), (sv "row" 790), (sv "added" 791), (sv "place" 792), (sv "stop" 793), (sv "step" 794), (sv "times" 795), (sv "value" 796), (sv "count" 797), (sv "spot" 798), (sv "inside" 799), (sv "low" 800), (sv "high" 801)] 0), #[]⟩
noncomputable def o_353 (P : Params) : Obj := ⟨.none, .none, (.func (fdAt (path := [16]) rfl "_law_due" "_law_due" 0 [] .none .none .none .none .none .none .none 0)), #[]⟩
noncomputable def o_354 (P : Params) : Obj := ⟨(.type "code"), .none, (.fields #[(sv "_law_due" 786), (sv "_law_due" 787), (sv "/claim/cut.py" 788), (.int (227) 0), (.int (8) 0), (.int (0) 0), (.int (0) 0), (.int (3) 0), (.ref 349), (.bool true), (.int (338) 0), (.ref 350), .none, (.ref 351), (.ref 352), (.ref 353), (.int (802) 0), (.int (227) 0), (sv "/claim/cut.py" 803)]), #[]⟩
noncomputable def o_355 (P : Params) : Obj := ⟨(.type "function"), .none, (.func (fdAt (path := [16]) rfl "_law_due" "_law_due" 3 [] .none .none .none (sv "law_nc0016_01" 759) .none (.ref 354) .none 0)), #[]⟩
noncomputable def o_358 (P : Params) : Obj := ⟨(.type "tuple"), .none, (.seq #[(sv "kind" 808), (sv "vector" 809), (sv "handed" 810), (sv "place" 811), (sv "stop" 812), (sv "step" 813), (sv "times" 814), (sv "value" 815)] 0), #[]⟩
noncomputable def o_360 (P : Params) : Obj := ⟨.none, .none, (.func (fdAt (path := [17]) rfl "_law_done" "_law_done" 0 [] .none .none .none .none .none .none .none 0)), #[]⟩
noncomputable def o_361 (P : Params) : Obj := ⟨(.type "code"), .none, (.fields #[(sv "_law_done" 805), (sv "_law_done" 806), (sv "/claim/cut.py" 807), (.int (265) 0), (.int (8) 0), (.int (0) 0), (.int (0) 0), (.int (3) 0), (.ref 356), (.bool true), (.int (338) 0), (.ref 357), .none, (.ref 358), (.ref 359), (.ref 360), (.int (816) 0), (.int (265) 0), (sv "/claim/cut.py" 817)]), #[]⟩
noncomputable def o_362 (P : Params) : Obj := ⟨(.type "function"), .none, (.func (fdAt (path := [17]) rfl "_law_done" "_law_done" 3 [] .none .none .none (sv "law_nc0016_01" 759) .none (.ref 361) .none 0)), #[]⟩
noncomputable def o_365 (P : Params) : Obj := ⟨(.type "tuple"), .none, (.seq #[(sv "vector" 822), (sv "row" 823), (sv "told" 824), (sv "count" 825), (sv "place" 826), (sv "read" 827)] 0), #[]⟩
noncomputable def o_367 (P : Params) : Obj := ⟨.none, .none, (.func (fdAt (path := [18]) rfl "_law_holds" "_law_holds" 0 [] .none .none .none .none .none .none .none 0)), #[]⟩
noncomputable def o_368 (P : Params) : Obj := ⟨(.type "code"), .none, (.fields #[(sv "_law_holds" 819), (sv "_law_holds" 820), (sv "/claim/cut.py" 821), (.int (294) 0), (.int (2) 0), (.int (0) 0), (.int (0) 0), (.int (3) 0), (.ref 363), (.bool true), (.int (338) 0), (.ref 364), .none, (.ref 365), (.ref 366), (.ref 367), (.int (828) 0), (.int (294) 0), (sv "/claim/cut.py" 829)]), #[]⟩
noncomputable def o_369 (P : Params) : Obj := ⟨(.type "function"), .none, (.func (fdAt (path := [18]) rfl "_law_holds" "_law_holds" 3 [] .none .none .none (sv "law_nc0016_01" 759) .none (.ref 368) .none 0)), #[]⟩
noncomputable def o_372 (P : Params) : Obj := ⟨(.type "tuple"), .none, (.seq #[(sv "script" 834), (sv "numbers" 835), (sv "size" 836), (sv "first" 837), (sv "made" 838), (sv "plain" 839), (sv "number" 840), (sv "kind" 841), (sv "more" 842), (sv "which" 843), (sv "rest" 844), (sv "row" 845), (sv "count" 846), (sv "place" 847), (sv "stop" 848), (sv "step" 849), (sv "times" 850), (sv "added" 851), (sv "value" 852), (sv "due" 853), (sv "handed" 854), (sv "got" 855), (sv "vector" 856)] 0), #[]⟩
noncomputable def o_374 (P : Params) : Obj := ⟨.none, .none, (.func (fdAt (path := [19]) rfl "law" "law" 0 [] .none .none .none .none .none .none .none 0)), #[]⟩
noncomputable def o_375 (P : Params) : Obj := ⟨(.type "code"), .none, (.fields #[(sv "law" 831), (sv "law" 832), (sv "/claim/cut.py" 833), (.int (310) 0), (.int (1) 0), (.int (0) 0), (.int (0) 0), (.int (3) 0), (.ref 370), (.bool true), (.int (338) 0), (.ref 371), .none, (.ref 372), (.ref 373), (.ref 374), (.int (857) 0), (.int (310) 0), (sv "/claim/cut.py" 858)]), #[]⟩
noncomputable def o_376 (P : Params) : Obj := ⟨(.type "function"), .none, (.func (fdAt (path := [19]) rfl "law" "law" 3 [] .none .none .none (sv "law_nc0016_01" 759) .none (.ref 375) .none 0)), #[]⟩
noncomputable def t_b (P : Params) : BT := (.node (boot_o_0 P) (.node (o_1 P) (.node (o_3 P) (.node (boot_o_7 P) (.node (o_15 P) .nil .nil) (.node (o_23 P) .nil .nil)) (.node (o_11 P) (.node (o_19 P) .nil .nil) (.node (o_27 P) .nil .nil))) (.node (boot_o_5 P) (.node (boot_o_9 P) (.node (o_17 P) .nil .nil) (.node (o_25 P) .nil .nil)) (.node (o_13 P) (.node (o_21 P) .nil .nil) .nil))) (.node (o_2 P) (.node (boot_o_4 P) (.node (boot_o_8 P) (.node (boot_o_7 P) .nil .nil) (.node (o_24 P) .nil .nil)) (.node (o_12 P) (.node (o_20 P) .nil .nil) (.node (o_28 P) .nil .nil))) (.node (boot_o_6 P) (.node (boot_o_10 P) (.node (o_18 P) .nil .nil) (.node (o_26 P) .nil .nil)) (.node (o_14 P) (.node (o_22 P) .nil .nil) .nil))))
noncomputable def h_0 (P : Params) : Heap := ⟨#[boot_o_0 P, o_1 P, o_2 P, o_3 P, boot_o_4 P, boot_o_5 P, boot_o_6 P, boot_o_7 P, boot_o_8 P, boot_o_9 P, boot_o_10 P, o_11 P, o_12_2 P, o_13 P, o_14 P, o_15 P, boot_o_7 P, o_17 P, o_18 P, o_19 P, o_20 P, o_21 P, o_22 P, o_23 P, o_24 P, o_25 P, o_26 P, o_27 P, o_28 P], ⟨[], [], [], 0, [], [], false, #[], [], 0, false, false, false, 0, [2000, 10, 10], false, 0, true, [], [], 0, false⟩⟩
noncomputable def h_1 (P : Params) : Heap := ⟨#[boot_o_0 P, o_1 P, o_2 P, o_3 P, boot_o_4 P, boot_o_5 P, boot_o_6 P, boot_o_7 P, boot_o_8 P, boot_o_9 P, boot_o_10 P, o_11 P, o_12_2 P, o_13 P, o_14 P, o_15 P, boot_o_7 P, o_17 P, o_18 P, o_19 P, o_20 P, o_21 P, o_22 P, o_23 P, o_24 P, o_25 P, o_26 P, o_27 P, o_28 P, boot_o_7 P, boot_o_8 P, o_31 P, o_32 P], ⟨[], [], [], 0, [], [], false, #[], [], 0, false, false, false, 0, [2000, 10, 10], false, 0, true, [], [], 0, false⟩⟩
noncomputable def t_0 (P : Params) : BT := (.node (boot_o_0 P) (.node (o_1 P) (.node (o_3 P) (.node (boot_o_7 P) (.node (o_15 P) (.node (o_31 P) .nil .nil) .nil) (.node (o_23 P) .nil .nil)) (.node (o_11 P) (.node (o_19 P) .nil .nil) (.node (o_27 P) .nil .nil))) (.node (boot_o_5 P) (.node (boot_o_9 P) (.node (o_17 P) .nil .nil) (.node (o_25 P) .nil .nil)) (.node (o_13 P) (.node (o_21 P) .nil .nil) (.node (boot_o_7 P) .nil .nil)))) (.node (o_2 P) (.node (boot_o_4 P) (.node (boot_o_8 P) (.node (boot_o_7 P) (.node (o_32 P) .nil .nil) .nil) (.node (o_24 P) .nil .nil)) (.node (o_12_2 P) (.node (o_20 P) .nil .nil) (.node (o_28 P) .nil .nil))) (.node (boot_o_6 P) (.node (boot_o_10 P) (.node (o_18 P) .nil .nil) (.node (o_26 P) .nil .nil)) (.node (o_14 P) (.node (o_22 P) .nil .nil) (.node (boot_o_8 P) .nil .nil)))))
noncomputable def t_8 (P : Params) : BT := (.node (boot_o_0 P) (.node (o_1 P) (.node (o_3_2 P) (.node (boot_o_7 P) (.node (o_15 P) (.node (o_31 P) .nil .nil) (.node (o_47 P) .nil .nil)) (.node (o_23 P) (.node (o_39 P) .nil .nil) (.node (boot_o_7 P) .nil .nil))) (.node (o_11 P) (.node (o_19 P) (.node (o_35 P) .nil .nil) (.node (boot_o_7 P) .nil .nil)) (.node (o_27 P) (.node (boot_o_7 P) .nil .nil) (.node (o_59 P) .nil .nil)))) (.node (boot_o_5 P) (.node (boot_o_9 P) (.node (o_17 P) (.node (boot_o_7 P) .nil .nil) (.node (boot_o_8 P) .nil .nil)) (.node (o_25 P) (.node (boot_o_8 P) .nil .nil) (.node (o_57 P) .nil .nil))) (.node (o_13 P) (.node (o_21 P) (.node (o_37 P) .nil .nil) (.node (o_53 P) .nil .nil)) (.node (boot_o_7 P) (.node (o_45 P) .nil .nil) (.node (o_61 P) .nil .nil))))) (.node (o_2 P) (.node (boot_o_4 P) (.node (boot_o_8 P) (.node (boot_o_7 P) (.node (o_32 P) .nil .nil) (.node (boot_o_7 P) .nil .nil)) (.node (o_24 P) (.node (boot_o_7 P) .nil .nil) (.node (boot_o_8 P) .nil .nil))) (.node (o_12_2 P) (.node (o_20 P) (.node (boot_o_7 P) .nil .nil) (.node (o_52 P) .nil .nil)) (.node (o_28 P) (.node (o_44 P) .nil .nil) (.node (o_60 P) .nil .nil)))) (.node (boot_o_6 P) (.node (boot_o_10 P) (.node (o_18 P) (.node (boot_o_8 P) .nil .nil) (.node (o_50 P) .nil .nil)) (.node (o_26 P) (.node (o_42 P) .nil .nil) (.node (boot_o_7 P) .nil .nil))) (.node (o_14 P) (.node (o_22 P) (.node (o_38 P) .nil .nil) (.node (o_54 P) .nil .nil)) (.node (o_30 P) (.node (o_46 P) .nil .nil) .nil)))))
noncomputable def t_9 (P : Params) : BT := (.node (boot_o_0 P) (.node (o_1 P) (.node (o_3_3 P) (.node (boot_o_7 P) (.node (o_15 P) (.node (o_31 P) (.node (o_63 P) (.node (o_127 P) (.node (o_255 P) .nil .nil) .nil) (.node (boot_o_7 P) .nil .nil)) (.node (o_95 P) (.node (boot_o_7 P) (.node (boot_o_8 P) .nil .nil) .nil) (.node (boot_o_8 P) .nil .nil))) (.node (o_47 P) (.node (boot_o_7 P) (.node (boot_o_8 P) (.node (boot_o_7 P) .nil .nil) .nil) (.node (o_207 P) .nil .nil)) (.node (o_111 P) (.node (o_175 P) (.node (o_303 P) .nil .nil) .nil) (.node (boot_o_7 P) .nil .nil)))) (.node (o_23 P) (.node (o_39 P) (.node (o_71 P) (.node (boot_o_7 P) (.node (o_263 P) .nil .nil) .nil) (.node (boot_o_8 P) .nil .nil)) (.node (boot_o_7 P) (.node (o_167 P) (.node (o_295 P) .nil .nil) .nil) (.node (o_231 P) .nil .nil))) (.node (boot_o_7 P) (.node (boot_o_8 P) (.node (o_151 P) (.node (boot_o_8 P) .nil .nil) .nil) (.node (boot_o_7 P) .nil .nil)) (.node (o_119 P) (.node (o_183 P) (.node (o_311 P) .nil .nil) .nil) (.node (o_247 P) .nil .nil))))) (.node (o_11 P) (.node (o_19 P) (.node (o_35 P) (.node (o_67 P) (.node (boot_o_7 P) (.node (o_259 P) .nil .nil) .nil) (.node (o_195 P) .nil .nil)) (.node (o_99 P) (.node (boot_o_7 P) (.node (o_291 P) .nil .nil) .nil) (.node (o_227 P) .nil .nil))) (.node (boot_o_7 P) (.node (o_83 P) (.node (o_147 P) (.node (o_275 P) .nil .nil) .nil) (.node (o_211 P) .nil .nil)) (.node (boot_o_8 P) (.node (o_179 P) (.node (o_307 P) .nil .nil) .nil) (.node (boot_o_7 P) .nil .nil)))) (.node (o_27 P) (.node (boot_o_7 P) (.node (boot_o_7 P) (.node (o_139 P) (.node (boot_o_7 P) .nil .nil) .nil) (.node (o_203 P) .nil .nil)) (.node (boot_o_7 P) (.node (boot_o_8 P) (.node (o_299 P) .nil .nil) .nil) (.node (o_235 P) .nil .nil))) (.node (o_59 P) (.node (o_91 P) (.node (o_155 P) (.node (o_283 P) .nil .nil) .nil) (.node (o_219 P) .nil .nil)) (.node (o_123 P) (.node (boot_o_7 P) .nil .nil) (.node (boot_o_8 P) .nil .nil)))))) (.node (boot_o_5 P) (.node (boot_o_9 P) (.node (o_17 P) (.node (boot_o_7 P) (.node (o_65 P) (.node (boot_o_8 P) (.node (boot_o_7 P) .nil .nil) .nil) (.node (o_193 P) .nil .nil)) (.node (o_97 P) (.node (o_161 P) (.node (boot_o_7 P) .nil .nil) .nil) (.node (boot_o_7 P) .nil .nil))) (.node (boot_o_8 P) (.node (o_81 P) (.node (boot_o_7 P) (.node (o_273 P) .nil .nil) .nil) (.node (o_209 P) .nil .nil)) (.node (o_113 P) (.node (boot_o_7 P) (.node (o_305 P) .nil .nil) .nil) (.node (o_241 P) .nil .nil)))) (.node (o_25 P) (.node (boot_o_8 P) (.node (boot_o_8 P) (.node (o_137 P) (.node (boot_o_8 P) .nil .nil) .nil) (.node (boot_o_7 P) .nil .nil)) (.node (o_105 P) (.node (o_169 P) (.node (o_297 P) .nil .nil) .nil) (.node (o_233 P) .nil .nil))) (.node (o_57 P) (.node (boot_o_7 P) (.node (o_153 P) (.node (boot_o_7 P) .nil .nil) .nil) (.node (o_217 P) .nil .nil)) (.node (boot_o_7 P) (.node (boot_o_8 P) .nil .nil) (.node (o_249 P) .nil .nil))))) (.node (o_13 P) (.node (o_21 P) (.node (o_37 P) (.node (o_69 P) (.node (o_133 P) (.node (o_261 P) .nil .nil) .nil) (.node (o_197 P) .nil .nil)) (.node (boot_o_8 P) (.node (o_165 P) (.node (boot_o_7 P) .nil .nil) .nil) (.node (boot_o_7 P) .nil .nil))) (.node (o_53 P) (.node (o_85 P) (.node (boot_o_7 P) (.node (o_277 P) .nil .nil) .nil) (.node (o_213 P) .nil .nil)) (.node (boot_o_7 P) (.node (o_181 P) (.node (o_309 P) .nil .nil) .nil) (.node (o_245 P) .nil .nil)))) (.node (boot_o_7 P) (.node (o_45 P) (.node (o_77 P) (.node (o_141 P) (.node (o_269 P) .nil .nil) .nil) (.node (boot_o_7 P) .nil .nil)) (.node (o_109 P) (.node (boot_o_7 P) (.node (o_301 P) .nil .nil) .nil) (.node (boot_o_8 P) .nil .nil))) (.node (o_61 P) (.node (boot_o_7 P) (.node (boot_o_8 P) (.node (o_285 P) .nil .nil) .nil) (.node (o_221 P) .nil .nil)) (.node (o_125 P) (.node (o_189 P) .nil .nil) (.node (boot_o_7 P) .nil .nil))))))) (.node (o_2 P) (.node (boot_o_4 P) (.node (boot_o_8 P) (.node (boot_o_7 P) (.node (o_32 P) (.node (o_64 P) (.node (boot_o_7 P) (.node (o_256 P) .nil .nil) .nil) (.node (boot_o_8 P) .nil .nil)) (.node (boot_o_7 P) (.node (o_160 P) (.node (o_288 P) .nil .nil) .nil) (.node (o_224 P) .nil .nil))) (.node (boot_o_7 P) (.node (boot_o_8 P) (.node (o_144 P) (.node (boot_o_8 P) .nil .nil) .nil) (.node (boot_o_7 P) .nil .nil)) (.node (o_112 P) (.node (o_176 P) (.node (o_304 P) .nil .nil) .nil) (.node (o_240 P) .nil .nil)))) (.node (o_24 P) (.node (boot_o_7 P) (.node (o_72 P) (.node (boot_o_8 P) (.node (boot_o_7 P) .nil .nil) .nil) (.node (o_200 P) .nil .nil)) (.node (o_104 P) (.node (o_168 P) (.node (boot_o_7 P) .nil .nil) .nil) (.node (boot_o_7 P) .nil .nil))) (.node (boot_o_8 P) (.node (o_88 P) (.node (boot_o_7 P) (.node (o_280 P) .nil .nil) .nil) (.node (boot_o_8 P) .nil .nil)) (.node (o_120 P) (.node (boot_o_7 P) (.node (o_312 P) .nil .nil) .nil) (.node (o_248 P) .nil .nil))))) (.node (o_12_2 P) (.node (o_20 P) (.node (boot_o_7 P) (.node (o_68 P) (.node (o_132 P) (.node (boot_o_7 P) .nil .nil) .nil) (.node (o_196 P) .nil .nil)) (.node (boot_o_7 P) (.node (boot_o_8 P) (.node (o_292 P) .nil .nil) .nil) (.node (o_228 P) .nil .nil))) (.node (o_52 P) (.node (o_84 P) (.node (o_148 P) (.node (o_276 P) .nil .nil) .nil) (.node (o_212 P) .nil .nil)) (.node (o_116 P) (.node (boot_o_7 P) (.node (o_308 P) .nil .nil) .nil) (.node (boot_o_8 P) .nil .nil)))) (.node (o_28 P) (.node (o_44 P) (.node (o_76 P) (.node (o_140 P) (.node (o_268 P) .nil .nil) .nil) (.node (o_204 P) .nil .nil)) (.node (boot_o_8 P) (.node (o_172 P) (.node (o_300 P) .nil .nil) .nil) (.node (boot_o_7 P) .nil .nil))) (.node (o_60 P) (.node (o_92 P) (.node (boot_o_7 P) (.node (o_284 P) .nil .nil) .nil) (.node (o_220 P) .nil .nil)) (.node (boot_o_7 P) (.node (o_188 P) .nil .nil) (.node (o_252 P) .nil .nil)))))) (.node (boot_o_6 P) (.node (boot_o_10 P) (.node (o_18 P) (.node (boot_o_8 P) (.node (boot_o_7 P) (.node (o_130 P) (.node (boot_o_8 P) .nil .nil) .nil) (.node (boot_o_7 P) .nil .nil)) (.node (o_98 P) (.node (o_162 P) (.node (o_290 P) .nil .nil) .nil) (.node (o_226 P) .nil .nil))) (.node (o_50 P) (.node (boot_o_7 P) (.node (o_146 P) (.node (boot_o_7 P) .nil .nil) .nil) (.node (o_210 P) .nil .nil)) (.node (boot_o_7 P) (.node (boot_o_8 P) (.node (o_306 P) .nil .nil) .nil) (.node (o_242 P) .nil .nil)))) (.node (o_26 P) (.node (o_42 P) (.node (o_74 P) (.node (boot_o_7 P) (.node (o_266 P) .nil .nil) .nil) (.node (o_202 P) .nil .nil)) (.node (o_106 P) (.node (boot_o_7 P) (.node (o_298 P) .nil .nil) .nil) (.node (o_234 P) .nil .nil))) (.node (boot_o_7 P) (.node (o_90 P) (.node (o_154 P) (.node (o_282 P) .nil .nil) .nil) (.node (boot_o_7 P) .nil .nil)) (.node (boot_o_8 P) (.node (o_186 P) .nil .nil) (.node (boot_o_7 P) .nil .nil))))) (.node (o_14 P) (.node (o_22 P) (.node (o_38 P) (.node (o_70 P) (.node (o_134 P) (.node (o_262 P) .nil .nil) .nil) (.node (boot_o_7 P) .nil .nil)) (.node (o_102 P) (.node (boot_o_7 P) (.node (boot_o_8 P) .nil .nil) .nil) (.node (boot_o_8 P) .nil .nil))) (.node (o_54 P) (.node (boot_o_7 P) (.node (boot_o_8 P) (.node (boot_o_7 P) .nil .nil) .nil) (.node (boot_o_6 P) .nil .nil)) (.node (o_118 P) (.node (o_182 P) (.node (o_310 P) .nil .nil) .nil) (.node (boot_o_7 P) .nil .nil)))) (.node (o_30_2 P) (.node (o_46 P) (.node (o_78 P) (.node (boot_o_7 P) (.node (o_270 P) .nil .nil) .nil) (.node (boot_o_8 P) .nil .nil)) (.node (boot_o_7 P) (.node (o_174 P) (.node (o_302 P) .nil .nil) .nil) (.node (o_238 P) .nil .nil))) (.node (o_62 P) (.node (boot_o_8 P) (.node (o_158 P) (.node (boot_o_7 P) .nil .nil) .nil) (.node (boot_o_7 P) .nil .nil)) (.node (o_126 P) (.node (o_190 P) .nil .nil) (.node (o_254 P) .nil .nil))))))))
noncomputable def t_10 (P : Params) : BT := (.node (boot_o_0 P) (.node (o_1 P) (.node (o_3_4 P) (.node (boot_o_7 P) (.node (o_15 P) (.node (o_31 P) (.node (o_63 P) (.node (o_127 P) (.node (o_255 P) .nil .nil) .nil) (.node (boot_o_7 P) .nil .nil)) (.node (o_95 P) (.node (boot_o_7 P) (.node (boot_o_8 P) .nil .nil) .nil) (.node (boot_o_8 P) .nil .nil))) (.node (o_47 P) (.node (boot_o_7 P) (.node (boot_o_8 P) (.node (boot_o_7 P) .nil .nil) .nil) (.node (o_207 P) .nil .nil)) (.node (o_111 P) (.node (o_175 P) (.node (o_303 P) .nil .nil) .nil) (.node (boot_o_7 P) .nil .nil)))) (.node (o_23 P) (.node (o_39 P) (.node (o_71 P) (.node (boot_o_7 P) (.node (o_263 P) .nil .nil) .nil) (.node (boot_o_8 P) .nil .nil)) (.node (boot_o_7 P) (.node (o_167 P) (.node (o_295 P) .nil .nil) .nil) (.node (o_231 P) .nil .nil))) (.node (boot_o_7 P) (.node (boot_o_8 P) (.node (o_151 P) (.node (boot_o_8 P) .nil .nil) .nil) (.node (boot_o_7 P) .nil .nil)) (.node (o_119 P) (.node (o_183 P) (.node (o_311 P) .nil .nil) .nil) (.node (o_247 P) .nil .nil))))) (.node (o_11 P) (.node (o_19 P) (.node (o_35 P) (.node (o_67 P) (.node (boot_o_7 P) (.node (o_259 P) .nil .nil) .nil) (.node (o_195 P) .nil .nil)) (.node (o_99 P) (.node (boot_o_7 P) (.node (o_291 P) .nil .nil) .nil) (.node (o_227 P) .nil .nil))) (.node (boot_o_7 P) (.node (o_83 P) (.node (o_147 P) (.node (o_275 P) .nil .nil) .nil) (.node (o_211 P) .nil .nil)) (.node (boot_o_8 P) (.node (o_179 P) (.node (o_307 P) .nil .nil) .nil) (.node (boot_o_7 P) .nil .nil)))) (.node (o_27 P) (.node (boot_o_7 P) (.node (boot_o_7 P) (.node (o_139 P) (.node (boot_o_7 P) .nil .nil) .nil) (.node (o_203 P) .nil .nil)) (.node (boot_o_7 P) (.node (boot_o_8 P) (.node (o_299 P) .nil .nil) .nil) (.node (o_235 P) .nil .nil))) (.node (o_59 P) (.node (o_91 P) (.node (o_155 P) (.node (o_283 P) .nil .nil) .nil) (.node (o_219 P) .nil .nil)) (.node (o_123 P) (.node (boot_o_7 P) (.node (o_315 P) .nil .nil) .nil) (.node (boot_o_8 P) .nil .nil)))))) (.node (boot_o_5 P) (.node (boot_o_9 P) (.node (o_17 P) (.node (boot_o_7 P) (.node (o_65 P) (.node (boot_o_8 P) (.node (boot_o_7 P) .nil .nil) .nil) (.node (o_193 P) .nil .nil)) (.node (o_97 P) (.node (o_161 P) (.node (boot_o_7 P) .nil .nil) .nil) (.node (boot_o_7 P) .nil .nil))) (.node (boot_o_8 P) (.node (o_81 P) (.node (boot_o_7 P) (.node (o_273 P) .nil .nil) .nil) (.node (o_209 P) .nil .nil)) (.node (o_113 P) (.node (boot_o_7 P) (.node (o_305 P) .nil .nil) .nil) (.node (o_241 P) .nil .nil)))) (.node (o_25 P) (.node (boot_o_8 P) (.node (boot_o_8 P) (.node (o_137 P) (.node (boot_o_8 P) .nil .nil) .nil) (.node (boot_o_7 P) .nil .nil)) (.node (o_105 P) (.node (o_169 P) (.node (o_297 P) .nil .nil) .nil) (.node (o_233 P) .nil .nil))) (.node (o_57 P) (.node (boot_o_7 P) (.node (o_153 P) (.node (boot_o_7 P) .nil .nil) .nil) (.node (o_217 P) .nil .nil)) (.node (boot_o_7 P) (.node (boot_o_8 P) (.node (o_20 P) .nil .nil) .nil) (.node (o_249 P) .nil .nil))))) (.node (o_13 P) (.node (o_21 P) (.node (o_37 P) (.node (o_69 P) (.node (o_133 P) (.node (o_261 P) .nil .nil) .nil) (.node (o_197 P) .nil .nil)) (.node (boot_o_8 P) (.node (o_165 P) (.node (boot_o_7 P) .nil .nil) .nil) (.node (boot_o_7 P) .nil .nil))) (.node (o_53 P) (.node (o_85 P) (.node (boot_o_7 P) (.node (o_277 P) .nil .nil) .nil) (.node (o_213 P) .nil .nil)) (.node (boot_o_7 P) (.node (o_181 P) (.node (o_309 P) .nil .nil) .nil) (.node (o_245 P) .nil .nil)))) (.node (boot_o_7 P) (.node (o_45 P) (.node (o_77 P) (.node (o_141 P) (.node (o_269 P) .nil .nil) .nil) (.node (boot_o_7 P) .nil .nil)) (.node (o_109 P) (.node (boot_o_7 P) (.node (o_301 P) .nil .nil) .nil) (.node (boot_o_8 P) .nil .nil))) (.node (o_61 P) (.node (boot_o_7 P) (.node (boot_o_8 P) (.node (o_285 P) .nil .nil) .nil) (.node (o_221 P) .nil .nil)) (.node (o_125 P) (.node (o_189 P) (.node (boot_o_6 P) .nil .nil) .nil) (.node (boot_o_7 P) .nil .nil))))))) (.node (o_2 P) (.node (boot_o_4 P) (.node (boot_o_8 P) (.node (boot_o_7 P) (.node (o_32 P) (.node (o_64 P) (.node (boot_o_7 P) (.node (o_256 P) .nil .nil) .nil) (.node (boot_o_8 P) .nil .nil)) (.node (boot_o_7 P) (.node (o_160 P) (.node (o_288 P) .nil .nil) .nil) (.node (o_224 P) .nil .nil))) (.node (boot_o_7 P) (.node (boot_o_8 P) (.node (o_144 P) (.node (boot_o_8 P) .nil .nil) .nil) (.node (boot_o_7 P) .nil .nil)) (.node (o_112 P) (.node (o_176 P) (.node (o_304 P) .nil .nil) .nil) (.node (o_240 P) .nil .nil)))) (.node (o_24 P) (.node (boot_o_7 P) (.node (o_72 P) (.node (boot_o_8 P) (.node (boot_o_7 P) .nil .nil) .nil) (.node (o_200 P) .nil .nil)) (.node (o_104 P) (.node (o_168 P) (.node (boot_o_7 P) .nil .nil) .nil) (.node (boot_o_7 P) .nil .nil))) (.node (boot_o_8 P) (.node (o_88 P) (.node (boot_o_7 P) (.node (o_280 P) .nil .nil) .nil) (.node (boot_o_8 P) .nil .nil)) (.node (o_120 P) (.node (boot_o_7 P) (.node (o_312 P) .nil .nil) .nil) (.node (o_248 P) .nil .nil))))) (.node (o_12_2 P) (.node (o_20 P) (.node (boot_o_7 P) (.node (o_68 P) (.node (o_132 P) (.node (boot_o_7 P) .nil .nil) .nil) (.node (o_196 P) .nil .nil)) (.node (boot_o_7 P) (.node (boot_o_8 P) (.node (o_292 P) .nil .nil) .nil) (.node (o_228 P) .nil .nil))) (.node (o_52 P) (.node (o_84 P) (.node (o_148 P) (.node (o_276 P) .nil .nil) .nil) (.node (o_212 P) .nil .nil)) (.node (o_116 P) (.node (boot_o_7 P) (.node (o_308 P) .nil .nil) .nil) (.node (boot_o_8 P) .nil .nil)))) (.node (o_28 P) (.node (o_44 P) (.node (o_76 P) (.node (o_140 P) (.node (o_268 P) .nil .nil) .nil) (.node (o_204 P) .nil .nil)) (.node (boot_o_8 P) (.node (o_172 P) (.node (o_300 P) .nil .nil) .nil) (.node (boot_o_7 P) .nil .nil))) (.node (o_60 P) (.node (o_92 P) (.node (boot_o_7 P) (.node (o_284 P) .nil .nil) .nil) (.node (o_220 P) .nil .nil)) (.node (boot_o_7 P) (.node (o_188 P) (.node (o_311 P) .nil .nil) .nil) (.node (o_252 P) .nil .nil)))))) (.node (boot_o_6 P) (.node (boot_o_10 P) (.node (o_18 P) (.node (boot_o_8 P) (.node (boot_o_7 P) (.node (o_130 P) (.node (boot_o_8 P) .nil .nil) .nil) (.node (boot_o_7 P) .nil .nil)) (.node (o_98 P) (.node (o_162 P) (.node (o_290 P) .nil .nil) .nil) (.node (o_226 P) .nil .nil))) (.node (o_50 P) (.node (boot_o_7 P) (.node (o_146 P) (.node (boot_o_7 P) .nil .nil) .nil) (.node (o_210 P) .nil .nil)) (.node (boot_o_7 P) (.node (boot_o_8 P) (.node (o_306 P) .nil .nil) .nil) (.node (o_242 P) .nil .nil)))) (.node (o_26 P) (.node (o_42 P) (.node (o_74 P) (.node (boot_o_7 P) (.node (o_266 P) .nil .nil) .nil) (.node (o_202 P) .nil .nil)) (.node (o_106 P) (.node (boot_o_7 P) (.node (o_298 P) .nil .nil) .nil) (.node (o_234 P) .nil .nil))) (.node (boot_o_7 P) (.node (o_90 P) (.node (o_154 P) (.node (o_282 P) .nil .nil) .nil) (.node (boot_o_7 P) .nil .nil)) (.node (boot_o_8 P) (.node (o_186 P) (.node (o_20 P) .nil .nil) .nil) (.node (boot_o_7 P) .nil .nil))))) (.node (o_14 P) (.node (o_22 P) (.node (o_38 P) (.node (o_70 P) (.node (o_134 P) (.node (o_262 P) .nil .nil) .nil) (.node (boot_o_7 P) .nil .nil)) (.node (o_102 P) (.node (boot_o_7 P) (.node (boot_o_8 P) .nil .nil) .nil) (.node (boot_o_8 P) .nil .nil))) (.node (o_54 P) (.node (boot_o_7 P) (.node (boot_o_8 P) (.node (boot_o_7 P) .nil .nil) .nil) (.node (boot_o_6 P) .nil .nil)) (.node (o_118 P) (.node (o_182 P) (.node (o_310 P) .nil .nil) .nil) (.node (boot_o_7 P) .nil .nil)))) (.node (o_30_2 P) (.node (o_46 P) (.node (o_78 P) (.node (boot_o_7 P) (.node (o_270 P) .nil .nil) .nil) (.node (boot_o_8 P) .nil .nil)) (.node (boot_o_7 P) (.node (o_174 P) (.node (o_302 P) .nil .nil) .nil) (.node (o_238 P) .nil .nil))) (.node (o_62 P) (.node (boot_o_8 P) (.node (o_158 P) (.node (boot_o_7 P) .nil .nil) .nil) (.node (boot_o_7 P) .nil .nil)) (.node (o_126 P) (.node (o_190 P) (.node (o_318 P) .nil .nil) .nil) (.node (o_254 P) .nil .nil))))))))
noncomputable def t_19 (P : Params) : BT := (.node (boot_o_0 P) (.node (o_1 P) (.node (o_3_5 P) (.node (boot_o_7 P) (.node (o_15 P) (.node (o_31 P) (.node (o_63 P) (.node (o_127 P) (.node (o_255 P) .nil .nil) .nil) (.node (boot_o_7 P) (.node (boot_o_7 P) .nil .nil) .nil)) (.node (o_95 P) (.node (boot_o_7 P) (.node (boot_o_8 P) .nil .nil) .nil) (.node (boot_o_8 P) (.node (o_351 P) .nil .nil) .nil))) (.node (o_47 P) (.node (boot_o_7 P) (.node (boot_o_8 P) (.node (boot_o_7 P) .nil .nil) .nil) (.node (o_207 P) (.node (boot_o_7 P) .nil .nil) .nil)) (.node (o_111 P) (.node (o_175 P) (.node (o_303 P) .nil .nil) .nil) (.node (boot_o_7 P) (.node (o_367 P) .nil .nil) .nil)))) (.node (o_23 P) (.node (o_39 P) (.node (o_71 P) (.node (boot_o_7 P) (.node (o_263 P) .nil .nil) .nil) (.node (boot_o_8 P) (.node (o_327 P) .nil .nil) .nil)) (.node (boot_o_7 P) (.node (o_167 P) (.node (o_295 P) .nil .nil) .nil) (.node (o_231 P) (.node (boot_o_7 P) .nil .nil) .nil))) (.node (boot_o_7 P) (.node (boot_o_8 P) (.node (o_151 P) (.node (boot_o_8 P) .nil .nil) .nil) (.node (boot_o_7 P) (.node (boot_o_8 P) .nil .nil) .nil)) (.node (o_119 P) (.node (o_183 P) (.node (o_311 P) .nil .nil) .nil) (.node (o_247 P) (.node (o_375 P) .nil .nil) .nil))))) (.node (o_11 P) (.node (o_19 P) (.node (o_35 P) (.node (o_67 P) (.node (boot_o_7 P) (.node (o_259 P) .nil .nil) .nil) (.node (o_195 P) (.node (o_323 P) .nil .nil) .nil)) (.node (o_99 P) (.node (boot_o_7 P) (.node (o_291 P) .nil .nil) .nil) (.node (o_227 P) (.node (o_355 P) .nil .nil) .nil))) (.node (boot_o_7 P) (.node (o_83 P) (.node (o_147 P) (.node (o_275 P) .nil .nil) .nil) (.node (o_211 P) (.node (o_339 P) .nil .nil) .nil)) (.node (boot_o_8 P) (.node (o_179 P) (.node (o_307 P) .nil .nil) .nil) (.node (boot_o_7 P) (.node (boot_o_8 P) .nil .nil) .nil)))) (.node (o_27 P) (.node (boot_o_7 P) (.node (boot_o_7 P) (.node (o_139 P) (.node (boot_o_7 P) .nil .nil) .nil) (.node (o_203 P) (.node (boot_o_7 P) .nil .nil) .nil)) (.node (boot_o_7 P) (.node (boot_o_8 P) (.node (o_299 P) .nil .nil) .nil) (.node (o_235 P) (.node (boot_o_7 P) .nil .nil) .nil))) (.node (o_59 P) (.node (o_91 P) (.node (o_155 P) (.node (o_283 P) .nil .nil) .nil) (.node (o_219 P) (.node (o_347 P) .nil .nil) .nil)) (.node (o_123 P) (.node (boot_o_7 P) (.node (o_315 P) .nil .nil) .nil) (.node (boot_o_8 P) .nil .nil)))))) (.node (boot_o_5 P) (.node (boot_o_9 P) (.node (o_17 P) (.node (boot_o_7 P) (.node (o_65 P) (.node (boot_o_8 P) (.node (boot_o_7 P) .nil .nil) .nil) (.node (o_193 P) (.node (boot_o_7 P) .nil .nil) .nil)) (.node (o_97 P) (.node (o_161 P) (.node (boot_o_7 P) .nil .nil) .nil) (.node (boot_o_7 P) (.node (o_353 P) .nil .nil) .nil))) (.node (boot_o_8 P) (.node (o_81 P) (.node (boot_o_7 P) (.node (o_273 P) .nil .nil) .nil) (.node (o_209 P) (.node (o_337 P) .nil .nil) .nil)) (.node (o_113 P) (.node (boot_o_7 P) (.node (o_305 P) .nil .nil) .nil) (.node (o_241 P) (.node (o_369 P) .nil .nil) .nil)))) (.node (o_25 P) (.node (boot_o_8 P) (.node (boot_o_8 P) (.node (o_137 P) (.node (boot_o_8 P) .nil .nil) .nil) (.node (boot_o_7 P) (.node (boot_o_8 P) .nil .nil) .nil)) (.node (o_105 P) (.node (o_169 P) (.node (o_297 P) .nil .nil) .nil) (.node (o_233 P) (.node (o_361 P) .nil .nil) .nil))) (.node (o_57 P) (.node (boot_o_7 P) (.node (o_153 P) (.node (boot_o_7 P) .nil .nil) .nil) (.node (o_217 P) (.node (boot_o_7 P) .nil .nil) .nil)) (.node (boot_o_7 P) (.node (boot_o_8 P) (.node (o_20 P) .nil .nil) .nil) (.node (o_249 P) .nil .nil))))) (.node (o_13 P) (.node (o_21 P) (.node (o_37 P) (.node (o_69 P) (.node (o_133 P) (.node (o_261 P) .nil .nil) .nil) (.node (o_197 P) (.node (o_325 P) .nil .nil) .nil)) (.node (boot_o_8 P) (.node (o_165 P) (.node (boot_o_7 P) .nil .nil) .nil) (.node (boot_o_7 P) (.node (boot_o_8 P) .nil .nil) .nil))) (.node (o_53 P) (.node (o_85 P) (.node (boot_o_7 P) (.node (o_277 P) .nil .nil) .nil) (.node (o_213 P) (.node (o_341 P) .nil .nil) .nil)) (.node (boot_o_7 P) (.node (o_181 P) (.node (o_309 P) .nil .nil) .nil) (.node (o_245 P) (.node (boot_o_7 P) .nil .nil) .nil)))) (.node (boot_o_7 P) (.node (o_45 P) (.node (o_77 P) (.node (o_141 P) (.node (o_269 P) .nil .nil) .nil) (.node (boot_o_7 P) (.node (o_333 P) .nil .nil) .nil)) (.node (o_109 P) (.node (boot_o_7 P) (.node (o_301 P) .nil .nil) .nil) (.node (boot_o_8 P) (.node (o_365 P) .nil .nil) .nil))) (.node (o_61 P) (.node (boot_o_7 P) (.node (boot_o_8 P) (.node (o_285 P) .nil .nil) .nil) (.node (o_221 P) (.node (boot_o_7 P) .nil .nil) .nil)) (.node (o_125 P) (.node (o_189 P) (.node (boot_o_6 P) .nil .nil) .nil) (.node (boot_o_7 P) .nil .nil))))))) (.node (o_2 P) (.node (boot_o_4 P) (.node (boot_o_8 P) (.node (boot_o_7 P) (.node (o_32 P) (.node (o_64 P) (.node (boot_o_7 P) (.node (o_256 P) .nil .nil) .nil) (.node (boot_o_8 P) (.node (o_320 P) .nil .nil) .nil)) (.node (boot_o_7 P) (.node (o_160 P) (.node (o_288 P) .nil .nil) .nil) (.node (o_224 P) (.node (boot_o_7 P) .nil .nil) .nil))) (.node (boot_o_7 P) (.node (boot_o_8 P) (.node (o_144 P) (.node (boot_o_8 P) .nil .nil) .nil) (.node (boot_o_7 P) (.node (boot_o_8 P) .nil .nil) .nil)) (.node (o_112 P) (.node (o_176 P) (.node (o_304 P) .nil .nil) .nil) (.node (o_240 P) (.node (o_368 P) .nil .nil) .nil)))) (.node (o_24 P) (.node (boot_o_7 P) (.node (o_72 P) (.node (boot_o_8 P) (.node (boot_o_7 P) .nil .nil) .nil) (.node (o_200 P) (.node (boot_o_7 P) .nil .nil) .nil)) (.node (o_104 P) (.node (o_168 P) (.node (boot_o_7 P) .nil .nil) .nil) (.node (boot_o_7 P) (.node (o_360 P) .nil .nil) .nil))) (.node (boot_o_8 P) (.node (o_88 P) (.node (boot_o_7 P) (.node (o_280 P) .nil .nil) .nil) (.node (boot_o_8 P) (.node (o_344 P) .nil .nil) .nil)) (.node (o_120 P) (.node (boot_o_7 P) (.node (o_312 P) .nil .nil) .nil) (.node (o_248 P) (.node (o_376 P) .nil .nil) .nil))))) (.node (o_12_2 P) (.node (o_20 P) (.node (boot_o_7 P) (.node (o_68 P) (.node (o_132 P) (.node (boot_o_7 P) .nil .nil) .nil) (.node (o_196 P) (.node (boot_o_7 P) .nil .nil) .nil)) (.node (boot_o_7 P) (.node (boot_o_8 P) (.node (o_292 P) .nil .nil) .nil) (.node (o_228 P) (.node (boot_o_7 P) .nil .nil) .nil))) (.node (o_52 P) (.node (o_84 P) (.node (o_148 P) (.node (o_276 P) .nil .nil) .nil) (.node (o_212 P) (.node (o_340 P) .nil .nil) .nil)) (.node (o_116 P) (.node (boot_o_7 P) (.node (o_308 P) .nil .nil) .nil) (.node (boot_o_8 P) (.node (o_372 P) .nil .nil) .nil)))) (.node (o_28 P) (.node (o_44 P) (.node (o_76 P) (.node (o_140 P) (.node (o_268 P) .nil .nil) .nil) (.node (o_204 P) (.node (o_332 P) .nil .nil) .nil)) (.node (boot_o_8 P) (.node (o_172 P) (.node (o_300 P) .nil .nil) .nil) (.node (boot_o_7 P) (.node (boot_o_8 P) .nil .nil) .nil))) (.node (o_60 P) (.node (o_92 P) (.node (boot_o_7 P) (.node (o_284 P) .nil .nil) .nil) (.node (o_220 P) (.node (o_348 P) .nil .nil) .nil)) (.node (boot_o_7 P) (.node (o_188 P) (.node (o_311 P) .nil .nil) .nil) (.node (o_252 P) .nil .nil)))))) (.node (boot_o_6 P) (.node (boot_o_10 P) (.node (o_18 P) (.node (boot_o_8 P) (.node (boot_o_7 P) (.node (o_130 P) (.node (boot_o_8 P) .nil .nil) .nil) (.node (boot_o_7 P) (.node (boot_o_8 P) .nil .nil) .nil)) (.node (o_98 P) (.node (o_162 P) (.node (o_290 P) .nil .nil) .nil) (.node (o_226 P) (.node (o_354 P) .nil .nil) .nil))) (.node (o_50 P) (.node (boot_o_7 P) (.node (o_146 P) (.node (boot_o_7 P) .nil .nil) .nil) (.node (o_210 P) (.node (boot_o_7 P) .nil .nil) .nil)) (.node (boot_o_7 P) (.node (boot_o_8 P) (.node (o_306 P) .nil .nil) .nil) (.node (o_242 P) (.node (boot_o_7 P) .nil .nil) .nil)))) (.node (o_26 P) (.node (o_42 P) (.node (o_74 P) (.node (boot_o_7 P) (.node (o_266 P) .nil .nil) .nil) (.node (o_202 P) (.node (o_330 P) .nil .nil) .nil)) (.node (o_106 P) (.node (boot_o_7 P) (.node (o_298 P) .nil .nil) .nil) (.node (o_234 P) (.node (o_362 P) .nil .nil) .nil))) (.node (boot_o_7 P) (.node (o_90 P) (.node (o_154 P) (.node (o_282 P) .nil .nil) .nil) (.node (boot_o_7 P) (.node (o_346 P) .nil .nil) .nil)) (.node (boot_o_8 P) (.node (o_186 P) (.node (o_20 P) .nil .nil) .nil) (.node (boot_o_7 P) .nil .nil))))) (.node (o_14 P) (.node (o_22 P) (.node (o_38 P) (.node (o_70 P) (.node (o_134 P) (.node (o_262 P) .nil .nil) .nil) (.node (boot_o_7 P) (.node (o_326 P) .nil .nil) .nil)) (.node (o_102 P) (.node (boot_o_7 P) (.node (boot_o_8 P) .nil .nil) .nil) (.node (boot_o_8 P) (.node (o_358 P) .nil .nil) .nil))) (.node (o_54 P) (.node (boot_o_7 P) (.node (boot_o_8 P) (.node (boot_o_7 P) .nil .nil) .nil) (.node (boot_o_6 P) (.node (boot_o_7 P) .nil .nil) .nil)) (.node (o_118 P) (.node (o_182 P) (.node (o_310 P) .nil .nil) .nil) (.node (boot_o_7 P) (.node (o_374 P) .nil .nil) .nil)))) (.node (o_30_3 P) (.node (o_46 P) (.node (o_78 P) (.node (boot_o_7 P) (.node (o_270 P) .nil .nil) .nil) (.node (boot_o_8 P) (.node (o_334 P) .nil .nil) .nil)) (.node (boot_o_7 P) (.node (o_174 P) (.node (o_302 P) .nil .nil) .nil) (.node (o_238 P) (.node (boot_o_7 P) .nil .nil) .nil))) (.node (o_62 P) (.node (boot_o_8 P) (.node (o_158 P) (.node (boot_o_7 P) .nil .nil) .nil) (.node (boot_o_7 P) (.node (boot_o_8 P) .nil .nil) .nil)) (.node (o_126 P) (.node (o_190 P) (.node (o_318 P) .nil .nil) .nil) (.node (o_254 P) .nil .nil))))))))
noncomputable def h_end (P : Params) : Heap := ⟨#[boot_o_0 P, o_1 P, o_2 P, o_3_5 P, boot_o_4 P, boot_o_5 P, boot_o_6 P, boot_o_7 P, boot_o_8 P, boot_o_9 P, boot_o_10 P, o_11 P, o_12_2 P, o_13 P, o_14 P, o_15 P, boot_o_7 P, o_17 P, o_18 P, o_19 P, o_20 P, o_21 P, o_22 P, o_23 P, o_24 P, o_25 P, o_26 P, o_27 P, o_28 P, boot_o_7 P, o_30_3 P, o_31 P, o_32 P, boot_o_7 P, boot_o_8 P, o_35 P, boot_o_7 P, o_37 P, o_38 P, o_39 P, boot_o_7 P, boot_o_8 P, o_42 P, boot_o_7 P, o_44 P, o_45 P, o_46 P, o_47 P, boot_o_7 P, boot_o_8 P, o_50 P, boot_o_7 P, o_52 P, o_53 P, o_54 P, boot_o_7 P, boot_o_8 P, o_57 P, boot_o_7 P, o_59 P, o_60 P, o_61 P, o_62 P, o_63 P, o_64 P, o_65 P, boot_o_7 P, o_67 P, o_68 P, o_69 P, o_70 P, o_71 P, o_72 P, boot_o_8 P, o_74 P, boot_o_7 P, o_76 P, o_77 P, o_78 P, boot_o_7 P, boot_o_8 P, o_81 P, boot_o_7 P, o_83 P, o_84 P, o_85 P, boot_o_7 P, boot_o_8 P, o_88 P, boot_o_7 P, o_90 P, o_91 P, o_92 P, boot_o_7 P, boot_o_8 P, o_95 P, boot_o_7 P, o_97 P, o_98 P, o_99 P, boot_o_7 P, boot_o_8 P, o_102 P, boot_o_7 P, o_104 P, o_105 P, o_106 P, boot_o_7 P, boot_o_8 P, o_109 P, boot_o_7 P, o_111 P, o_112 P, o_113 P, boot_o_7 P, boot_o_8 P, o_116 P, boot_o_7 P, o_118 P, o_119 P, o_120 P, boot_o_7 P, boot_o_8 P, o_123 P, boot_o_7 P, o_125 P, o_126 P, o_127 P, boot_o_7 P, boot_o_8 P, o_130 P, boot_o_7 P, o_132 P, o_133 P, o_134 P, boot_o_7 P, boot_o_8 P, o_137 P, boot_o_7 P, o_139 P, o_140 P, o_141 P, boot_o_7 P, boot_o_8 P, o_144 P, boot_o_7 P, o_146 P, o_147 P, o_148 P, boot_o_7 P, boot_o_8 P, o_151 P, boot_o_7 P, o_153 P, o_154 P, o_155 P, boot_o_7 P, boot_o_8 P, o_158 P, boot_o_7 P, o_160 P, o_161 P, o_162 P, boot_o_7 P, boot_o_8 P, o_165 P, boot_o_7 P, o_167 P, o_168 P, o_169 P, boot_o_7 P, boot_o_8 P, o_172 P, boot_o_7 P, o_174 P, o_175 P, o_176 P, boot_o_7 P, boot_o_8 P, o_179 P, boot_o_7 P, o_181 P, o_182 P, o_183 P, boot_o_7 P, boot_o_8 P, o_186 P, boot_o_7 P, o_188 P, o_189 P, o_190 P, boot_o_7 P, boot_o_8 P, o_193 P, boot_o_7 P, o_195 P, o_196 P, o_197 P, boot_o_7 P, boot_o_8 P, o_200 P, boot_o_7 P, o_202 P, o_203 P, o_204 P, boot_o_7 P, boot_o_8 P, o_207 P, boot_o_7 P, o_209 P, o_210 P, o_211 P, o_212 P, o_213 P, boot_o_6 P, boot_o_7 P, boot_o_8 P, o_217 P, boot_o_7 P, o_219 P, o_220 P, o_221 P, boot_o_7 P, boot_o_8 P, o_224 P, boot_o_7 P, o_226 P, o_227 P, o_228 P, boot_o_7 P, boot_o_8 P, o_231 P, boot_o_7 P, o_233 P, o_234 P, o_235 P, boot_o_7 P, boot_o_8 P, o_238 P, boot_o_7 P, o_240 P, o_241 P, o_242 P, boot_o_7 P, boot_o_8 P, o_245 P, boot_o_7 P, o_247 P, o_248 P, o_249 P, boot_o_7 P, boot_o_8 P, o_252 P, boot_o_7 P, o_254 P, o_255 P, o_256 P, boot_o_7 P, boot_o_8 P, o_259 P, boot_o_7 P, o_261 P, o_262 P, o_263 P, boot_o_7 P, boot_o_8 P, o_266 P, boot_o_7 P, o_268 P, o_269 P, o_270 P, boot_o_7 P, boot_o_8 P, o_273 P, boot_o_7 P, o_275 P, o_276 P, o_277 P, boot_o_7 P, boot_o_8 P, o_280 P, boot_o_7 P, o_282 P, o_283 P, o_284 P, o_285 P, boot_o_7 P, boot_o_8 P, o_288 P, boot_o_7 P, o_290 P, o_291 P, o_292 P, boot_o_7 P, boot_o_8 P, o_295 P, boot_o_7 P, o_297 P, o_298 P, o_299 P, o_300 P, o_301 P, o_302 P, o_303 P, o_304 P, o_305 P, o_306 P, o_307 P, o_308 P, o_309 P, o_310 P, o_311 P, o_312 P, o_20 P, o_20 P, o_315 P, o_311 P, boot_o_6 P, o_318 P, boot_o_7 P, o_320 P, boot_o_7 P, boot_o_8 P, o_323 P, boot_o_7 P, o_325 P, o_326 P, o_327 P, boot_o_7 P, boot_o_8 P, o_330 P, boot_o_7 P, o_332 P, o_333 P, o_334 P, boot_o_7 P, boot_o_8 P, o_337 P, boot_o_7 P, o_339 P, o_340 P, o_341 P, boot_o_7 P, boot_o_8 P, o_344 P, boot_o_7 P, o_346 P, o_347 P, o_348 P, boot_o_7 P, boot_o_8 P, o_351 P, boot_o_7 P, o_353 P, o_354 P, o_355 P, boot_o_7 P, boot_o_8 P, o_358 P, boot_o_7 P, o_360 P, o_361 P, o_362 P, boot_o_7 P, boot_o_8 P, o_365 P, boot_o_7 P, o_367 P, o_368 P, o_369 P, boot_o_7 P, boot_o_8 P, o_372 P, boot_o_7 P, o_374 P, o_375 P, o_376 P], ⟨[], [], [], 0, [], [], false, #[], [], 0, false, false, false, 0, [2000, 10, 10], false, 0, true, [], [], 0, false⟩⟩
noncomputable def hd.heap_39 : Params → Frag := fun P => (nat_lit 2, o_2 P) :: (nat_lit 3, o_3_5 P) :: (nat_lit 33, boot_o_7 P) :: (nat_lit 35, o_35 P) :: (nat_lit 36, boot_o_7 P) :: (nat_lit 38, o_38 P) :: (nat_lit 39, o_39 P) :: (nat_lit 48, boot_o_7 P) :: (nat_lit 50, o_50 P) :: (nat_lit 51, boot_o_7 P) :: (nat_lit 53, o_53 P) :: (nat_lit 54, o_54 P) :: (nat_lit 55, boot_o_7 P) :: (nat_lit 57, o_57 P) :: (nat_lit 58, boot_o_7 P) :: (nat_lit 60, o_60 P) :: (nat_lit 61, o_61 P) :: (nat_lit 62, o_62 P) :: (nat_lit 65, o_65 P) :: (nat_lit 70, o_70 P) :: (nat_lit 71, o_71 P) :: (nat_lit 72, o_72 P) :: (nat_lit 74, o_74 P) :: (nat_lit 75, boot_o_7 P) :: (nat_lit 77, o_77 P) :: (nat_lit 78, o_78 P) :: (nat_lit 79, boot_o_7 P) :: (nat_lit 81, o_81 P) :: (nat_lit 82, boot_o_7 P) :: (nat_lit 84, o_84 P) :: (nat_lit 85, o_85 P) :: (nat_lit 86, boot_o_7 P) :: (nat_lit 88, o_88 P) :: (nat_lit 89, boot_o_7 P) :: (nat_lit 91, o_91 P) :: (nat_lit 92, o_92 P) :: (nat_lit 93, boot_o_7 P) :: (nat_lit 95, o_95 P) :: (nat_lit 96, boot_o_7 P) :: (nat_lit 98, o_98 P) :: (nat_lit 99, o_99 P) :: (nat_lit 100, boot_o_7 P) :: (nat_lit 102, o_102 P) :: (nat_lit 103, boot_o_7 P) :: (nat_lit 105, o_105 P) :: (nat_lit 106, o_106 P) :: (nat_lit 107, boot_o_7 P) :: (nat_lit 109, o_109 P) :: (nat_lit 110, boot_o_7 P) :: (nat_lit 112, o_112 P) :: (nat_lit 113, o_113 P) :: (nat_lit 114, boot_o_7 P) :: (nat_lit 116, o_116 P) :: (nat_lit 117, boot_o_7 P) :: (nat_lit 119, o_119 P) :: (nat_lit 120, o_120 P) :: (nat_lit 121, boot_o_7 P) :: (nat_lit 123, o_123 P) :: (nat_lit 124, boot_o_7 P) :: (nat_lit 126, o_126 P) :: (nat_lit 127, o_127 P) :: (nat_lit 128, boot_o_7 P) :: (nat_lit 130, o_130 P) :: (nat_lit 131, boot_o_7 P) :: (nat_lit 133, o_133 P) :: (nat_lit 134, o_134 P) :: (nat_lit 135, boot_o_7 P) :: (nat_lit 137, o_137 P) :: (nat_lit 138, boot_o_7 P) :: (nat_lit 140, o_140 P) :: (nat_lit 141, o_141 P) :: (nat_lit 142, boot_o_7 P) :: (nat_lit 144, o_144 P) :: (nat_lit 145, boot_o_7 P) :: (nat_lit 147, o_147 P) :: (nat_lit 148, o_148 P) :: (nat_lit 149, boot_o_7 P) :: (nat_lit 151, o_151 P) :: (nat_lit 152, boot_o_7 P) :: (nat_lit 154, o_154 P) :: (nat_lit 155, o_155 P) :: (nat_lit 156, boot_o_7 P) :: (nat_lit 158, o_158 P) :: (nat_lit 159, boot_o_7 P) :: (nat_lit 161, o_161 P) :: (nat_lit 162, o_162 P) :: (nat_lit 163, boot_o_7 P) :: (nat_lit 165, o_165 P) :: (nat_lit 166, boot_o_7 P) :: (nat_lit 168, o_168 P) :: (nat_lit 169, o_169 P) :: (nat_lit 170, boot_o_7 P) :: (nat_lit 172, o_172 P) :: (nat_lit 173, boot_o_7 P) :: (nat_lit 175, o_175 P) :: (nat_lit 176, o_176 P) :: (nat_lit 177, boot_o_7 P) :: (nat_lit 179, o_179 P) :: (nat_lit 180, boot_o_7 P) :: (nat_lit 182, o_182 P) :: (nat_lit 183, o_183 P) :: (nat_lit 184, boot_o_7 P) :: (nat_lit 186, o_186 P) :: (nat_lit 187, boot_o_7 P) :: (nat_lit 189, o_189 P) :: (nat_lit 190, o_190 P) :: (nat_lit 191, boot_o_7 P) :: (nat_lit 193, o_193 P) :: (nat_lit 194, boot_o_7 P) :: (nat_lit 196, o_196 P) :: (nat_lit 197, o_197 P) :: (nat_lit 198, boot_o_7 P) :: (nat_lit 200, o_200 P) :: (nat_lit 201, boot_o_7 P) :: (nat_lit 203, o_203 P) :: (nat_lit 204, o_204 P) :: (nat_lit 205, boot_o_7 P) :: (nat_lit 207, o_207 P) :: (nat_lit 208, boot_o_7 P) :: (nat_lit 210, o_210 P) :: (nat_lit 211, o_211 P) :: (nat_lit 212, o_212 P) :: (nat_lit 213, o_213 P) :: (nat_lit 214, boot_o_6 P) :: (nat_lit 215, boot_o_7 P) :: (nat_lit 217, o_217 P) :: (nat_lit 218, boot_o_7 P) :: (nat_lit 220, o_220 P) :: (nat_lit 221, o_221 P) :: (nat_lit 222, boot_o_7 P) :: (nat_lit 224, o_224 P) :: (nat_lit 225, boot_o_7 P) :: (nat_lit 227, o_227 P) :: (nat_lit 228, o_228 P) :: (nat_lit 229, boot_o_7 P) :: (nat_lit 231, o_231 P) :: (nat_lit 232, boot_o_7 P) :: (nat_lit 234, o_234 P) :: (nat_lit 235, o_235 P) :: (nat_lit 236, boot_o_7 P) :: (nat_lit 238, o_238 P) :: (nat_lit 239, boot_o_7 P) :: (nat_lit 241, o_241 P) :: (nat_lit 242, o_242 P) :: (nat_lit 243, boot_o_7 P) :: (nat_lit 245, o_245 P) :: (nat_lit 246, boot_o_7 P) :: (nat_lit 248, o_248 P) :: (nat_lit 249, o_249 P) :: (nat_lit 250, boot_o_7 P) :: (nat_lit 252, o_252 P) :: (nat_lit 253, boot_o_7 P) :: (nat_lit 255, o_255 P) :: (nat_lit 256, o_256 P) :: (nat_lit 257, boot_o_7 P) :: (nat_lit 259, o_259 P) :: (nat_lit 260, boot_o_7 P) :: (nat_lit 262, o_262 P) :: (nat_lit 263, o_263 P) :: (nat_lit 264, boot_o_7 P) :: (nat_lit 266, o_266 P) :: (nat_lit 267, boot_o_7 P) :: (nat_lit 269, o_269 P) :: (nat_lit 270, o_270 P) :: (nat_lit 271, boot_o_7 P) :: (nat_lit 273, o_273 P) :: (nat_lit 274, boot_o_7 P) :: (nat_lit 276, o_276 P) :: (nat_lit 277, o_277 P) :: (nat_lit 278, boot_o_7 P) :: (nat_lit 280, o_280 P) :: (nat_lit 281, boot_o_7 P) :: (nat_lit 283, o_283 P) :: (nat_lit 284, o_284 P) :: (nat_lit 285, o_285 P) :: (nat_lit 286, boot_o_7 P) :: (nat_lit 288, o_288 P) :: (nat_lit 289, boot_o_7 P) :: (nat_lit 291, o_291 P) :: (nat_lit 292, o_292 P) :: (nat_lit 293, boot_o_7 P) :: (nat_lit 295, o_295 P) :: (nat_lit 296, boot_o_7 P) :: (nat_lit 298, o_298 P) :: (nat_lit 299, o_299 P) :: (nat_lit 300, o_300 P) :: (nat_lit 302, o_302 P) :: (nat_lit 303, o_303 P) :: (nat_lit 304, o_304 P) :: (nat_lit 305, o_305 P) :: (nat_lit 306, o_306 P) :: (nat_lit 307, o_307 P) :: (nat_lit 308, o_308 P) :: (nat_lit 309, o_309 P) :: (nat_lit 310, o_310 P) :: (nat_lit 313, o_20 P) :: (nat_lit 314, o_20 P) :: (nat_lit 317, boot_o_6 P) :: (nat_lit 318, o_318 P) :: (nat_lit 319, boot_o_7 P) :: (nat_lit 320, o_320 P) :: (nat_lit 321, boot_o_7 P) :: (nat_lit 323, o_323 P) :: (nat_lit 324, boot_o_7 P) :: (nat_lit 326, o_326 P) :: (nat_lit 327, o_327 P) :: (nat_lit 328, boot_o_7 P) :: (nat_lit 330, o_330 P) :: (nat_lit 331, boot_o_7 P) :: (nat_lit 333, o_333 P) :: (nat_lit 334, o_334 P) :: (nat_lit 335, boot_o_7 P) :: (nat_lit 337, o_337 P) :: (nat_lit 338, boot_o_7 P) :: (nat_lit 340, o_340 P) :: (nat_lit 341, o_341 P) :: (nat_lit 342, boot_o_7 P) :: (nat_lit 344, o_344 P) :: (nat_lit 345, boot_o_7 P) :: (nat_lit 347, o_347 P) :: (nat_lit 348, o_348 P) :: (nat_lit 349, boot_o_7 P) :: (nat_lit 351, o_351 P) :: (nat_lit 352, boot_o_7 P) :: (nat_lit 354, o_354 P) :: (nat_lit 355, o_355 P) :: (nat_lit 356, boot_o_7 P) :: (nat_lit 358, o_358 P) :: (nat_lit 359, boot_o_7 P) :: (nat_lit 361, o_361 P) :: (nat_lit 362, o_362 P) :: (nat_lit 363, boot_o_7 P) :: (nat_lit 365, o_365 P) :: (nat_lit 366, boot_o_7 P) :: (nat_lit 368, o_368 P) :: (nat_lit 369, o_369 P) :: (nat_lit 370, boot_o_7 P) :: (nat_lit 372, o_372 P) :: (nat_lit 373, boot_o_7 P) :: (nat_lit 375, o_375 P) :: (nat_lit 376, o_376 P) :: []
noncomputable abbrev viewOf {c0 c1 c2 c3 c4 c5 c6 c7 c8 c9 c10 c11 c12 c13 c14 c15 c16 c17 c18 c19 : Stmt} (_h : pw.main.body = [c0, c1, c2, c3, c4, c5, c6, c7, c8, c9, c10, c11, c12, c13, c14, c15, c16, c17, c18, c19]) : Program := { pw with main := { pw.main with body := [c0, c1, c3, c4, c5, c6, c7, c8, c9, c10, c13, c14, c15, c16, c17, c18, c19] } }
noncomputable def hd.view_39 : Program := viewOf rfl
noncomputable abbrev lo : List Str := [Str.ofString "BIT_MASK", Str.ofString "SHIFT", Str.ofString "PythonPVector", Str.ofString "_EMPTY_PVECTOR", Str.ofString "python_pvector"]
noncomputable abbrev lv : List (Str × WData) := [(Str.ofString "BIT_MASK", WData.int 31), (Str.ofString "SHIFT", WData.int 5)]
noncomputable abbrev as39 : List Addr := [2, 3, 33, 35, 36, 38, 39, 48, 50, 51, 53, 54, 55, 57, 58, 60, 61, 62, 65, 70, 71, 72, 74, 75, 77, 78, 79, 81, 82, 84, 85, 86, 88, 89, 91, 92, 93, 95, 96, 98, 99, 100, 102, 103, 105, 106, 107, 109, 110, 112, 113, 114, 116, 117, 119, 120, 121, 123, 124, 126, 127, 128, 130, 131, 133, 134, 135, 137, 138, 140, 141, 142, 144, 145, 147, 148, 149, 151, 152, 154, 155, 156, 158, 159, 161, 162, 163, 165, 166, 168, 169, 170, 172, 173, 175, 176, 177, 179, 180, 182, 183, 184, 186, 187, 189, 190, 191, 193, 194, 196, 197, 198, 200, 201, 203, 204, 205, 207, 208, 210, 211, 212, 213, 214, 215, 217, 218, 220, 221, 222, 224, 225, 227, 228, 229, 231, 232, 234, 235, 236, 238, 239, 241, 242, 243, 245, 246, 248, 249, 250, 252, 253, 255, 256, 257, 259, 260, 262, 263, 264, 266, 267, 269, 270, 271, 273, 274, 276, 277, 278, 280, 281, 283, 284, 285, 286, 288, 289, 291, 292, 293, 295, 296, 298, 299, 300, 302, 303, 304, 305, 306, 307, 308, 309, 310, 313, 314, 317, 318, 319, 320, 321, 323, 324, 326, 327, 328, 330, 331, 333, 334, 335, 337, 338, 340, 341, 342, 344, 345, 347, 348, 349, 351, 352, 354, 355, 356, 358, 359, 361, 362, 363, 365, 366, 368, 369, 370, 372, 373, 375, 376]
noncomputable abbrev an : Option Value := (.some (.ref 6))
noncomputable abbrev envE : Env := { scope := pw.main.scope, locals := mainNs, globals := mainNs, cells := [], code := (.ref 31), frame := some 32 }
noncomputable abbrev cE : Code := .body (behindTheImports pw) envE
noncomputable abbrev qE : Pos := ⟨0, 0, 0, 0⟩
noncomputable abbrev bE : List Frame := [topFrame qE]
noncomputable abbrev sB (w : World) (os : OsState) : SharedT := ⟨t_b w.params, 29, ⟨[], [], [], 0, [], [], false, #[], [], 0, false, false, false, 0, [2000, 10, 10], false, 0, true, [], [], 0, false⟩, #[], ⟨0, 0, 0, 0⟩, 338, os⟩
theorem boots (w : World) : impRunT (stepT (denote treeTable) (opening pw) w) 1031 ⟨.nil, 0, {}, #[], {}, 1, (start (opening pw)).1.os⟩ (start (opening pw)).2 = some (sB w (start (opening pw)).1.os) := by (try rw [PySem.W.Fast.te10156331382660048174]); (try rw [PySem.W.Fast.te11892475500146522536]); (try rw [PySem.W.Fast.te14364793385576792824]); kernel_rfl
noncomputable def h_b (P : Params) : Heap := absHeap (t_b P) 29 ⟨[], [], [], 0, [], [], false, #[], [], 0, false, false, false, 0, [2000, 10, 10], false, 0, true, [], [], 0, false⟩
theorem fence : ∀ w : World, (fun os => (fenceModules? pw ⟨h_b w.params, #[], ⟨0, 0, 0, 0⟩, 338, os⟩).map (fun s => (s.heap, s.gens, s.drawn, s.toks))) = fun _ => some (h_0 w.params, #[], ⟨0, 0, 0, 0⟩, 338) := fun w => by (try rw [PySem.W.Fast.te14289696077712309145]); kernel_rfl
theorem begins : (start (opening pw)).1 = SharedT.abs ⟨.nil, 0, {}, #[], {}, 1, (start (opening pw)).1.os⟩ := by kernel_rfl
theorem opens : ∀ w : World, (fencedOpening treeTable pw w 5070).map (fun s => (s.heap, s.gens, s.drawn, s.toks)) = some (h_0 w.params, #[], ⟨0, 0, 0, 0⟩, 338) := open_cut (He := h_b) (M := 1031) (fun w => by rw [begins]; exact impRunT_ends _ _ _ _ (boots w)) rfl fence
theorem sizes : ∀ w : World, ((h_0 w.params).isNs mainGlobals && (#[] : Array GenState).size == 0, (h_0 w.params).objs.size, (h_0 w.params).nsMap mainGlobals "__annotations__") = (true, 29, an) := fun w => by kernel_rfl
theorem pre (w : World) (os : OsState) : topGo treeTable pw w 29 an 12 ⟨h_0 w.params, #[], ⟨0, 0, 0, 0⟩, 338, os⟩ (topStub pw) = some (⟨h_1 w.params, #[], ⟨0, 0, 0, 0⟩, 344, os⟩, ⟨denote treeTable cE, cE, ⟨0, 0, 0, 0⟩, bE⟩) := by kernel_rfl
theorem block (w : World) (os : OsState) : segRun treeTable pw w 29 an 1 1 ⟨h_1 w.params, #[], ⟨0, 0, 0, 0⟩, 344, os⟩ (blockOf (behindTheImports pw) envE cE ⟨0, 0, 0, 0⟩ bE) = some (.next, SharedT.abs ⟨t_0 w.params, 33, ⟨[], [], [], 0, [], [], false, #[], [], 0, false, false, false, 0, [2000, 10, 10], false, 0, true, [], [], 0, false⟩, #[], ⟨0, 0, 0, 0⟩, 344, os⟩, cE, ⟨0, 0, 0, 0⟩) := by kernel_rfl
noncomputable def sts1 : List Stmt := ((behindTheImports pw).drop 0).take 8
theorem seg1 (w : World) (os : OsState) : segRunT treeTable pw w 29 an 1 203 ⟨t_0 w.params, 33, ⟨[], [], [], 0, [], [], false, #[], [], 0, false, false, false, 0, [2000, 10, 10], false, 0, true, [], [], 0, false⟩, #[], ⟨0, 0, 0, 0⟩, 344, os⟩ (piecesOf sts1 envE cE ⟨0, 0, 0, 0⟩ bE) = some (.next, ⟨t_8 w.params, 62, ⟨[], [], [], 0, [], [], false, #[], [], 0, false, false, false, 0, [2000, 10, 10], false, 0, true, [], [], 0, false⟩, #[], ⟨0, 0, 0, 0⟩, 387, os⟩, cE, ⟨13, 0, 16, 29⟩) := by (try rw [PySem.W.Fast.te10110043849684766642]); (try rw [PySem.W.Fast.te14364793385576792824]); kernel_rfl
noncomputable def sts2 : List Stmt := ((behindTheImports pw).drop 8).take 1
theorem seg2 (w : World) (os : OsState) : segRunT treeTable pw w 29 an 1 1498 ⟨t_8 w.params, 62, ⟨[], [], [], 0, [], [], false, #[], [], 0, false, false, false, 0, [2000, 10, 10], false, 0, true, [], [], 0, false⟩, #[], ⟨0, 0, 0, 0⟩, 387, os⟩ (piecesOf sts2 envE cE ⟨13, 0, 16, 29⟩ bE) = some (.next, ⟨t_9 w.params, 313, ⟨[], [], [], 0, [], [], false, #[], [], 0, false, false, false, 0, [2000, 10, 10], false, 0, true, [], [], 0, false⟩, #[], ⟨0, 0, 0, 0⟩, 732, os⟩, cE, ⟨17, 0, 208, 39⟩) := by (try rw [PySem.W.Fast.te10110043849684766642]); (try rw [PySem.W.Fast.te14364793385576792824]); kernel_rfl
noncomputable def sts3 : List Stmt := ((behindTheImports pw).drop 9).take 1
theorem seg3 (w : World) (os : OsState) : segRunT treeTable pw w 29 an 1 480 ⟨t_9 w.params, 313, ⟨[], [], [], 0, [], [], false, #[], [], 0, false, false, false, 0, [2000, 10, 10], false, 0, true, [], [], 0, false⟩, #[], ⟨0, 0, 0, 0⟩, 732, os⟩ (piecesOf sts3 envE cE ⟨17, 0, 208, 39⟩ bE) = some (.next, ⟨t_10 w.params, 319, ⟨[], [], [], 0, [], [], false, #[], [], 0, false, false, false, 0, [2000, 10, 10], false, 0, true, [], [], 0, false⟩, #[], ⟨0, 0, 0, 0⟩, 752, os⟩, cE, ⟨209, 0, 209, 14⟩) := by (try rw [PySem.W.Fast.te10110043849684766642]); (try rw [PySem.W.Fast.te14364793385576792824]); kernel_rfl
noncomputable def sts4 : List Stmt := ((behindTheImports pw).drop 10).take 9
theorem seg4 (w : World) (os : OsState) : segRunT treeTable pw w 29 an 1 295 ⟨t_10 w.params, 319, ⟨[], [], [], 0, [], [], false, #[], [], 0, false, false, false, 0, [2000, 10, 10], false, 0, true, [], [], 0, false⟩, #[], ⟨0, 0, 0, 0⟩, 752, os⟩ (piecesOf sts4 envE cE ⟨209, 0, 209, 14⟩ bE) = some (.next, ⟨t_19 w.params, 377, ⟨[], [], [], 0, [], [], false, #[], [], 0, false, false, false, 0, [2000, 10, 10], false, 0, true, [], [], 0, false⟩, #[], ⟨0, 0, 0, 0⟩, 860, os⟩, cE, ⟨310, 0, 348, 38⟩) := by (try rw [PySem.W.Fast.te10110043849684766642]); (try rw [PySem.W.Fast.te14364793385576792824]); kernel_rfl
theorem fin (w : World) (os : OsState) : topRun treeTable pw w 29 an 2 (SharedT.abs ⟨t_19 w.params, 377, ⟨[], [], [], 0, [], [], false, #[], [], 0, false, false, false, 0, [2000, 10, 10], false, 0, true, [], [], 0, false⟩, #[], ⟨0, 0, 0, 0⟩, 860, os⟩) ⟨doneF .next, cE, ⟨310, 0, 348, 38⟩, bE⟩ = some ⟨h_end w.params, #[], ⟨0, 0, 0, 0⟩, 860, os⟩ := by kernel_rfl
theorem cells : behindTheImports pw = sts1 ++ (sts2 ++ (sts3 ++ (sts4 ++ []))) := by kernel_rfl
theorem runs1 (w : World) (os : OsState) : topRun treeTable pw w 29 an (203 + (1498 + (480 + (295 + 2)))) (SharedT.abs ⟨t_0 w.params, 33, ⟨[], [], [], 0, [], [], false, #[], [], 0, false, false, false, 0, [2000, 10, 10], false, 0, true, [], [], 0, false⟩, #[], ⟨0, 0, 0, 0⟩, 344, os⟩) (restOf (sts1 ++ (sts2 ++ (sts3 ++ (sts4 ++ [])))) envE cE ⟨0, 0, 0, 0⟩ bE) = some ⟨h_end w.params, #[], ⟨0, 0, 0, 0⟩, 860, os⟩ := (piece_app (l := sts1) (segRun_of (seg1 w os)) (piece_app (l := sts2) (segRun_of (seg2 w os)) (piece_app (l := sts3) (segRun_of (seg3 w os)) (piece_app (l := sts4) (segRun_of (seg4 w os)) (piece_nil (fin w os))))))
theorem runs (w : World) (os : OsState) : topRun treeTable pw w 29 an (12 + (1 + (203 + (1498 + (480 + (295 + 2)))))) ⟨h_0 w.params, #[], ⟨0, 0, 0, 0⟩, 338, os⟩ (topStub pw) = some ⟨h_end w.params, #[], ⟨0, 0, 0, 0⟩, 860, os⟩ := go_top (pre w os) (piece_block (block w os) (by rw [cells]; exact runs1 w os))
noncomputable abbrev hk : Hook := kHook hd.heap_39 as39 (fun _ => by kernel_rfl)
noncomputable abbrev xt (s : Shared) : Bool := xlAt hd.view_39 lv s && recOk (RowW.records (OpenRow.toRowW (OpenLaw.row PySem.Challenge.rw_nc0016_01))) s
theorem looks : ∀ w : World, (fun os => ((staticsOk (importedModules pw.main.body) (h_0 w.params) (h_end w.params) && namesBound pw (h_end w.params) && gensDone ⟨h_end w.params, #[], ⟨0, 0, 0, 0⟩, 860, os⟩ && laidKept (h_0 w.params) (h_end w.params)),
    openSeen hd.view_39 lo (importedModules pw.main.body) xt true ⟨h_end w.params, #[], ⟨0, 0, 0, 0⟩, 860, os⟩, hk.obs ⟨h_end w.params, #[], ⟨0, 0, 0, 0⟩, 860, os⟩)) = fun _ => (true, openGood hd.view_39 lo, hk.val w) := fun w => by kernel_rfl
theorem left : LeftO pw hd.view_39 lo xt hk.obs hk.val 5070 := LeftO.of_pieces opens sizes runs rfl looks
end
example : (PySem.Challenge.rw_nc0016_01 = PySem.Challenge.rw_nc0016_01) ∧ (hd.heap_39 = hd.heap_39) := by k_fill; exact ⟨rfl, rfl⟩
theorem weaken {α : Type} {M : Model} {A A' : Around} {t : Sem α} {Q : α → Shared → Prop} {E : Value → Shared → Prop} {s : Shared} (h1 : A.handled = A'.handled) (h2 : A.frames = A'.frames) (h3 : A.guards = A'.guards)
    (h4 : A.depth ≤ A'.depth) (h5 : A.units ≤ A'.units) (h : wpAny M A' t Q E s) : wpAny M A t Q E s :=
  fun Γ p hΓ => h Γ p ⟨hΓ.1.trans h1, Nat.le_trans hΓ.2.1 h4, h2 ▸ hΓ.2.2.1, h3 ▸ hΓ.2.2.2.1, Nat.le_trans hΓ.2.2.2.2 h5⟩
theorem weakenC {M : Model} {A A' : Around} {c : Code} {R : Result → Shared → Prop} {s : Shared} (h1 : A.handled = A'.handled) (h2 : A.frames = A'.frames) (h3 : A.guards = A'.guards)
    (h4 : A.depth ≤ A'.depth) (h5 : A.units ≤ A'.units) (h : codeAny M A' c R s) : codeAny M A c R s :=
  fun Γ p hc hΓ => h Γ p hc ⟨hΓ.1.trans h1, Nat.le_trans hΓ.2.1 h4, h2 ▸ hΓ.2.2.1, h3 ▸ hΓ.2.2.2.1, Nat.le_trans hΓ.2.2.2.2 h5⟩

/-- the context of a call: the caller's frames, the top, the room -/
structure Cx (w : World) (p : Program) (loose : List Str) (mean : ExcName → Option Value) (mg mb : Str → Option Value) (D U : Nat) (A₀ A : Around) (base h₀ : Heap) (outer : List Env) (env : Env) (L : Addr) : Prop where
  B : Below A₀ base outer h₀
  X : (hd.heap_39 w.params).In h₀
  T : Top p loose mean mg mb h₀
  hh : A.handled = none
  hA : A.frames = some (env :: outer)
  hf : env.frame = some L
  hke : env.scope.kind = .function
  hd : A.depth ≤ D
  hu : A.units ≤ U

noncomputable abbrev topA (D U : Nat) (gd : Option (List Code)) (env : Env) (outer : List Env) : Around := { handled := none, depth := D, frames := some (env :: outer), guards := gd, units := U }


def back (Q : Value → Shared → Prop) (E : Value → Shared → Prop) (r : Result) (s' : Shared) : Prop := match r with
  | .ok (.ret v) => Q v s'
  | .ok _ => False
  | .error e => E e s'

section
variable {prog : Program} {w : World} {p : Program} {loose : List Str} {mean : ExcName → Option Value} {mg mb : Str → Option Value} {D U : Nat} {A₀ A : Around} {base h₀ : Heap} {outer : List Env} {env : Env} {L : Addr}
  {m : Str → Option Value} {news : List (Addr × Obj)} {s : Shared} {Q E : Value → Shared → Prop}

theorem enter {name qual : Str} {params : Arguments} {body : List Stmt} {scope : Scope} {dV kV doc pm cdv ct oc : Value} {an od : Option Addr} {osl : Array (Option Value)} {f : Addr} {args : List Value} (binds : List (Str × Value))
    (C : Cx w p loose mean mg mb D U A₀ A base h₀ outer env L) (F : Fr h₀ L s.heap m) (N : News h₀ L s.heap news)
    (ho : (hd.heap_39 w.params).lookup f = some ⟨oc, od, .func (fnOf name qual params body scope dV kV doc pm an cdv ct), osl⟩) (hcd : codeIn (hd.heap_39 w.params) cdv qual = true) (hroom : D < recursionLimit)
    (hbind : BindsTo s (fnOf name qual params body scope dV kV doc pm an cdv ct) ⟨args, []⟩ binds) (hloc : ∀ y ∈ binds, scope.names.lookup y.1 = some .local)
    (h : ∀ g L' h₁, Fr h₀ L g m → Fr g L' h₁ (fun y => binds.reverse.lookup y) → News g L' h₁ news → Below (topA D U A.guards env outer) base (env :: outer) g → (hd.heap_39 w.params).In g → Top p loose mean mg mb g → (∀ p ∈ news, p.1 < L') →
      wpAny (model prog w) ((topA D U A.guards env outer).deeper (envOf qual scope L' f cdv)) (execs body (envOf qual scope L' f cdv))
        (fun fl s' => LeaveK h₀ L m g (back Q E) (match fl with | .ret v => v | _ => .none) s')
        (fun e s' => wpAny (model prog w) ((topA D U A.guards env outer).deeper (envOf qual scope L' f cdv)) (leaving (envOf qual scope L' f cdv) e) (fun _ s'' => E e s'') E s')
        { s with heap := h₁, toks := s.toks + binds.length })
    (hco : scope.isCoroutine = false) (hgen : scope.isGenerator = false) (hk : scope.kind = .function)
    (hcell : ∀ x ∈ scope.names, x.2 ≠ .cell) : wpAny (model prog w) A (call (.ref f) args) Q E s := by
  refine weaken (A' := topA D U A.guards env outer) C.hh C.hA rfl C.hd C.hu ?_
  refine wpAny_call ?_
  exact callX_plain (R := back Q E) (cl := []) C.B F N C.T.nolimit rfl C.hf C.hke ((C.X.keeps F.keep) _ _ ho) rfl (codeRec_of (C.X.keeps F.keep) hcd) hroom hbind hloc
    (fun g L' h₁ FG F' N' B' st lt => h g L' h₁ FG F' N' B' (C.X.keeps st) (C.T.keeps st) lt) hcell hco hgen hk
end


/-- an object of the top's, or of the ledger -/
def Has (w : World) (Z : List (Addr × Obj)) (a : Addr) (o : Obj) : Prop := (hd.heap_39 w.params).lookup a = some o ∨ (a, o) ∈ Z
section
variable {w : World} {h₀ h : Heap} {L : Addr} {m : Str → Option Value} {news Z Z' : List (Addr × Obj)} {a : Addr} {o : Obj}
theorem Has.get (H : Has w Z a o) (X : (hd.heap_39 w.params).In h₀) (F : Fr h₀ L h m) (N : News h₀ L h news) (hz : ∀ p ∈ Z, p ∈ news) : h.get? a = some o :=
  H.elim (fun e => F.keep _ _ (X _ _ e)) fun e => (N _ (hz _ e)).1
theorem Has.mono (H : Has w Z a o) (hz : ∀ p ∈ Z, p ∈ Z') : Has w Z' a o := H.imp id fun e => hz _ e
theorem Has.isList {items : Array Value} {n : Nat} (H : Has w Z a (listOf items n)) (X : (hd.heap_39 w.params).In h₀) (F : Fr h₀ L h m) (N : News h₀ L h news) (hz : ∀ p ∈ Z, p ∈ news) : h.IsList a items := ⟨_, H.get X F N hz, rfl, n, rfl⟩
end
/-- a vector's object -/
noncomputable abbrev vecObj (dx : Addr) (c r sh t o : Value) : Obj := ⟨.ref 303, some dx, .plain, #[some c, some r, some sh, some t, some o]⟩
theorem sub_cons {Z l : List (Addr × Obj)} {q : Addr × Obj} (h : ∀ p ∈ Z, p ∈ l) : ∀ p ∈ Z, p ∈ q :: l := fun p hp => .tail _ (h p hp)
theorem sub_app {Z l k : List (Addr × Obj)} (h : ∀ p ∈ Z, p ∈ l) : ∀ p ∈ Z, p ∈ k ++ l := fun p hp => List.mem_append_right _ (h p hp)
theorem sub_appl {Z l k : List (Addr × Obj)} (h : ∀ p ∈ Z, p ∈ l) : ∀ p ∈ Z, p ∈ l ++ k := fun p hp => List.mem_append_left _ (h p hp)
theorem sub_refl {l : List (Addr × Obj)} : ∀ p ∈ l, p ∈ l := fun _ h => h
theorem lt_all {d x : Addr} {l : List (Addr × Obj)} (h : ∀ p ∈ l, p.1 < d) (k : d < x) : ∀ p ∈ l, p.1 < x := fun p hp => Nat.lt_trans (h p hp) k
def Stop (P : Prop) : Prop := P
theorem stop {P : Prop} (h : Stop P) : P := h
theorem st_a {M A Q E s x1 x2} (h : Stop (wpAny M A (PySem.call (PySem.Value.ref x1) x2) Q E s)) : wpAny M A (PySem.call (PySem.Value.ref x1) x2) Q E s := h
theorem st_b {M A Q E s x1} (h : Stop (wpAny M A (PySem.pyIter (PySem.Value.ref x1)) Q E s)) : wpAny M A (PySem.pyIter (PySem.Value.ref x1)) Q E s := h
theorem st_c {M A Q E s x1 x2 x3 x4 x5} (h : Stop (wpAny M A (PySem.exec (PySem.Stmt.While x1 x2 x3 x4) x5) Q E s)) : wpAny M A (PySem.exec (PySem.Stmt.While x1 x2 x3 x4) x5) Q E s := h
theorem st_d {M A Q E s x1 x2 x3 x4 x5} (h : Stop (wpAny M A (PySem.eval (PySem.Expr.IfExp x1 x2 x3 x4) x5) Q E s)) : wpAny M A (PySem.eval (PySem.Expr.IfExp x1 x2 x3 x4) x5) Q E s := h
theorem st_e {M A Q E s x1 x2} (h : Stop (wpAny M A (PySem.leaving x1 (PySem.Value.ref x2)) Q E s)) : wpAny M A (PySem.leaving x1 (PySem.Value.ref x2)) Q E s := h
theorem st_f {M A Q E s x1 x2 x3 x4} (h : Stop (wpAny M A (PySem.call (PySem.Value.builtin x1) [PySem.Value.ref x2, PySem.Value.int x3 x4]) Q E s)) : wpAny M A (PySem.call (PySem.Value.builtin x1) [PySem.Value.ref x2, PySem.Value.int x3 x4]) Q E s := h
theorem st_g {M A Q E s x1 x2 x3 x4 x5 x6} (h : Stop (wpAny M A (subscriptTail (PySem.Expr.List x1 x2) x3 (PySem.Value.ref x4) (PySem.Value.int x5 x6)) Q E s)) : wpAny M A (subscriptTail (PySem.Expr.List x1 x2) x3 (PySem.Value.ref x4) (PySem.Value.int x5 x6)) Q E s := h
theorem st_h {M A Q E s x1 x2 x3 x4 x5 x6} (h : Stop (wpAny M A (PySem.eval (PySem.Expr.Compare x1 [x2, x3] x4 x5) x6) Q E s)) : wpAny M A (PySem.eval (PySem.Expr.Compare x1 [x2, x3] x4 x5) x6) Q E s := h
theorem st_i {M A Q E s x1 x2 x3} (h : Stop (wpAny M A (PySem.compareOp x1 x2 (PySem.Value.ref x3)) Q E s)) : wpAny M A (PySem.compareOp x1 x2 (PySem.Value.ref x3)) Q E s := h
theorem st_j {M A Q E s x1 x2 x3 x4} (h : Stop (wpAny M A (PySem.call x1 [PySem.Value.ref x2, PySem.Value.int x3 x4]) Q E s)) : wpAny M A (PySem.call x1 [PySem.Value.ref x2, PySem.Value.int x3 x4]) Q E s := h
theorem st_k {M A Q E s x1 x2 x3} (h : Stop (wpAny M A (PySem.binaryOp x1 (PySem.Value.ref x2) (PySem.Value.ref x3)) Q E s)) : wpAny M A (PySem.binaryOp x1 (PySem.Value.ref x2) (PySem.Value.ref x3)) Q E s := h
theorem st_l {M A Q E s x1 x2 x3 x4} (h : Stop (wpAny M A (PySem.binaryOp x1 (PySem.Value.int x2 x3) (PySem.Value.ref x4)) Q E s)) : wpAny M A (PySem.binaryOp x1 (PySem.Value.int x2 x3) (PySem.Value.ref x4)) Q E s := h
theorem st_m {M A Q E s x1 x2 x3 x4 x5 x6 x7} (h : Stop (wpAny M A (subscriptTail x1 (PySem.Expr.Slice x2 x3 (some x4) x5) (PySem.Value.ref x6) (PySem.Value.ref x7)) Q E s)) : wpAny M A (subscriptTail x1 (PySem.Expr.Slice x2 x3 (some x4) x5) (PySem.Value.ref x6) (PySem.Value.ref x7)) Q E s := h
theorem st_n {M A Q E s x1 x2 x3} (h : Stop (wpAny M A (PySem.compareOp x1 (PySem.Value.ref x2) (PySem.Value.ref x3)) Q E s)) : wpAny M A (PySem.compareOp x1 (PySem.Value.ref x2) (PySem.Value.ref x3)) Q E s := h
theorem st_o {M A Q E s x1 x2} (h : Stop (wpAny M A (PySem.call x1 [PySem.Value.ref x2]) Q E s)) : wpAny M A (PySem.call x1 [PySem.Value.ref x2]) Q E s := h
theorem st_p {M A Q E s x1 x2 x3 x4 x5} (h : Stop (wpAny M A (subscriptTail (PySem.Expr.Name (PySem.Str.ofString "row") x1) x2 (PySem.Value.ref x3) (PySem.Value.int x4 x5)) Q E s)) : wpAny M A (subscriptTail (PySem.Expr.Name (PySem.Str.ofString "row") x1) x2 (PySem.Value.ref x3) (PySem.Value.int x4 x5)) Q E s := h
theorem st_q {M A Q E s x1 x2 x3} (h : Stop (wpAny M A (PySem.call x1 [PySem.Value.ref x2, x3]) Q E s)) : wpAny M A (PySem.call x1 [PySem.Value.ref x2, x3]) Q E s := h
theorem st_r {M A Q E s x1 x2 x3 x4 x5 x6 x7 x8} (h : Stop (wpAny M A (subscriptTail (PySem.Expr.List x1 x2) (PySem.Expr.Slice x3 x4 x5 x6) (PySem.Value.ref x7) (PySem.Value.ref x8)) Q E s)) : wpAny M A (subscriptTail (PySem.Expr.List x1 x2) (PySem.Expr.Slice x3 x4 x5 x6) (PySem.Value.ref x7) (PySem.Value.ref x8)) Q E s := h
theorem st_s {M A Q E s x1 x2 x3 x4 x5 x6 x7 x8 x9} (h : Stop (wpAny M A (subscriptTail (PySem.Expr.Subscript x1 x2 x3) (PySem.Expr.Slice x4 x5 x6 x7) (PySem.Value.ref x8) (PySem.Value.ref x9)) Q E s)) : wpAny M A (subscriptTail (PySem.Expr.Subscript x1 x2 x3) (PySem.Expr.Slice x4 x5 x6 x7) (PySem.Value.ref x8) (PySem.Value.ref x9)) Q E s := h
theorem st_t {M A Q E s x1 x2 x3 x4 x5 x6} (h : Stop (wpAny M A (subscriptTail (PySem.Expr.Name x1 x2) x3 (PySem.Value.ref x4) (PySem.Value.int x5 x6)) Q E s)) : wpAny M A (subscriptTail (PySem.Expr.Name x1 x2) x3 (PySem.Value.ref x4) (PySem.Value.int x5 x6)) Q E s := h
theorem st_u {M A Q E s x1 x2 x3} (h : Stop (wpAny M A (PySem.call x1 [x2, x3]) Q E s)) : wpAny M A (PySem.call x1 [x2, x3]) Q E s := h
theorem st_v {M A Q E s x1 x2 x3} (h : Stop (wpAny M A (PySem.call x1 [PySem.Value.ref x2, PySem.Value.ref x3]) Q E s)) : wpAny M A (PySem.call x1 [PySem.Value.ref x2, PySem.Value.ref x3]) Q E s := h
local macro_rules | `(tactic| walk_at "my sub") => `(tactic| first | assumption | exact sub_refl | (refine sub_cons ?_; walk_at "my sub") | (refine sub_app ?_; walk_at "my sub") | (refine sub_appl ?_; walk_at "my sub"))
local macro_rules | `(tactic| is_list) => `(tactic| exact Has.isList (by assumption) (by assumption) (by assumption) (by assumption) (by walk_at "my sub"))
local macro_rules | `(tactic| walk_at "my size") => `(tactic| first | omega | (simp only [List.size_toArray, List.length_cons, List.length_nil, List.length_append, PySem.sizeLine_eq] at *; omega))
local macro_rules | `(tactic| walk_at "call builtin:len") => `(tactic| (k_dflt (refine' len_list ?k1 ?k2 ?_; (case k1 => is_list); (case k2 => walk_at "my size"); k_whole)))
theorem news_sub {h₀ h : Heap} {L : Addr} {l l' : List (Addr × Obj)} (N : News h₀ L h l) (s : ∀ p ∈ l', p ∈ l) : News h₀ L h l' := fun p hp => N p (s p hp)
theorem news_drop2 {h₀ h : Heap} {L : Addr} {a b c : Addr × Obj} {l : List (Addr × Obj)} (N : News h₀ L h (a :: b :: c :: l)) : News h₀ L h (a :: b :: l) := news_sub N fun p hp => by
  rcases List.mem_cons.mp hp with rfl | hp
  · exact .head _
  · rcases List.mem_cons.mp hp with rfl | hp
    · exact .tail _ (.head _)
    · exact .tail _ (.tail _ (.tail _ hp))
local macro_rules | `(tactic| walk_at "my dec") => `(tactic| ((try simp only [beq_iff_eq, bne_iff_ne, ne_eq, decide_eq_true_eq, Bool.and_eq_true, Bool.or_eq_true, Bool.not_eq_true', decide_eq_false_iff_not, beq_eq_false_iff_ne, Bool.not_eq_true]); omega))
local macro_rules | `(tactic| walk_at "ite") => `(tactic| ((with_reducible show ite _ _ _); first | refine ite_pos (by walk_at "my dec") ?_ | refine ite_neg (by walk_at "my dec") ?_ | refine ite_pos (by decide) ?_ | refine ite_neg (by decide) ?_ | refine stop ?_))
local macro_rules | `(tactic| walk_at "my lt") => `(tactic| first | tbn_lt | assumption)
theorem ite_f {α : Type} {M : Model} {A : Around} {c : Bool} {a b : Sem α} {Q : α → Shared → Prop} {E : Value → Shared → Prop} {s : Shared} (hc : c = false) (h : wpAny M A b Q E s) : wpAny M A (if c = true then a else b) Q E s := by subst hc; exact h
theorem ite_t {α : Type} {M : Model} {A : Around} {c : Bool} {a b : Sem α} {Q : α → Shared → Prop} {E : Value → Shared → Prop} {s : Shared} (hc : c = true) (h : wpAny M A a Q E s) : wpAny M A (if c = true then a else b) Q E s := by subst hc; exact h

section
variable {prog : Program} {w : World} {A : Around} {E : Value → Shared → Prop} {h : Heap} {g : Array GenState} {d : Drawn} {t : Nat} {os : OsState}

theorem cls303 (X : (hd.heap_39 w.params).In h) : ∃ oc od cd sl, h.get? 303 = some ⟨oc, od, .cls cd, sl⟩ := by
  have e : isClsIn (hd.heap_39 w.params) 303 = true := by k_is
  obtain ⟨cd, e⟩ := Option.isSome_iff_exists.mp e
  unfold clsIn at e
  split at e
  · rename_i q; exact ⟨_, _, _, _, X _ _ q⟩
  · cases e

theorem sup_call {Q : Value → Shared → Prop} (X : (hd.heap_39 w.params).In h)
    (hq : ∀ h', h'.get? h.objs.size = some { cls := .type "super", dict := none, data := .fields #[.ref 303, .ref 303, .ref 303], slots := #[] } → (∀ y o, h.get? y = some o → h'.get? y = some o) → Q (.ref h.objs.size) ⟨h', g, d, t, os⟩) :
    wpAny (model prog w) A (call (.type "super") [.ref 303, .ref 303]) Q E ⟨h, g, d, t, os⟩ := by
  obtain ⟨oc, od, cd, sl, hD⟩ := cls303 X
  have hsub : Looks (model prog w) h (isSubtype (.ref 303) (.ref 303)) true := looks_subIn X (by k_is)
  refine ks_callType_codesW (Q₁ := fun obj s₁ => obj = .ref h.objs.size ∧ s₁ = ⟨h.push { cls := .type "super", data := .fields #[.none, .none, .none] }, g, d, t, os⟩) F.ks_called_super (ks_wpAny_checkTypeCall_super hD rfl) F.ks_entry_super_init
    (ks_code_super_new _ _ ⟨rfl, rfl⟩) fun obj s₁ h₁ => ?_
  obtain ⟨rfl, rfl⟩ := h₁
  have up : ∀ y o, h.get? y = some o → (h.push { cls := .type "super", data := .fields #[.none, .none, .none] }).get? y = some o := fun y o e => Heap.get?_push_of_some _ e
  have hso : (h.push { cls := .type "super", data := .fields #[.none, .none, .none] }).get? h.objs.size = some { cls := .type "super", dict := none, data := .fields #[.none, .none, .none], slots := #[] } := Heap.get?_push_at rfl rfl
  have hD' := up _ _ hD
  have hsub' := hsub.keeps up
  refine ⟨⟨_, hso, rfl⟩, F.ks_initArgs_super _ _ _, ?_⟩
  unfold Builtin.«super.__init__» noKeywords
  repeat (first | (with_reducible refine ks_wpAny_isType_cls hD' rfl ?_) | (with_reducible refine Looks.at hsub' ?_) | (with_reducible refine ks_wpAny_super_set3 hso ?_) | wp_step)
  all_goals first
    | (intro h' e k; exact ⟨rfl, hq h' e fun y o ey => k y o (Nat.ne_of_lt (Heap.lt_size ey)) (up y o ey)⟩)
    | (refine ks_wpAny_super_set3 hso ?_; intro h' e k; exact ⟨rfl, hq h' e fun y o ey => k y o (Nat.ne_of_lt (Heap.lt_size ey)) (up y o ey)⟩)

theorem mro303 {M : Model} (X : (hd.heap_39 w.params).In h) : Looks M h (mroOf (.ref 303)) [.ref 303, .type "object"] := by
  have e : (clsIn (hd.heap_39 w.params) 303).map (·.mro) = some [.ref 303, .type "object"] := by kernel_rfl
  obtain ⟨cd, e1, e2⟩ := Option.map_eq_some_iff.mp e
  exact e2 ▸ (looks_clsIn X e1).andThen .now

theorem sup_ga0 {K : Frag} {name : Str} {so C : Addr} {tk : Tok} {Q : Fin → Shared → Prop}
    (hso : h.get? so = some { cls := .type "super", dict := none, data := .fields #[.ref C, .ref C, .ref C], slots := #[] }) (X : K.In h)
    (hno : Looks (model prog w) h (opaqueClassAbove (.ref C)) none) (hC : Looks (model prog w) h (mroOf (.ref C)) [.ref C, .type "object"])
    (hf : alongIn K name [.type "object"] = some (some (.builtin "object.__new__"))) (hn : (name == ("__class__" : Str)) = false)
    (hq : Q (.done (.ret (.builtin "object.__new__"))) ⟨h, g, d, t, os⟩) :
    wpAny (model prog w) A (Builtin.«super.__getattribute__» ⟨[.ref so, .str name tk], []⟩) Q E ⟨h, g, d, t, os⟩ := by
  have hT : typeOf (.builtin "object.__new__") = pure (.type "builtin_function_or_method") := by show builtinType _ = _; rw [builtinType_eq_fast]; kernel_rfl
  have hL : typeLookup (.type "builtin_function_or_method") "__get__" = pure none := by rw [typeLookup_type, builtinLookup_eq_fast]; kernel_rfl
  have hdt : ({ cls := .type "super", dict := none, data := .fields #[.ref C, .ref C, .ref C], slots := #[] } : Obj).data = .fields #[.ref C, .ref C, .ref C] := rfl
  have f0 : (#[.ref C, .ref C, .ref C] : Array Value)[0]? = some (.ref C) := rfl
  have f1 : (#[.ref C, .ref C, .ref C] : Array Value)[1]? = some (.ref C) := rfl
  have f2 : (#[.ref C, .ref C, .ref C] : Array Value)[2]? = some (.ref C) := rfl
  have hl : ([Value.ref C, .type "object"].dropWhile (· != .ref C)).drop 1 = [.type "object"] := by simp [List.dropWhile]
  have hh : handedOut (.builtin "object.__new__") = pure (.builtin "object.__new__") := handedOut_of (by decide +kernel)
  unfold Builtin.«super.__getattribute__»
  repeat (first
    | (with_reducible refine wpAny_field hso hdt f0 ?_) | (with_reducible refine wpAny_field hso hdt f1 ?_) | (with_reducible refine wpAny_field hso hdt f2 ?_)
    | (with_reducible refine ks_wpAny_notOpaque hno ?_)
    | (with_reducible refine Looks.at hC ?_; rw [hl])
    | (refine ks_forIn_along X (fun _ _ => rfl) rfl ?_ hf)
    | (with_reducible refine wpAny_of_eq hT ?_)
    | (with_reducible refine wpAny_of_eq hL ?_)
    | (with_reducible refine wpAny_of_eq hh ?_)
    | (simp only [hn, Bool.or_false])
    | wp_step
    | dsimp only)
  all_goals exact hq

theorem sup_method0 {K : Frag} {name : Str} {so C : Addr} {pl : Sem Bool} {Q : Value × List Value → Shared → Prop}
    (hso : h.get? so = some { cls := .type "super", dict := none, data := .fields #[.ref C, .ref C, .ref C], slots := #[] }) (X : K.In h)
    (hno : Looks (model prog w) h (opaqueClassAbove (.ref C)) none) (hC : Looks (model prog w) h (mroOf (.ref C)) [.ref C, .type "object"])
    (hf : alongIn K name [.type "object"] = some (some (.builtin "object.__new__"))) (hn : (name == ("__class__" : Str)) = false)
    (hq : Q (.builtin "object.__new__", []) ⟨h, g, d, t + 1, os⟩) :
    wpAny (model prog w) A (getMethod (.ref so) name pl) Q E ⟨h, g, d, t, os⟩ := by
  have hlk := F.ks_slot_super_ga.lookup
  have hcan := F.ks_canon_super_ga
  have hT : ∀ t', (⟨h, g, d, t', os⟩ : Shared).TypeIs (.ref so) "super" := fun _ => ⟨_, hso, rfl⟩
  unfold getMethod
  refine wpAny_bind (wpAny_specialOf (hT _) hlk ?_)
  show wpAny _ _ (if (Manifest.canonical "super.__getattribute__" != "object.__getattribute__") = true then _ else _) _ _ _
  rw [if_pos hcan]
  unfold getAttr getAttrBy
  refine wpAny_bind (wpAny_bind (wpAny_mkText (wpAny_holding (wpAny_bind (wpAny_typeOf (hT _) (wpAny_bind (wpAny_of_eq hlk ?_)))))))
  show wpAny _ _ (getAttrByItsOwn (.ref so) (.str name t) (.type "super") (.builtin "super.__getattribute__") true false) _ _ _
  unfold getAttrByItsOwn hookBefore callGetattribute boundAndCalled
  refine wpAny_bind (wpAny_of_eq (show (if onTheHeap (.type "super") then typeLookup (.type "super") "__getattr__" else pure none) = pure none from rfl) ?_)
  refine wpAny_bind (wpAny_attempt (wpAny_holding ?_))
  show wpAny _ _ (bindSpecial (.builtin "super.__getattribute__") (.ref so) >>= _) _ _ _
  refine wpAny_bind (wpAny_of_eq (F.ks_slot_super_ga.bind _) ?_)
  refine wpAny_mono (Q := fun v s' => v = .builtin "object.__new__" ∧ s' = ⟨h, g, d, t + 1, os⟩) (E := fun _ _ => False)
    (wpAny_call_entry F.ks_slot_super_ga (hT _) F.ks_entry_super_ga (sup_ga0 hso X hno hC hf hn ⟨_, rfl, rfl, rfl⟩) (F.ks_gaArgs_super _ _)) (fun v s' hv => ?_) fun _ _ z => z.elim
  obtain ⟨rfl, rfl⟩ := hv
  exact wpAny_of_eq (handedOut_of (by decide +kernel)) (wpAny_pure hq)

/-- object.__new__(C) where C's own __new__ calls it -/
theorem obj_new0 {C : Addr} {oc : Value} {od : Option Addr} {cd : ClassData} {sl : Array (Option Value)} {R : Result → Shared → Prop}
    (hC : h.get? C = some ⟨oc, od, .cls cd, sl⟩) (e1 : cd.abstract = false) (e2 : cd.hasDel = false)
    (base : Looks (model prog w) h (Bind.staticBase (.ref C)) (.type "object")) (made : Looks (model prog w) h (Bind.madeBy (.type "object")) (some "object.__new__")) (top : Looks (model prog w) h (isSubtype (.ref C) (.type "object")) true)
    (typ : Looks (model prog w) h (isInstance (.ref C) (.type "type")) true)
    (hq : R (.ok (.ret (.ref (h.objs.size + 1)))) ⟨(h.push emptyDict).push (instObj C h.objs.size), g, d, t, os⟩) :
    codeAny (model prog w) A (.call (.builtin "object.__new__") ⟨[.ref C], []⟩) R ⟨h, g, d, t, os⟩ := by
  have F := PySem.F.objNew
  refine codeAny_call_builtin_code (Code.quiet_builtin _ F.quiet) ?_
  simp only [checkBuiltinCall, F.kind, F.split, F.row]
  have here : Looks (model prog w) h (Bind.madeHere "object.__new__" (.ref C)) () := base.andThen (made.andThen (Looks.of_pure (by simp only [Option.map_some, bne_self_eq_false, Bool.false_eq_true, if_false])))
  have args : Bind.checkArgs "object.__new__" ⟨.hand, "object.__new__", "__new__", .cls, []⟩ ⟨[.ref C], []⟩ = pure () := by kernel_rfl
  rw [args]
  repeat (first | refine ite_f rfl ?_ | refine ite_t rfl ?_ | refine ite_f (by simp) ?_ | refine ite_t (by simp) ?_ | lk)
  refine codeAny_builtin F.entry ?_
  unfold Builtin.«object.__new__»
  have fin : ∀ A', wpAny (model prog w) A' (do
      let d ← if typeHasDict (.ref C) then some <$> alloc { cls := .type "dict", data := .dict #[] } else pure none
      ret (← newObj (.ref C) .plain d)) (fun fin s' => match fin with | .done f => R (.ok f) s' | .again c' => c'.quiet = true ∧ codeAny (model prog w) A c' R s') (fun e s' => R (.error e) s') ⟨h, g, d, t, os⟩ := by
    intro A'
    show wpAny _ _ ((alloc emptyDict >>= fun x => pure (some x)) >>= _) _ _ _
    refine wpAny_bind (wpAny_bind (wpAny_alloc (wpAny_pure (wpAny_bind ?_))))
    show wpAny _ _ (newObjAsIs _ _ _) _ _ _
    unfold newObjAsIs classHasDel
    refine wpAny_bind (wpAny_alloc (wpAny_bind (wpAny_bind (wpAny_load (Heap.get?_push_of_some _ (Heap.get?_push_of_some _ hC)) (wpAny_pure ?_)))))
    rw [e2]
    refine wpAny_pure (wpAny_pure ?_)
    show R _ _
    rw [Heap.size_push]
    exact hq
  repeat (first | refine ite_f e1 ?_ | refine ite_f rfl ?_ | exact fin _ | lk)

theorem base303 {prog : Program} {w : World} {h : Heap} (X : (hd.heap_39 w.params).In h) : Looks (model prog w) h (Bind.staticBase (.ref 303)) (.type "object") := Looks.of_peek X (by kernel_rfl)
theorem made303 {prog : Program} {w : World} {h : Heap} (X : (hd.heap_39 w.params).In h) : Looks (model prog w) h (Bind.madeBy (.type "object")) (some "object.__new__") := Looks.of_peek X (by kernel_rfl)
theorem own303 {prog : Program} {w : World} {h : Heap} (X : (hd.heap_39 w.params).In h) : Looks (model prog w) h (Bind.madeBy (.ref 303)) none := Looks.of_peek X (by kernel_rfl)
end
def NewBack (K : Frag) (C : Addr) (R : Result → Shared → Prop) (r : Result) (s' : Shared) : Prop := match r with
  | .ok (.ret v) => ∃ x ox, v = .ref x ∧ s'.heap.get? x = some ox ∧ ox.cls = .ref C ∧ K.In s'.heap ∧ R (.ok (.ret v)) s'
  | .ok _ => False
  | .error e => R (.error e) s'
section
variable {prog : Program} {w : World} {A : Around} {E : Value → Shared → Prop} {h : Heap} {g : Array GenState} {d : Drawn} {t : Nat} {os : OsState}
theorem oi_args5 (a b c d e : Value) : argsOk "object.__init__" ⟨[a, b, c, d, e], []⟩ := by unfold argsOk; kernel_rfl
theorem make_core5 {K : Frag} {C f : Addr} {b c dd e : Value} {oc : Value} {od : Option Addr} {cd : ClassData} {sl : Array (Option Value)} {R : Result → Shared → Prop}
    (X : K.In h) (hC : h.get? C = some ⟨oc, od, .cls cd, sl⟩) (e4 : cd.mro.isEmpty = false)
    (call : Looks (model prog w) h (specialOf (.ref C) "__call__") (some (.builtin "type.__call__"))) (typ : Looks (model prog w) h (isInstance (.ref C) (.type "type")) true)
    (own : Looks (model prog w) h (Bind.madeBy (.ref C)) none)
    (self : ∀ h', K.In h' → Looks (model prog w) h' (isSubtype (.ref C) (.ref C)) true) (top : ∀ h', K.In h' → Looks (model prog w) h' (isSubtype (.ref C) (.type "object")) true)
    (init : ∀ h', K.In h' → Looks (model prog w) h' (typeLookup (.ref C) "__init__") (some (.builtin "object.__init__"))) (own' : ∀ h', K.In h' → Looks (model prog w) h' (Bind.madeBy (.ref C)) none)
    (hga : ∀ (A' : Around) (Q' : Value → Shared → Prop) (E' : Value → Shared → Prop), Q' (.ref f) ⟨h, g, d, t + 1, os⟩ → wpAny (model prog w) A' (getAttr (.ref C) "__new__") Q' E' ⟨h, g, d, t, os⟩)
    (hq : codeAny (model prog w) (A.under (.builtin "type.__call__" ⟨[.ref C, b, c, dd, e], []⟩)) (.call (.ref f) ⟨[.ref C, b, c, dd, e], []⟩) (NewBack K C R) ⟨h, g, d, t + 1, os⟩) :
    codeAny (model prog w) A (.call (.ref C) ⟨[b, c, dd, e], []⟩) R ⟨h, g, d, t, os⟩ := by
  refine codeAny_of_tree ?_
  show wpAny _ _ (callAny (.ref C) _) _ _ _
  refine nd_load hC ?_
  show wpAny _ _ (callAny.viaDunder (.ref C) _) _ _ _
  unfold callAny.viaDunder
  refine wpAny_bind (call.at ?_)
  dsimp only
  rw [tc_bind]
  refine wpAny_bind (wpAny_pure (wpAny_bind (wpAny_pure ?_)))
  refine wpAny_pure (a := Fin.again (.call (.builtin "type.__call__") ⟨[.ref C, b, c, dd, e], []⟩)) (And.intro rfl ?_)
  refine codeAny_call_builtin_at (Code.quiet_builtin _ (by decide +kernel)) entry_typeCall (check_slot tc_kind tc_split typ (tc_args _ _ _) ?_)
  unfold Builtin.«type.__call__»
  have hm : Looks (model prog w) h (mroOf (.ref C)) cd.mro := ((Looks.ld (part := none) hC).andThen .now).andThen .now
  repeat (first | simp only [e4, Bool.false_eq_true, if_false] | with_reducible refine wpAny_call ?_ | with_reducible refine hga _ _ _ ?_ | lk)
  refine codeAny_mono hq fun r s' z => ?_
  rcases r with er | (v | _ | _ | _) <;> first | exact z | exact z.elim | skip
  obtain ⟨x, ox, rfl, hx, hxc, X', z⟩ := z
  obtain ⟨h', g', d', t', os'⟩ := s'
  dsimp only at hx X' z
  have t1 : Looks (model prog w) h' (typeOf (.ref x)) (.ref C) := hxc ▸ (Looks.ld hx).andThen .now
  have s1 := self _ X'
  have i1 := init _ X'
  have o1 := own' _ X'
  have t2 : Looks (model prog w) h' (isInstance (.ref x) (.type "object")) true := t1.andThen (top _ X')
  have b1 : Looks (model prog w) h' (bindSpecial (.builtin "object.__init__") (.ref x)) (.builtin "object.__init__", [.ref x]) := Looks.of_pure (oi_bind _)
  unfold isInstance callSpecial? specialOf
  repeat (first | with_reducible refine wpAny_call ?_ | lk)
  refine codeAny_call_builtin oi_plain entry_oi (@check_slot (model prog w) _ _ _ "object.__init__" "object" "__init__" (.ref x) [b, c, dd, e] [] _ oi_kind oi_split t2 (oi_args5 _ _ _ _ _) ?_)
  unfold Builtin.«object.__init__»
  repeat lk
  exact z
end

section
variable {w : World} {p : Program} {loose : List Str} {mean : ExcName → Option Value} {mg mb : Str → Option Value} {A₀ A : Around} {base h₀ : Heap} {outer : List Env} {env : Env} {L : Addr}
  {m : Str → Option Value} {news : List (Addr × Obj)} {s : Shared} {Q E : Value → Shared → Prop}
theorem enterX {D U : Nat} {prog : Program} {name qual : Str} {params : Arguments} {body : List Stmt} {scope : Scope} {cl : List (Str × Addr)} {dV kV doc pm cdv ct oc : Value} {an od : Option Addr} {osl : Array (Option Value)} {f : Addr} {args : List Value} {R : Result → Shared → Prop} (binds : List (Str × Value))
    (C : Cx w p loose mean mg mb D U A₀ A base h₀ outer env L) (F : Fr h₀ L s.heap m) (N : News h₀ L s.heap news)
    (ho : (hd.heap_39 w.params).lookup f = some ⟨oc, od, .func (fnX name qual params body scope cl dV kV doc pm an cdv ct), osl⟩) (hcd : codeIn (hd.heap_39 w.params) cdv qual = true) (hroom : D < recursionLimit)
    (hbind : BindsTo s (fnX name qual params body scope cl dV kV doc pm an cdv ct) ⟨args, []⟩ binds) (hloc : ∀ y ∈ binds, scope.names.lookup y.1 = some .local)
    (h : ∀ g L' h₁, Fr h₀ L g m → Fr g L' h₁ (fun y => binds.reverse.lookup y) → News g L' h₁ news → Below (topA D U A.guards env outer) base (env :: outer) g → (hd.heap_39 w.params).In g → Top p loose mean mg mb g → (∀ p ∈ news, p.1 < L') →
      wpAny (model prog w) ((topA D U A.guards env outer).deeper (envX qual scope L' f cdv cl)) (execs body (envX qual scope L' f cdv cl))
        (fun fl s' => LeaveK h₀ L m g R (match fl with | .ret v => v | _ => .none) s')
        (fun e s' => wpAny (model prog w) ((topA D U A.guards env outer).deeper (envX qual scope L' f cdv cl)) (leaving (envX qual scope L' f cdv cl) e) (fun _ s'' => R (.error e) s'') (fun e' s'' => R (.error e') s'') s')
        { s with heap := h₁, toks := s.toks + binds.length })
    (hco : scope.isCoroutine = false) (hgen : scope.isGenerator = false) (hk : scope.kind = .function)
    (hcell : ∀ x ∈ scope.names, x.2 ≠ .cell) : codeAny (model prog w) A (.call (.ref f) ⟨args, []⟩) R s := by
  refine weakenC (A' := topA D U A.guards env outer) C.hh C.hA rfl C.hd C.hu ?_
  exact callX_plain (R := R) (cl := cl) C.B F N C.T.nolimit rfl C.hf C.hke ((C.X.keeps F.keep) _ _ ho) rfl (codeRec_of (C.X.keeps F.keep) hcd) hroom hbind hloc
    (fun g L' h₁ FG F' N' B' st lt => h g L' h₁ FG F' N' B' (C.X.keeps st) (C.T.keeps st) lt) hcell hco hgen hk


theorem sup_boot : bootBuiltins "super" = some (.type "super") := by decide +kernel
theorem sup_callN {prog : Program} (F : Fr h₀ L s.heap m) (X : (hd.heap_39 w.params).In h₀) (N : News h₀ L s.heap news)
    (h : ∀ q h', Fr h₀ L h' m → News h₀ L h' ((q, ({ cls := .type "super", dict := none, data := .fields #[.ref 303, .ref 303, .ref 303], slots := #[] } : Obj)) :: news) → (∀ p ∈ news, p.1 < q) → Q (.ref q) { s with heap := h' }) :
    wpAny (model prog w) A (call (.type "super") [.ref 303, .ref 303]) Q E s := by
  obtain ⟨hp, g, d, tk, os⟩ := s
  exact sup_call (X.keeps F.keep) fun h' e k => h hp.objs.size h' (F.keeps k) (news_pushed (s := ⟨hp, g, d, tk, os⟩) F N k e rfl) fun q hq => Heap.lt_size (N q hq).1
theorem sup_methodN {prog : Program} {so : Addr} {pl : Sem Bool} {Q : Value × List Value → Shared → Prop} (F : Fr h₀ L s.heap m) (X : (hd.heap_39 w.params).In h₀) (N : News h₀ L s.heap news)
    (hm : (so, ({ cls := .type "super", dict := none, data := .fields #[.ref 303, .ref 303, .ref 303], slots := #[] } : Obj)) ∈ news) (h : Q (.builtin "object.__new__", []) { s with toks := s.toks + 1 }) :
    wpAny (model prog w) A (getMethod (.ref so) "__new__" pl) Q E s := by
  obtain ⟨hp, g, d, tk, os⟩ := s
  exact sup_method0 (N.get hm) (X.keeps F.keep) (looks_opaque (X.keeps F.keep) (by k_is)) (mro303 (X.keeps F.keep)) (by kernel_rfl) (by decide +kernel) h
theorem mk303 {h : Heap} (X : (hd.heap_39 w.params).In h) : ∃ oc od cd sl, h.get? 303 = some ⟨oc, od, .cls cd, sl⟩ ∧ cd.abstract = false ∧ cd.hasDel = false ∧ cd.mro.isEmpty = false := by
  have e : (match (hd.heap_39 w.params).lookup 303 with | some ⟨_, _, .cls cd, _⟩ => !cd.abstract && !cd.hasDel && !cd.mro.isEmpty | _ => false) = true := by kernel_rfl
  split at e
  · rename_i q
    simp only [Bool.and_eq_true, Bool.not_eq_true'] at e
    exact ⟨_, _, _, _, X _ _ q, e.1.1, e.1.2, e.2⟩
  · cases e
theorem obj_newN {prog : Program} (F : Fr h₀ L s.heap m) (X : (hd.heap_39 w.params).In h₀) (N : News h₀ L s.heap news)
    (h : ∀ x dx h', Fr h₀ L h' m → News h₀ L h' ((x, instObj 303 dx) :: (dx, dictOf [] 0) :: news) → (∀ p ∈ news, p.1 < dx) → dx < x → Q (.ref x) { s with heap := h' }) :
    wpAny (model prog w) A (call (.builtin "object.__new__") [.ref 303]) Q E s := by
  obtain ⟨hp, g, d, tk, os⟩ := s
  have X' := X.keeps F.keep
  obtain ⟨oc, od, cd, sl, hC, e1, e2, _⟩ := mk303 X'
  refine wpAny_call (obj_new0 hC e1 e2 (base303 X') (made303 X') (looks_subIn X' (by k_is)) (looks_instIn X' (by k_is)) ?_)
  refine h _ hp.objs.size _ ((F.push _).push _) ?_ (fun p hp => Heap.lt_size (N p hp).1) (Nat.lt_succ_self _)
  have := (N.push F emptyDict).push (F.push _) (instObj 303 hp.objs.size)
  rwa [Heap.size_push] at this

local macro_rules | `(tactic| walk_at "eval Name") => `(tactic| ((with_reducible show wpAny _ _ (eval (PySem.Expr.Name (PySem.Str.ofString "super") _) _) _ _ _); k_dflt (refine' nameX_B ?F ?X ?T ?e sup_boot ?n ?_ ?a ?b; (case F => k_asm); (case X => k_asm); (case T => k_asm); (case a => rfl); (case b => rfl); (case e => k_is); (case n => decide); k_whole)))
local macro_rules | `(tactic| walk_at "call type:super") => `(tactic| (k_dflt (refine' sup_callN ?k1 ?k2 ?k3 ?_; (case k1 => k_asm); (case k2 => k_asm); (case k3 => k_asm); k_whole); intro q' h' F' N' l1; (try k_lt l1); (try k_sweep)))
local macro_rules | `(tactic| walk_at "getMethod ref") => `(tactic| (k_dflt (refine' sup_methodN ?k1 ?k2 ?k3 ?k4 ?_; (case k1 => k_asm); (case k2 => k_asm); (case k3 => k_asm); (case k4 => k_mem); k_whole)))
local macro_rules | `(tactic| walk_at "call builtin:object.__new__") => `(tactic| (k_dflt (refine' obj_newN ?k1 ?k2 ?k3 ?_; (case k1 => k_asm); (case k2 => k_asm); (case k3 => k_asm); k_whole); intro x' d' h' F' N' l1 l2; (have l3 := lt_all l1 l2); (try k_lt l1); (try k_lt l3); (try k_lt2 l2); (try k_sweep)))

set_option maxHeartbeats 1000000 in
theorem newbody {prog : Program} {c : Int} {tc : Tok} {r sh : Value} {l : Addr} {items : Array Value} {n : Nat} {Z : List (Addr × Obj)} {R : Result → Shared → Prop}
    (C : Cx w p loose mean mg mb 900 8000 A₀ A base h₀ outer env L) (F : Fr h₀ L s.heap m) (N : News h₀ L s.heap news) (hz : ∀ p ∈ Z, p ∈ news) (hl : Has w Z l (W.listOf items n)) (hn : items.size ≤ 100000)
    (ret : ∀ x dx h' tk tk', Fr h₀ L h' m → News h₀ L h' ((x, vecObj dx (.int c tc) r sh (.ref l) (.int (c - items.size) tk)) :: (dx, dictOf [] 0) :: news) → (∀ p ∈ news, p.1 < dx) → dx < x → R (.ok (.ret (.ref x))) { s with heap := h', toks := tk' }) :
    codeAny (model prog w) A (.call (.ref 78) ⟨[.ref 303, .int c tc, sh, r, .ref l], []⟩) R s := by
  refine enterX [("cls", .ref 303), ("count", .int c tc), ("shift", sh), ("root", r), ("tail", .ref l)] C F N (by k_is) (by k_is) (by decide) (BindsTo.of_eq rfl) (locs rfl) ?_ rfl rfl rfl (by decide)
  intro g L' h₁ FG F' N' B' X' T' lt
  try k_fold
  k_steps
  exact leaveK_ (by assumption) (by assumption) fun F9 N9 => ret _ _ _ _ _ F9 (news_drop2 N9) (tb_ltOf (by tbn_find)) (by assumption)

theorem new_spec {prog : Program} {c : Int} {tc : Tok} {r sh : Value} {l : Addr} {items : Array Value} {n : Nat} {Z : List (Addr × Obj)}
    (C : Cx w p loose mean mg mb 890 7900 A₀ A base h₀ outer env L) (F : Fr h₀ L s.heap m) (N : News h₀ L s.heap news) (hl : Has w Z l (W.listOf items n)) (hz : ∀ p ∈ Z, p ∈ news) (hn : items.size ≤ 100000)
    (ret : ∀ x dx h' tk tk', Fr h₀ L h' m → News h₀ L h' ((x, vecObj dx (.int c tc) r sh (.ref l) (.int (c - items.size) tk)) :: (dx, dictOf [] 0) :: news) → (∀ p ∈ news, p.1 < dx) → dx < x → Q (.ref x) { s with heap := h', toks := tk' }) :
    wpAny (model prog w) A (call (.ref 303) [.int c tc, sh, r, .ref l]) Q E s := by
  obtain ⟨hp, g, d, tk, os⟩ := s
  have X' := C.X.keeps F.keep
  obtain ⟨oc, od, cd, sl, hC, _, _, e4⟩ := mk303 X'
  refine wpAny_call (make_core5 (K := hd.heap_39 w.params) (f := 78) X' hC e4 (looks_specialIn X' (by k_is)) (looks_instIn X' (by k_is)) (own303 X') (fun _ X => looks_subIn X (by k_is)) (fun _ X => looks_subIn X (by k_is))
    (fun _ X => looks_findIn X (by k_is)) (fun _ X => own303 X)
    (fun A' Q' E' q => cls_sm (s := ⟨hp, g, d, tk, os⟩) F C.X (by k_is) (by k_is) (by k_is) (by k_is) rfl q) ?_)
  refine newbody (s := ⟨hp, g, d, tk + 1, os⟩) (A₀ := A₀) ⟨C.B, C.X, C.T, C.hh, C.hA, C.hf, C.hke, ?_, ?_⟩ F N hz hl hn fun x dx h' tk tk' F' N' l1 l2 => ?_
  · have := C.hd; rw [depth_under_make]; omega
  · have := C.hu; have e : (Code.builtin "type.__call__" ⟨[.ref 303, .int c tc, sh, r, .ref l], []⟩).cUnits ≤ 10 := Nat.le_of_ble_eq_true rfl; show A.units + _ ≤ _; omega
  · exact ⟨x, _, rfl, (N' _ (.head _)).1, rfl, C.X.keeps F'.keep, ret x dx h' tk tk' F' N' l1 l2⟩
end

/-- a node of depth d at v bears the leaves ls -/
def TrAt (w : World) (Z : List (Addr × Obj)) : Nat → Value → List (List Value) → Prop
  | 0, v, ls => ∃ (a : Addr) (n : Nat) (vs : List Value), v = .ref a ∧ ls = [vs] ∧ vs.length = 32 ∧ Has w Z a (W.listOf vs.toArray n)
  | d + 1, v, ls => ∃ (a : Addr) (n : Nat) (us : List Value), v = .ref a ∧ Has w Z a (W.listOf us.toArray n) ∧ ls.length ≤ 32 ^ (d + 1) ∧ us.length * 32 ^ d < ls.length + 32 ^ d ∧ ls.length ≤ us.length * 32 ^ d ∧
      ∀ k u, us[k]? = some u → TrAt w Z d u ((ls.drop (k * 32 ^ d)).take (32 ^ d))
theorem TrAt.mono {w : World} {Z Z' : List (Addr × Obj)} (hz : ∀ p ∈ Z, p ∈ Z') : ∀ {d : Nat} {v : Value} {ls : List (List Value)}, TrAt w Z d v ls → TrAt w Z' d v ls := by
  intro d
  induction d with
  | zero => intro v ls h; unfold TrAt at h ⊢; obtain ⟨a, n, vs, h1, h2, h3, h4⟩ := h; exact ⟨a, n, vs, h1, h2, h3, h4.mono hz⟩
  | succ d ih => intro v ls h; unfold TrAt at h ⊢; obtain ⟨a, n, us, h1, h2, h3, h4, h5, h6⟩ := h; exact ⟨a, n, us, h1, h2.mono hz, h3, h4, h5, fun k u e => ih (h6 k u e)⟩
/-- tl is younger than news -/
def Newer (news tl : List (Addr × Obj)) : Prop := ∀ q ∈ news, ∀ p ∈ tl, q.1 < p.1
theorem Newer.nil {news : List (Addr × Obj)} : Newer news [] := fun _ _ _ h => nomatch h
theorem Newer.cons {news tl : List (Addr × Obj)} {a : Addr} {o : Obj} (h : AllLt a (tl ++ news)) (k : Newer news tl) : Newer news ((a, o) :: tl) := fun q hq p hp => by
  rcases List.mem_cons.mp hp with rfl | hp
  · exact tb_ltOf h q (List.mem_append_right _ hq)
  · exact k q hq p hp
theorem Newer.one {news : List (Addr × Obj)} {a : Addr} {o : Obj} (h : AllLt a news) : Newer news [(a, o)] := Newer.cons h Newer.nil
theorem Newer.app {news tl tl' : List (Addr × Obj)} (k : Newer news tl) (k' : Newer (tl ++ news) tl') : Newer news (tl' ++ tl) := fun q hq p hp => by
  rcases List.mem_append.mp hp with hp | hp
  · exact k' q (List.mem_append_right _ hq) p hp
  · exact k q hq p hp
theorem inst_has {w : World} {h₀ h : Heap} {L x dx : Addr} {m : Str → Option Value} {news Z : List (Addr × Obj)} {c r sh t o : Value} (H1 : Has w Z x (vecObj dx c r sh t o)) (H2 : Has w Z dx (dictOf [] 0))
    (X : (hd.heap_39 w.params).In h₀) (F : Fr h₀ L h m) (N : News h₀ L h news) (hz : ∀ p ∈ Z, p ∈ news) : InstAt h x (vecObj dx c r sh t o) 303 (some (dictOf [] 0)) :=
  ⟨H1.get X F N hz, rfl, rfl, H2.get X F N hz⟩
local macro_rules | `(tactic| k_inst) => `(tactic| exact inst_has (by assumption) (by assumption) (by assumption) (by assumption) (by assumption) (by walk_at "my sub"))
local macro_rules | `(tactic| walk_at "call ref") => `(tactic| (with_reducible refine st_a ?_))

section
variable {w : World} {p : Program} {loose : List Str} {mean : ExcName → Option Value} {mg mb : Str → Option Value} {A₀ A : Around} {base h₀ : Heap} {outer : List Env} {env : Env} {L : Addr}
  {m : Str → Option Value} {news Z : List (Addr × Obj)} {s : Shared} {Q E : Value → Shared → Prop} {prog : Program}

set_option maxHeartbeats 1000000 in
theorem newpath_spec {x dx : Addr} {c r sh t o : Value} {node : Value} {vs : List Value} : ∀ (d D U : Nat) {A₀ A : Around} {base h₀ : Heap} {outer : List Env} {env : Env} {L : Addr} {m : Str → Option Value} {s : Shared} {Q E : Value → Shared → Prop} {tk : Tok},
    Cx w p loose mean mg mb D U A₀ A base h₀ outer env L → Fr h₀ L s.heap m → News h₀ L s.heap news → D + 2 * d ≤ 950 → U + 10 * d ≤ 9000 →
    Has w news x (vecObj dx c r sh t o) → Has w news dx (dictOf [] 0) → (∀ p ∈ Z, p ∈ news) → TrAt w Z 0 node [vs] →
    (∀ r tl h' tk', Fr h₀ L h' m → News h₀ L h' (tl ++ news) → Newer news tl → TrAt w (tl ++ Z) d r [vs] → Q r { s with heap := h', toks := tk' }) →
    wpAny (model prog w) A (call (.ref 235) [.ref x, .int (5 * d : Nat) tk, node]) Q E s := by
  intro d
  induction d with
  | zero =>
    intro D U A₀ A base h₀ outer env L m s Q E tk C F N hD hU hs hsd hz ht ret
    refine enter [("self", .ref x), ("level", .int (0 : Nat) tk), ("node", node)] C F N (by k_is) (by k_is) (by have := hD; show D < 1000; omega) (BindsTo.of_eq rfl) (locs rfl) ?_ rfl rfl rfl (by decide)
    intro g L' h₁ FG F' N' B' X' T' lt
    try k_fold
    k_steps
    refine leaveK_ F' N' fun F9 N9 => ret _ [] _ _ F9 N9 Newer.nil ht
  | succ d ih =>
    intro D U A₀ A base h₀ outer env L m s Q E tk C F N hD hU hs hsd hz ht ret
    refine enter [("self", .ref x), ("level", .int (5 * (d + 1) : Nat) tk), ("node", node)] C F N (by k_is) (by k_is) (by have := hD; show D < 1000; omega) (BindsTo.of_eq rfl) (locs rfl) ?_ rfl rfl rfl (by decide)
    intro g L' h₁ FG F' N' B' X' T' lt
    try k_fold
    k_steps
    rw [show ((5 * (d + 1) : Nat) : Int) - 5 = (5 * d : Nat) by omega]
    refine ih (D + 1) (U + 3) ⟨B', X', T', rfl, rfl, rfl, rfl, Nat.le_refl _, Nat.le_refl _⟩ (by assumption) (by assumption) (by omega) (by omega) hs hsd hz ht ?_
    intro r tl h' tk' F9 N9 lt9 ht9
    k_steps
    refine leaveK_ (by assumption) (by assumption) fun F8 N8 => ret _ (_ :: tl) _ _ F8 N8 (Newer.cons (by walk_at "my lt") lt9) ?_
    unfold TrAt
    refine ⟨_, _, [r], rfl, .inr (.head _), ?_, ?_, ?_, ?_⟩
    · exact Nat.one_le_pow _ _ (by decide)
    · simp
    · have := Nat.one_le_pow d 32 (by decide); simpa using this
    · intro k u e
      match k, e with
      | 0, e =>
        cases e
        have := Nat.pos_of_ne_zero (n := 32 ^ d) (by simp)
        have e2 : ([vs].drop (0 * 32 ^ d)).take (32 ^ d) = [vs] := by rw [Nat.zero_mul, List.drop_zero]; exact List.take_of_length_le this
        rw [e2]
        exact ht9.mono (sub_cons sub_refl)
      | k + 1, e => simp at e
end

theorem us_le {P u l : Nat} (hP : 0 < P) (h : u * P < l + P) (h3 : l ≤ 32 * P) : u ≤ 32 := by
  rcases Nat.lt_or_ge 32 u with hu | hu
  · have := Nat.mul_le_mul_right P (show 33 ≤ u from hu); omega
  · exact hu
theorem pow32_pos (d : Nat) : 0 < 32 ^ d := Nat.pow_pos (by decide)
theorem chunk_app {α : Type} {P k : Nat} {ls xs : List α} (h : (k + 1) * P ≤ ls.length) : ((ls ++ xs).drop (k * P)).take P = (ls.drop (k * P)).take P := by
  have e : (k + 1) * P = k * P + P := by rw [Nat.add_mul, Nat.one_mul]
  rw [List.drop_append_of_le_length (by omega), List.take_append_of_le_length (by rw [List.length_drop]; omega)]
theorem tr_app {w : World} {Z : List (Addr × Obj)} {d P : Nat} {us : List Value} {ls : List (List Value)} {vs : List Value} {u' : Value} (hP : 0 < P) (h6 : ∀ k u, us[k]? = some u → TrAt w Z d u ((ls.drop (k * P)).take P))
    (he : ls.length = us.length * P) (hu : TrAt w Z d u' [vs]) : ∀ k u, (us ++ [u'])[k]? = some u → TrAt w Z d u (((ls ++ [vs]).drop (k * P)).take P) := by
  intro k u e
  rcases Nat.lt_trichotomy k us.length with h | h | h
  · rw [List.getElem?_append_left h] at e
    have := Nat.mul_le_mul_right P (show k + 1 ≤ us.length from h)
    rw [chunk_app (by omega)]
    exact h6 k u e
  · subst h
    simp at e
    subst e
    rw [← he, List.drop_append_of_le_length (Nat.le_refl _), List.drop_length, List.nil_append, List.take_of_length_le (by show 1 ≤ P; omega)]
    exact hu
  · rw [List.getElem?_eq_none (by simp; omega)] at e; cases e
theorem tr_set {w : World} {Z : List (Addr × Obj)} {d P k : Nat} {us : List Value} {ls : List (List Value)} {vs : List Value} {u' : Value} (h6 : ∀ k u, us[k]? = some u → TrAt w Z d u ((ls.drop (k * P)).take P))
    (hk : us.length = k + 1) (h1 : k * P ≤ ls.length) (h2 : ls.length < k * P + P) (hu : TrAt w Z d u' ((ls.drop (k * P)).take P ++ [vs])) : ∀ j u, (us.set k u')[j]? = some u → TrAt w Z d u (((ls ++ [vs]).drop (j * P)).take P) := by
  intro j u e
  rcases Nat.lt_trichotomy j k with h | h | h
  · rw [List.getElem?_set_ne (by omega)] at e
    have := Nat.mul_le_mul_right P (show j + 1 ≤ k from h)
    rw [chunk_app (by omega)]
    exact h6 j u e
  · subst h
    rw [List.getElem?_set_self (by omega)] at e
    cases e
    have e1 : (ls.drop (j * P)).take P = ls.drop (j * P) := List.take_of_length_le (by rw [List.length_drop]; omega)
    rw [e1] at hu
    rw [List.drop_append_of_le_length h1, List.take_of_length_le (by simp; omega)]
    exact hu
  · rw [List.getElem?_eq_none (by simp; omega)] at e; cases e

theorem idx_nat {i d : Nat} : Builtin.bitAnd ((i : Int).fdiv (2 ^ ((5 * d : Nat) : Int).toNat)) 31 = ((i / 32 ^ d % 32 : Nat) : Int) := by
  rw [bitAnd_m5, Int.toNat_natCast]
  have e : ((2 : Int) ^ (5 * d)) = ((32 ^ d : Nat) : Int) := by rw [Int.natCast_pow, Int.pow_mul]; rfl
  rw [e, Int.fdiv_eq_ediv_of_nonneg _ (Int.natCast_nonneg _)]
  omega
theorem idx_push {cnt Qt d : Nat} (h : cnt = 32 * (Qt + 1)) : Builtin.bitAnd (((cnt : Int) - 1).fdiv (2 ^ ((5 * (d + 1) : Nat) : Int).toNat)) 31 = ((Qt / 32 ^ d % 32 : Nat) : Int) := by
  have e : ((cnt : Int) - 1) = ((32 * Qt + 31 : Nat) : Int) := by omega
  rw [e, idx_nat, Nat.pow_succ, Nat.mul_comm (32 ^ d) 32, ← Nat.div_div_eq_div_mul, show (32 * Qt + 31) / 32 = Qt by omega]
theorem and_as {prog : Program} {w : World} {A : Around} {E Q : Value → Shared → Prop} {s : Shared} {a b c : Int} {t u : Tok} (e : Builtin.bitAnd a b = c) (h : Q (.int c s.toks) { s with toks := s.toks + 1 }) : wpAny (model prog w) A (binaryOp .BitAnd (.int a t) (.int b u)) Q E s :=
  and_int (e ▸ h)
theorem item_nat {prog : Program} {w : World} {A : Around} {E : Value → Shared → Prop} {s : Shared} {value slice : PySem.Expr} {a : Addr} {l : List Value} {k : Nat} {u : Tok} {x : Value} {Q : Value → Shared → Prop} (hl : s.heap.IsList a l.toArray)
    (hx : l[k]? = some x) (hfit : k < 2 ^ 62) (h : Q x s)
    (hs : subscripted slice false (.ref a) (.int (k : Int) u) = operate [.ref a, .int (k : Int) u] (getItem (.ref a) (.int (k : Int) u)) := by with_unfolding_all rfl) (hg : ∀ r, letTemporaryGo value (.ref a) r = pure () := by intro _; with_unfolding_all rfl) :
    wpAny (model prog w) A (subscriptTail value slice (.ref a) (.int (k : Int) u)) Q E s :=
  item_listL hl (by omega) (by omega) (by simpa using hx) h hs hg
theorem set_nat {prog : Program} {w : World} {A : Around} {E : Value → Shared → Prop} {s : Shared} {h₀ : Heap} {L D : Addr} {m : Str → Option Value} {news news' : List (Addr × Obj)} {vs : List Value} {n k : Nat} {t : Tok} {v : Value} {Q : Unit → Shared → Prop}
    (F : Fr h₀ L s.heap m) (N : News h₀ L s.heap news) (U : Upd D (W.listOf vs.toArray n) (W.listOf (vs.set k v).toArray n) news news') (hk : k < vs.length) (hfit : k < 2 ^ 62)
    (h : ∀ h', Fr h₀ L h' m → News h₀ L h' news' → Q () { s with heap := h' }) : wpAny (model prog w) A (setItem (.ref D) (.int (k : Int) t) v) Q E s := by
  obtain ⟨pre, post, rfl, rfl, a, b⟩ := U.split
  have z := N (D, W.listOf vs.toArray n) (List.mem_append.mpr (.inr (.head _)))
  refine ki_setAt z.1 (by omega) (by omega) (by simpa using hk) (h _ (F.change (Heap.SameBut.update ..) z.2.1 z.2.2) (ki_turn _ N a b ?_ ?_))
  · show vs.toArray.setIfInBounds (k : Int).toNat v = (vs.set k v).toArray
    apply Array.toList_inj.mp
    simp
  · simp
theorem ne_newer {D : Addr} {o : Obj} {tl news : List (Addr × Obj)} (h : AllLt D news) (k : Newer ((D, o) :: news) tl) : ∀ p ∈ tl ++ news, p.1 ≠ D := fun p hp => by
  rcases List.mem_append.mp hp with hp | hp
  · exact Nat.ne_of_gt (k _ (.head _) p hp)
  · exact Nat.ne_of_lt (tb_ltOf h p hp)
theorem mem_mid {q : Addr × Obj} {tl news : List (Addr × Obj)} : ∀ p ∈ q :: (tl ++ news), p ∈ tl ++ q :: news := fun p hp => by
  rcases List.mem_cons.mp hp with rfl | hp
  · exact List.mem_append_right _ (.head _)
  · exact (List.mem_append.mp hp).elim (fun h => List.mem_append_left _ h) fun h => List.mem_append_right _ (.tail _ h)
theorem Newer.mid {D : Addr} {o o' : Obj} {tl news : List (Addr × Obj)} (h : AllLt D news) (k : Newer ((D, o) :: news) tl) : Newer news ((D, o') :: tl) := fun q hq p hp => by
  rcases List.mem_cons.mp hp with rfl | hp
  · exact tb_ltOf h q hq
  · exact k q (.tail _ hq) p hp
local macro_rules | `(tactic| walk_at "subscriptTail") => `(tactic| ((with_reducible show wpAny _ _ (subscriptTail _ _ (PySem.Value.ref _) (PySem.Value.int _ _)) _ _ _); k_dflt (refine' item_nat ?k1 ?k2 ?k3 ?_; (case k1 => is_list); (case k2 => assumption); (case k3 => omega); k_whole)))
local macro_rules | `(tactic| walk_at "binaryOp BitAnd int int") => `(tactic| (with_reducible refine and_as (by assumption) ?_))
section
variable {w : World} {p : Program} {loose : List Str} {mean : ExcName → Option Value} {mg mb : Str → Option Value} {Z : List (Addr × Obj)} {prog : Program}

set_option maxHeartbeats 2000000 in
theorem push_spec {x dx : Addr} {cnt : Nat} {tc : Tok} {r sh t o : Value} {tn : Value} {vs : List Value} : ∀ (d D U : Nat) {A₀ A : Around} {base h₀ : Heap} {outer : List Env} {env : Env} {L : Addr} {m : Str → Option Value} {s : Shared} {Q E : Value → Shared → Prop} {tk : Tok} {parent : Value} {ls : List (List Value)} {Qt : Nat} {news : List (Addr × Obj)},
    Cx w p loose mean mg mb D U A₀ A base h₀ outer env L → Fr h₀ L s.heap m → News h₀ L s.heap news → D + 3 * d ≤ 900 → U + 20 * d ≤ 8000 → d ≤ 5 →
    Has w news x (vecObj dx (.int cnt tc) r sh t o) → Has w news dx (dictOf [] 0) → (∀ p ∈ Z, p ∈ news) → TrAt w Z 0 tn [vs] → TrAt w Z (d + 1) parent ls → ls.length < 32 ^ (d + 1) → cnt = 32 * (Qt + 1) → Qt % 32 ^ (d + 1) = ls.length →
    (∀ r tl h' tk', Fr h₀ L h' m → News h₀ L h' (tl ++ news) → Newer news tl → TrAt w (tl ++ Z) (d + 1) r (ls ++ [vs]) → Q r { s with heap := h', toks := tk' }) →
    wpAny (model prog w) A (call (.ref 270) [.ref x, .int (5 * (d + 1) : Nat) tk, parent, tn]) Q E s := by
  intro d
  induction d with
  | zero =>
    intro D U A₀ A base h₀ outer env L m s Q E tk parent ls Qt news C F N hD hU hd hs hsd hz ht hp hlt hcnt hq ret
    refine enter [("self", .ref x), ("level", .int (5 * (0 + 1) : Nat) tk), ("parent", parent), ("tail_node", tn)] C F N (by k_is) (by k_is) (by have := hD; show D < 1000; omega) (BindsTo.of_eq rfl) (locs rfl) ?_ rfl rfl rfl (by decide)
    intro g L' h₁ FG F' N' B' X' T' lt
    try k_fold
    unfold TrAt at hp
    obtain ⟨a, n, us, rfl, h2, h3, h4, h5, h6⟩ := hp
    simp only [Nat.pow_zero, Nat.mul_one, Nat.zero_add, Nat.pow_one] at h3 h4 h5 h6 hlt hq
    k_steps
    refine leaveK_ (by assumption) (by assumption) fun F8 N8 => ret _ [_] _ _ F8 N8 (Newer.one (by walk_at "my lt")) ?_
    unfold TrAt
    refine ⟨_, _, us ++ [tn], rfl, .inr (by rw [← List.push_toArray]; exact .head _), ?_, ?_, ?_, ?_⟩
    · simp; omega
    · simp; omega
    · simp; omega
    · have h6' := tr_app (vs := vs) (P := 1) (by decide) (by simpa using h6) (by omega) ht
      intro k u e
      exact (by simpa using h6' k u e : TrAt w Z 0 u _).mono (sub_app sub_refl)
  | succ d ih =>
    intro D U A₀ A base h₀ outer env L m s Q E tk parent ls Qt news C F N hD hU hd hs hsd hz ht hp hlt hcnt hq ret
    refine enter [("self", .ref x), ("level", .int (5 * (d + 1 + 1) : Nat) tk), ("parent", parent), ("tail_node", tn)] C F N (by k_is) (by k_is) (by have := hD; show D < 1000; omega) (BindsTo.of_eq rfl) (locs rfl) ?_ rfl rfl rfl (by decide)
    intro g L' h₁ FG F' N' B' X' T' lt
    try k_fold
    unfold TrAt at hp
    obtain ⟨a, n, us, rfl, h2, h3, h4, h5, h6⟩ := hp
    have hP := pow32_pos (d + 1)
    have hus : us.length ≤ 32 := us_le hP h4 (by rw [Nat.pow_succ] at h3; omega)
    obtain ⟨k, hkd⟩ : ∃ k, k = ls.length / 32 ^ (d + 1) := ⟨_, rfl⟩
    have hk : Builtin.bitAnd (((cnt : Int) - 1).fdiv (2 ^ ((5 * (d + 1 + 1) : Nat) : Int).toNat)) 31 = (k : Int) := by
      rw [idx_push hcnt, hkd, ← hq, Nat.pow_succ (n := 32) (m := d + 1), Nat.mod_mul_right_div_self]
    have hk1 : k * 32 ^ (d + 1) ≤ ls.length := hkd ▸ Nat.div_mul_le_self _ _
    have hk2 : ls.length < k * 32 ^ (d + 1) + 32 ^ (d + 1) := by have := Nat.lt_div_mul_add (a := ls.length) hP; rw [← hkd] at this; omega
    clear hkd
    k_steps
    have hcase : us.length = k + 1 ∧ k * 32 ^ (d + 1) < ls.length ∨ us.length = k ∧ ls.length = k * 32 ^ (d + 1) := by
      rcases Nat.lt_trichotomy us.length (k + 1) with h | h | h
      · have := Nat.mul_le_mul_right (32 ^ (d + 1)) (show us.length ≤ k by omega)
        have e1 : us.length = k := by
          rcases Nat.lt_or_ge us.length k with h' | h'
          · have := Nat.mul_le_mul_right (32 ^ (d + 1)) (show us.length + 1 ≤ k by omega); rw [Nat.add_mul] at this; omega
          · omega
        exact .inr ⟨e1, by rw [e1] at h5; omega⟩
      · refine .inl ⟨h, ?_⟩
        rw [h, Nat.add_mul] at h4; omega
      · have := Nat.mul_le_mul_right (32 ^ (d + 1)) (show k + 2 ≤ us.length by omega); rw [Nat.add_mul] at this; omega
    rcases hcase with ⟨hu1, hu2⟩ | ⟨hu1, hu2⟩
    · show ite _ _ _
      refine ite_pos (by simp only [decide_eq_true_eq, List.size_toArray]; omega) ?_
      obtain ⟨u, hu⟩ : ∃ u, us[k]? = some u := ⟨us[k]'(by omega), by simp⟩
      k_steps
      rw [show ((5 * (d + 1 + 1) : Nat) : Int) - 5 = (5 * (d + 1) : Nat) by omega]
      have hlen : ((ls.drop (k * 32 ^ (d + 1))).take (32 ^ (d + 1))).length = ls.length - k * 32 ^ (d + 1) := by rw [List.length_take, List.length_drop]; omega
      refine ih (D + 1) (U + 3) ⟨B', X', T', rfl, rfl, rfl, rfl, Nat.le_refl _, Nat.le_refl _⟩ (by assumption) (by assumption) (by omega) (by omega) (by omega) (hs.mono (sub_cons sub_refl)) (hsd.mono (sub_cons sub_refl)) (sub_cons hz) ht (h6 k u hu) (by omega) hcnt ?_ ?_
      · rw [hlen, ← Nat.mod_mod_of_dvd Qt (show 32 ^ (d + 1) ∣ 32 ^ (d + 1 + 1) from ⟨32, Nat.pow_succ _ _⟩), hq]
        have e1 : ls.length = (ls.length - k * 32 ^ (d + 1)) + k * 32 ^ (d + 1) := by omega
        rw [e1, Nat.add_mul_mod_self_right, Nat.mod_eq_of_lt (by omega)]
        omega
      intro r tl h' tk' F9 N9 lt9 ht9
      k_steps
      refine set_nat (vs := us) F9 (news_sub N9 mem_mid) (Upd.head (ne_newer (by walk_at "my lt") lt9)) (by omega) (by omega) fun h'' F8 N8 => ?_
      k_steps
      refine leaveK_ (by assumption) (by assumption) fun F7 N7 => ret _ (_ :: tl) _ _ F7 N7 (Newer.mid (by walk_at "my lt") lt9) ?_
      unfold TrAt
      refine ⟨_, _, us.set k r, rfl, .inr (.head _), ?_, ?_, ?_, ?_⟩
      · rw [List.length_append]; exact hlt
      · rw [List.length_set, List.length_append]; omega
      · rw [List.length_set, List.length_append, hu1, Nat.add_mul]; simp; omega
      · refine tr_set (fun k u e => (h6 k u e).mono (sub_cons (sub_app sub_refl))) hu1 hk1 hk2 (ht9.mono (sub_cons sub_refl))
    · show ite _ _ _
      refine ite_neg (by simp only [decide_eq_true_eq, List.size_toArray]; omega) ?_
      k_steps
      rw [show ((5 * (d + 1 + 1) : Nat) : Int) - 5 = (5 * (d + 1) : Nat) by omega]
      refine newpath_spec (d + 1) (D + 1) (U + 3) ⟨B', X', T', rfl, rfl, rfl, rfl, Nat.le_refl _, Nat.le_refl _⟩ (by assumption) (by assumption) (by omega) (by omega) (hs.mono (sub_cons sub_refl)) (hsd.mono (sub_cons sub_refl)) (sub_cons hz) ht ?_
      intro r tl h' tk' F9 N9 lt9 ht9
      k_steps
      refine append_K F9 (news_sub N9 mem_mid) (Upd.head (ne_newer (by walk_at "my lt") lt9)) (fun h'' F8 N8 => ?_) (by simp only [List.size_toArray, PySem.sizeLine_eq]; omega)
      k_steps
      refine leaveK_ (by assumption) (by assumption) fun F7 N7 => ret _ (_ :: tl) _ _ F7 N7 (Newer.mid (by walk_at "my lt") lt9) ?_
      unfold TrAt
      refine ⟨_, _, us ++ [r], rfl, .inr (by rw [← List.push_toArray]; exact .head _), ?_, ?_, ?_, ?_⟩
      · rw [List.length_append]; exact hlt
      · rw [List.length_append, List.length_append, Nat.add_mul, ← hu1] at *; simp at *; omega
      · rw [List.length_append, List.length_append, Nat.add_mul, hu1]; simp; omega
      · exact tr_app hP (fun k u e => (h6 k u e).mono (sub_cons (sub_app sub_refl))) (by rw [hu1]; exact hu2) (ht9.mono (sub_cons sub_refl))
end

theorem root_cond {cnt e q : Nat} (hc : cnt = 32 * (q + 1)) : (1 * 2 ^ ((5 * (e + 1) : Nat) : Int).toNat < ((cnt : Int)).fdiv (2 ^ Int.toNat 5)) ↔ 32 ^ (e + 1) < q + 1 := by
  have e1 : ((2 : Int) ^ (5 * (e + 1))) = ((32 ^ (e + 1) : Nat) : Int) := by rw [Int.natCast_pow, Int.pow_mul]; rfl
  rw [Int.toNat_natCast, e1, show (2 : Int) ^ Int.toNat 5 = ((32 : Nat) : Int) by decide, Int.fdiv_eq_ediv_of_nonneg _ (Int.natCast_nonneg _)]
  omega
section
variable {w : World} {p : Program} {loose : List Str} {mean : ExcName → Option Value} {mg mb : Str → Option Value} {A₀ A : Around} {base h₀ : Heap} {outer : List Env} {env : Env} {L : Addr}
  {m : Str → Option Value} {news Z : List (Addr × Obj)} {s : Shared} {Q E : Value → Shared → Prop} {prog : Program}

set_option maxHeartbeats 2000000 in
theorem root_spec {x dx t : Addr} {cnt e n : Nat} {tc ts : Tok} {root o : Value} {ls : List (List Value)} {vs : List Value}
    (C : Cx w p loose mean mg mb 870 7800 A₀ A base h₀ outer env L) (F : Fr h₀ L s.heap m) (N : News h₀ L s.heap news) (hs : Has w news x (vecObj dx (.int cnt tc) root (.int (5 * (e + 1) : Nat) ts) (.ref t) o)) (hsd : Has w news dx (dictOf [] 0))
    (hz : ∀ p ∈ Z, p ∈ news) (hr : TrAt w Z (e + 1) root ls) (ht : Has w Z t (W.listOf vs.toArray n)) (hvs : vs.length = 32) (hc : cnt = 32 * (ls.length + 1)) (he : e ≤ 2) (hls : ls.length ≤ 10000)
    (ret : ∀ a root' e' tk tl h' tk', Fr h₀ L h' m → News h₀ L h' ((a, ({ cls := .type "tuple", data := .seq #[root', .int (5 * (e' + 1) : Nat) tk] } : Obj)) :: (tl ++ news)) → Newer news tl → (∀ p ∈ tl ++ news, p.1 < a) → e' ≤ 2 → TrAt w (tl ++ Z) (e' + 1) root' (ls ++ [vs]) → Q (.ref a) { s with heap := h', toks := tk' }) :
    wpAny (model prog w) A (call (.ref 221) [.ref x]) Q E s := by
  refine enter [("self", .ref x)] C F N (by k_is) (by k_is) (by decide) (BindsTo.of_eq rfl) (locs rfl) ?_ rfl rfl rfl (by decide)
  intro g L' h₁ FG F' N' B' X' T' lt
  try k_fold
  k_steps
  have ht0 : TrAt w Z 0 (.ref t) [vs] := by unfold TrAt; exact ⟨t, n, vs, rfl, rfl, hvs, ht⟩
  have hr' := hr
  unfold TrAt at hr'
  obtain ⟨ar, nr, us, rfl, r2, r3, r4, r5, r6⟩ := hr'
  rcases Nat.lt_or_ge (32 ^ (e + 1)) (ls.length + 1) with hcase | hcase
  · show ite _ _ _
    refine ite_pos (by rw [decide_eq_true_eq]; exact (root_cond hc).mpr hcase) ?_
    k_steps
    refine newpath_spec (e + 1) 871 7803 ⟨B', X', T', rfl, rfl, rfl, rfl, Nat.le_refl _, Nat.le_refl _⟩ (by assumption) (by assumption) (by omega) (by omega) hs hsd hz ht0 ?_
    intro r tl h' tk' F9 N9 lt9 ht9
    k_steps
    show LeaveK h₀ L m g (back Q E) _ _
    refine leaveK_ (by assumption) (by assumption) fun F8 N8 => ?_
    rw [show ((5 * (e + 1) : Nat) : Int) + 5 = ((5 * (e + 1 + 1) : Nat) : Int) by omega] at N8
    have hl : ls.length = 32 ^ (e + 1) := by omega
    have he2 : e + 1 ≤ 2 := by
      rcases Nat.lt_or_ge e 2 with h | h
      · omega
      · obtain rfl : e = 2 := by omega
        omega
    refine ret _ _ (e + 1) _ (_ :: tl) _ _ F8 N8 (Newer.cons (by walk_at "my lt") lt9) ?_ he2 ?_
    · refine tb_ltOf ?_
      walk_at "my lt"
    · unfold TrAt
      refine ⟨_, _, [.ref ar] ++ [r], rfl, .inr (.head _), ?_, ?_, ?_, ?_⟩
      · rw [List.length_append, hl, Nat.pow_succ (m := e + 1)]; simp; have := pow32_pos (e + 1); omega
      · simp [hl]; have := pow32_pos (e + 1); omega
      · simp [hl]; have := pow32_pos (e + 1); omega
      · refine tr_app (pow32_pos _) ?_ (by simp [hl]) (ht9.mono (sub_cons sub_refl))
        intro k u eu
        match k, eu with
        | 0, eu =>
          cases eu
          rw [Nat.zero_mul, List.drop_zero, List.take_of_length_le (by omega)]
          exact hr.mono (sub_cons (sub_app sub_refl))
        | k + 1, eu => simp at eu
  · show ite _ _ _
    refine ite_neg (by rw [decide_eq_true_eq, root_cond hc]; omega) ?_
    k_steps
    refine push_spec (Qt := ls.length) e 871 7803 ⟨B', X', T', rfl, rfl, rfl, rfl, Nat.le_refl _, Nat.le_refl _⟩ (by assumption) (by assumption) (by omega) (by omega) (by omega) hs hsd hz ht0 hr (by omega) hc (Nat.mod_eq_of_lt (by omega)) ?_
    intro r tl h' tk' F9 N9 lt9 ht9
    k_steps
    show LeaveK h₀ L m g (back Q E) _ _
    refine leaveK_ (by assumption) (by assumption) fun F8 N8 => ?_
    refine ret _ _ e _ tl _ _ F8 N8 lt9 ?_ he ht9
    refine tb_ltOf ?_
    walk_at "my lt"
end

/-- a vector at x: its tree bears ls, its tail vs -/
structure PVat (w : World) (Z : List (Addr × Obj)) (x dx t : Addr) (e n : Nat) (tc ts to : Tok) (root : Value) (ls : List (List Value)) (vs : List Value) : Prop where
  obj : Has w Z x (vecObj dx (.int (32 * ls.length + vs.length : Nat) tc) root (.int (5 * (e + 1) : Nat) ts) (.ref t) (.int (32 * ls.length : Nat) to))
  dict : Has w Z dx (dictOf [] 0)
  tree : TrAt w Z (e + 1) root ls
  tail : Has w Z t (W.listOf vs.toArray n)
  len : vs.length ≤ 32
  dep : e ≤ 2
theorem PVat.mono {w : World} {Z Z' : List (Addr × Obj)} {x dx t : Addr} {e n : Nat} {tc ts to : Tok} {root : Value} {ls : List (List Value)} {vs : List Value} (P : PVat w Z x dx t e n tc ts to root ls vs) (hz : ∀ p ∈ Z, p ∈ Z') : PVat w Z' x dx t e n tc ts to root ls vs :=
  ⟨P.obj.mono hz, P.dict.mono hz, P.tree.mono hz, P.tail.mono hz, P.len, P.dep⟩
theorem news_drop3 {h₀ h : Heap} {L : Addr} {a b c d : Addr × Obj} {l : List (Addr × Obj)} (N : News h₀ L h (a :: b :: c :: d :: l)) : News h₀ L h (a :: b :: c :: l) := fun p hp => by
  rcases List.mem_cons.mp hp with rfl | hp
  · exact N _ (.head _)
  · rcases List.mem_cons.mp hp with rfl | hp
    · exact N _ (.tail _ (.head _))
    · rcases List.mem_cons.mp hp with rfl | hp
      · exact N _ (.tail _ (.tail _ (.head _)))
      · exact N _ (.tail _ (.tail _ (.tail _ (.tail _ hp))))
/-- v is a vector of the values xs -/
def PV (w : World) (Z : List (Addr × Obj)) (v : Value) (xs : List Value) : Prop := ∃ x dx t e n tc ts to root ls vs, v = .ref x ∧ PVat w Z x dx t e n tc ts to root ls vs ∧ xs = ls.flatten ++ vs
theorem PV.mono {w : World} {Z Z' : List (Addr × Obj)} {v : Value} {xs : List Value} (P : PV w Z v xs) (hz : ∀ p ∈ Z, p ∈ Z') : PV w Z' v xs :=
  let ⟨x, dx, t, e, n, tc, ts, to, root, ls, vs, h1, h2, h3⟩ := P; ⟨x, dx, t, e, n, tc, ts, to, root, ls, vs, h1, h2.mono hz, h3⟩

theorem TrAt.ref {w : World} {Z : List (Addr × Obj)} {d : Nat} {v : Value} {ls : List (List Value)} (h : TrAt w Z d v ls) : ∃ a, v = .ref a := by
  cases d with
  | zero => unfold TrAt at h; obtain ⟨a, n, vs, h1, _⟩ := h; exact ⟨a, h1⟩
  | succ d => unfold TrAt at h; obtain ⟨a, n, us, h1, _⟩ := h; exact ⟨a, h1⟩
section
variable {w : World} {p : Program} {loose : List Str} {mean : ExcName → Option Value} {mg mb : Str → Option Value} {A₀ A : Around} {base h₀ : Heap} {outer : List Env} {env : Env} {L : Addr}
  {m : Str → Option Value} {news Z : List (Addr × Obj)} {s : Shared} {Q E : Value → Shared → Prop} {prog : Program}

set_option maxHeartbeats 2000000 in
theorem append_spec {x dx t : Addr} {e n : Nat} {tc ts to : Tok} {root : Value} {ls : List (List Value)} {vs : List Value} {val : Value}
    (C : Cx w p loose mean mg mb 860 7700 A₀ A base h₀ outer env L) (F : Fr h₀ L s.heap m) (N : News h₀ L s.heap news) (hz : ∀ p ∈ Z, p ∈ news) (P : PVat w Z x dx t e n tc ts to root ls vs) (hls : ls.length ≤ 10000)
    (ret : ∀ x dx t' e' n' tc ts to root' ls' vs' tl h' tk', Fr h₀ L h' m → News h₀ L h' ((x, vecObj dx (.int (32 * ls'.length + vs'.length : Nat) tc) root' (.int (5 * (e' + 1) : Nat) ts) (.ref t') (.int (32 * ls'.length : Nat) to)) :: (dx, dictOf [] 0) :: (t', W.listOf vs'.toArray n') :: (tl ++ news)) →
      Newer news tl → AllLt t' (tl ++ news) → @LT.lt Nat _ t' dx → @LT.lt Nat _ dx x → TrAt w (tl ++ Z) (e' + 1) root' ls' → vs'.length ≤ 32 → 1 ≤ vs'.length → e' ≤ 2 → ls'.flatten ++ vs' = ls.flatten ++ vs ++ [val] → Q (.ref x) { s with heap := h', toks := tk' }) :
    wpAny (model prog w) A (call (.ref 228) [.ref x, val]) Q E s := by
  refine enter [("self", .ref x), ("val", val)] C F N (by k_is) (by k_is) (by decide) (BindsTo.of_eq rfl) (locs rfl) ?_ rfl rfl rfl (by decide)
  intro g L' h₁ FG F' N' B' X' T' lt
  try k_fold
  obtain ⟨po, pd, pt, pl, plen, pe⟩ := P
  obtain ⟨ar, rfl⟩ := pt.ref
  k_steps
  rcases Nat.lt_or_ge vs.length 32 with hv | hv
  · show ite _ _ _
    refine ite_pos (by simp only [decide_eq_true_eq, List.size_toArray]; omega) ?_
    k_steps
    refine new_spec (Z := _) ⟨B', X', T', rfl, rfl, rfl, rfl, Nat.le_of_ble_eq_true rfl, Nat.le_of_ble_eq_true rfl⟩ (by assumption) (by assumption) (.inr (.head _)) sub_refl (by simp; omega) ?_
    intro x' dx' h' tk tk' F9 N9 l9 l8
    k_steps
    show LeaveK h₀ L m g (back Q E) _ _
    refine leaveK_ F9 N9 fun F8 N8 => ?_
    have e1 : (((32 * ls.length + vs.length : Nat) : Int) + 1) = ((32 * ls.length + (vs ++ [val]).length : Nat) : Int) := by simp; omega
    have e2 : ((32 * ls.length + (vs ++ [val]).length : Nat) : Int) - (((vs ++ [val]).toArray.size : Nat) : Int) = ((32 * ls.length : Nat) : Int) := by simp
    rw [List.push_toArray, e1, e2] at N8
    exact ret x' dx' _ e _ _ _ _ (.ref ar) ls (vs ++ [val]) [] _ _ F8 N8 Newer.nil (by walk_at "my lt") (l9 _ (.head _)) l8 pt (by simp; omega) (by simp) pe (by simp)
  · show ite _ _ _
    refine ite_neg (by simp only [decide_eq_true_eq, List.size_toArray]; omega) ?_
    k_steps
    refine root_spec ⟨B', X', T', rfl, rfl, rfl, rfl, Nat.le_of_ble_eq_true rfl, Nat.le_of_ble_eq_true rfl⟩ (by assumption) (by assumption) (po.mono hz) (pd.mono hz) hz pt pl (by omega) (by omega) pe hls ?_
    intro a root' e' tk tl h' tk' F9 N9 lt9 la9 he9 ht9
    k_steps
    refine new_spec (Z := _) ⟨B', X', T', rfl, rfl, rfl, rfl, Nat.le_of_ble_eq_true rfl, Nat.le_of_ble_eq_true rfl⟩ (by assumption) (by assumption) (.inr (.head _)) sub_refl (by simp) ?_
    intro x' dx' h' tk tk' F7 N7 l9 l8
    k_steps
    show LeaveK h₀ L m g (back Q E) _ _
    refine leaveK_ F7 N7 fun F8 N8 => ?_
    have e1 : (((32 * ls.length + vs.length : Nat) : Int) + 1) = ((32 * (ls ++ [vs]).length + [val].length : Nat) : Int) := by simp; omega
    have e2 : ((32 * (ls ++ [vs]).length + [val].length : Nat) : Int) - ((#[val].size : Nat) : Int) = ((32 * (ls ++ [vs]).length : Nat) : Int) := by simp
    rw [e1, e2] at N8
    exact ret x' dx' _ e' _ _ _ _ root' (ls ++ [vs]) [val] tl _ _ F8 (news_drop3 N8) lt9 (by walk_at "my lt") (l9 _ (.head _)) l8 ht9 (by simp) (by simp) he9 (by simp)
end

theorem TrAt.leaf {w : World} {Z : List (Addr × Obj)} : ∀ {d : Nat} {v : Value} {ls : List (List Value)}, TrAt w Z d v ls → ∀ l ∈ ls, l.length = 32 := by
  intro d
  induction d with
  | zero => intro v ls h l hl; unfold TrAt at h; obtain ⟨a, n, vs, h1, rfl, h3, h4⟩ := h; rw [List.mem_singleton.mp hl]; exact h3
  | succ d ih =>
    intro v ls h l hl
    unfold TrAt at h
    obtain ⟨a, n, us, h1, h2, h3, h4, h5, h6⟩ := h
    obtain ⟨j, hj, e⟩ := List.mem_iff_getElem.mp hl
    have hP := pow32_pos d
    have hk : j / 32 ^ d < us.length := (Nat.div_lt_iff_lt_mul hP).mpr (by omega)
    refine ih (h6 (j / 32 ^ d) us[j / 32 ^ d] (by simp [hk])) l ?_
    have hm := Nat.mod_lt j hP
    have hd := Nat.div_add_mod j (32 ^ d)
    rw [Nat.mul_comm] at hd
    refine List.mem_of_getElem? (i := j % 32 ^ d) ?_
    rw [List.getElem?_take_of_lt hm, List.getElem?_drop, hd, List.getElem?_eq_getElem hj, e]
theorem flat_len {ls : List (List Value)} (h : ∀ l ∈ ls, l.length = 32) : ls.flatten.length = 32 * ls.length := by
  induction ls with
  | nil => rfl
  | cons a r ih => rw [List.flatten_cons, List.length_append, h a (.head _), ih fun l hl => h l (.tail _ hl), List.length_cons]; omega
theorem notTooLong {k : Nat} (h : k ≤ 1000000) : Builtin.List.listTooLong k = false := by
  unfold Builtin.List.listTooLong
  rw [PySem.sizeLine_eq]
  simp
  omega
section
variable {prog : Program} {w : World} {A : Around} {E : Value → Shared → Prop} {s : Shared} {h₀ : Heap} {L D b : Addr} {m : Str → Option Value} {rest : List (Addr × Obj)} {vs us : List Value} {n n2 : Nat}
theorem ext_list {Q : Value → Shared → Prop} (F : Fr h₀ L s.heap m) (N : News h₀ L s.heap ((D, W.listOf vs.toArray n) :: rest)) (hne : ∀ p ∈ rest, p.1 ≠ D) (hb : s.heap.get? b = some (W.listOf us.toArray n2)) (hz : vs.length + us.length ≤ 1000000)
    (h : ∀ h' n', Fr h₀ L h' m → News h₀ L h' ((D, W.listOf (vs ++ us).toArray n') :: rest) → Q .none { s with heap := h' }) : wpAny (model prog w) A (call (.builtin "list.extend") [.ref D, .ref b]) Q E s := by
  have z := N (D, W.listOf vs.toArray n) (.head _)
  have hsl := PySem.sizeLine_eq
  refine call_meets PySem.F.slot_list_extend ⟨_, z.1, rfl⟩ PySem.F.entry_list_extend (PySem.F.args_list_extend_2 _ _) (PySem.AutoSeq1.list_extend_list_list_0 D vs.toArray n b us.toArray n2 (by rw [notTooLong (by simpa using hz)]; simp) (by simp; omega) (by simp; omega)) ⟨z.1, hb, ?_⟩
  cases us with
  | nil => exact h _ n (F.change (Heap.SameBut.update ..) z.2.1 z.2.2) (kl_turn0 (pre := []) (fun x => x ++ #[]) N (fun _ h => nomatch h) hne (by simp) (by simp))
  | cons u us => exact h _ (n + 1) (F.change (Heap.SameBut.update ..) z.2.1 z.2.2) (kl_turn (pre := []) (fun x => x ++ (u :: us).toArray) N (fun _ h => nomatch h) hne (by simp) (by simp))
end
section
variable {prog : Program} {w : World} {A : Around} {E : Value → Shared → Prop} {s : Shared} {env : Env} {h₀ : Heap} {x : Str} {body : List Stmt} {Q : Flow → Shared → Prop}
def TurnEnd (h₀ : Heap) (L : Addr) (J : (Str → Option Value) → List (Addr × Obj) → Prop) (own : List (Addr × Obj)) (s s₂ : Shared) : Prop :=
  ∃ h' tk' m' news', s₂ = { s with heap := h', toks := tk' } ∧ Fr h₀ L h' m' ∧ News h₀ L h' (own ++ news') ∧ J m' news'
def TurnPost (h₀ : Heap) (L : Addr) (J : (Str → Option Value) → List (Addr × Obj) → Prop) (own : List (Addr × Obj)) (s : Shared) (Q : Flow → Shared → Prop) (f : Flow) (s₂ : Shared) : Prop := match f with
  | .ret v => Q (.ret v) s₂
  | .brk => Q .next s₂
  | _ => TurnEnd h₀ L J own s s₂
/-- a for over a list that stands still; the ledger's addresses stay the same -/
theorem iter_list {l : Addr} {us : List Value} {nl : Nat} {Z news₀ : List (Addr × Obj)} {m₀ : Str → Option Value} (J : Nat → (Str → Option Value) → List (Addr × Obj) → Prop)
    (hh : A.handled = none) (X : (hd.heap_39 w.params).In h₀) (hl : Has w Z l (W.listOf us.toArray nl)) (hz : ∀ p ∈ Z, p ∈ news₀) (F : Fr h₀ env.locals s.heap m₀) (N : News h₀ env.locals s.heap news₀) (h0 : J 0 m₀ news₀)
    (hA : ∀ i m₁ news₁, J i m₁ news₁ → ∀ p ∈ news₁, ∃ q ∈ news₀, p.1 = q.1)
    (turn : ∀ i v m₁ news₁ h tk own, us[i]? = some v → J i m₁ news₁ → (∀ p ∈ own, p.1 = l ∨ ∀ q ∈ news₀, q.1 ≠ p.1) → Fr h₀ env.locals h (fun y => if y = x then some v else m₁ y) → News h₀ env.locals h (own ++ news₁) →
      wpAny (model prog w) A (execs body env) (TurnPost h₀ env.locals (J (i + 1)) own s Q) E { s with heap := h, toks := tk })
    (done : ∀ m₁ news₁ h tk, J us.length m₁ news₁ → Fr h₀ env.locals h m₁ → News h₀ env.locals h news₁ → Q .next { s with heap := h, toks := tk }) :
    wpAny (model prog w) A (pyIter (.ref l)) (fun it s₂ => LoopAtV prog w A h₀ env x body Q E it s₂) E s := by
  have hls : s.heap.IsList l us.toArray := hl.isList X F N hz
  obtain ⟨ol, hol, _⟩ := id hls
  have hlI : l ≠ s.heap.objs.size := Nat.ne_of_lt (Heap.lt_size hol)
  have hlL : env.locals ≠ l := by
    intro q
    rcases hl with e | e
    · exact absurd (Nat.lt_of_lt_of_le (Heap.lt_size (X _ _ e)) F.above) (q ▸ Nat.lt_irrefl _)
    · exact (N _ (hz _ e)).2.1 q.symm
  refine wpAny_pyIter_list hls ?_
  have W := Walks.list (prog := prog) (w := w) hh s.heap.objs.size l hlI us.toArray
  have off : ∀ i m₁ news₁, J i m₁ news₁ → ∀ p ∈ news₁, p.1 ∉ [s.heap.objs.size] := fun i m₁ news₁ hj p hp hI => by
    obtain ⟨q, hq, e⟩ := hA i m₁ news₁ hj p hp
    exact absurd (Heap.lt_size (N q hq).1) (e ▸ (List.mem_singleton.mp hI) ▸ Nat.lt_irrefl _)
  refine ⟨_, _, _, _, _, _, m₀, news₀, J, rfl, W, ?_, ?_, off 0 _ _ h0, ⟨⟨_, Heap.get?_push_size _ rfl, rfl, rfl⟩, hls.at fun o e => Heap.get?_push_of_some _ e⟩, F.push _, (fun p hp => ⟨Heap.get?_push_of_some _ (N p hp).1, (N p hp).2⟩), h0, ?_, ?_⟩
  · intro hm
    rcases List.mem_cons.mp hm with e | hm
    · exact absurd F.ns.lt (e ▸ Nat.lt_irrefl _)
    · exact hlL (List.mem_singleton.mp hm)
  · intro b hb
    rw [List.mem_singleton.mp hb]
    exact next_is_new F
  · rintro i v m₁ news₁ s₁ own ⟨hh', tk', rfl⟩ hin hP hJ hoff hfp _ _ _ F₁ N₁
    refine wpAny_mono (turn i v m₁ news₁ hh' tk' own (by simpa using hP) hJ (fun p hp => ?_) F₁ N₁) (fun f s₂ p => ?_) fun _ _ e => e
    · rcases List.mem_cons.mp (hfp p hp) with e | e
      · exact .inr fun q hq q' => absurd (Heap.lt_size (N q hq).1) (q' ▸ e ▸ Nat.lt_irrefl _)
      · exact .inl (List.mem_singleton.mp e)
    · cases f with
      | ret v => exact .ret p
      | brk => exact .brk p
      | next => obtain ⟨h', tk, m', news', rfl, F', N', hj⟩ := p; exact .next ⟨rfl, h', tk, m', news', rfl, F', N', off _ _ _ hj, hj⟩
      | cont => obtain ⟨h', tk, m', news', rfl, F', N', hj⟩ := p; exact .cont ⟨rfl, h', tk, m', news', rfl, F', N', off _ _ _ hj, hj⟩
  · rintro h' tk m' news' F' N' _ hJ
    exact done m' news' h' tk (by simpa using hJ) F' N'
/-- the same, the body storing no name -/
theorem iter_list1 {l : Addr} {us : List Value} {nl : Nat} {Z news₀ : List (Addr × Obj)} {m₀ : Str → Option Value} (J : Nat → List (Addr × Obj) → Prop)
    (hh : A.handled = none) (X : (hd.heap_39 w.params).In h₀) (hl : Has w Z l (W.listOf us.toArray nl)) (hz : ∀ p ∈ Z, p ∈ news₀) (F : Fr h₀ env.locals s.heap m₀) (N : News h₀ env.locals s.heap news₀) (h0 : J 0 news₀)
    (hA : ∀ i news₁, J i news₁ → ∀ p ∈ news₁, ∃ q ∈ news₀, p.1 = q.1)
    (turn : ∀ i v news₁ h tk own, us[i]? = some v → J i news₁ → (∀ p ∈ own, p.1 = l ∨ ∀ q ∈ news₀, q.1 ≠ p.1) → Fr h₀ env.locals h (fun y => if y = x then some v else m₀ y) → News h₀ env.locals h (own ++ news₁) →
      wpAny (model prog w) A (execs body env) (TurnPost h₀ env.locals (fun m' news' => m' = (fun y => if y = x then some v else m₀ y) ∧ J (i + 1) news') own s Q) E { s with heap := h, toks := tk })
    (done : ∀ u news₁ h tk, J us.length news₁ → Fr h₀ env.locals h (fun y => if y = x then u else m₀ y) → News h₀ env.locals h news₁ → Q .next { s with heap := h, toks := tk }) :
    wpAny (model prog w) A (pyIter (.ref l)) (fun it s₂ => LoopAtV prog w A h₀ env x body Q E it s₂) E s := by
  have norm : ∀ (m₁ : Str → Option Value) (u : Option Value), (∀ y, y ≠ x → m₁ y = m₀ y) → (fun y => if y = x then u else m₁ y) = fun y => if y = x then u else m₀ y := fun m₁ u h => by
    funext y
    by_cases e : y = x
    · simp [e]
    · simp [e, h y e]
  refine iter_list (J := fun i m₁ news₁ => J i news₁ ∧ ∀ y, y ≠ x → m₁ y = m₀ y) hh X hl hz F N ⟨h0, fun _ _ => rfl⟩ (fun i m₁ news₁ hj => hA i news₁ hj.1) (fun i v m₁ news₁ h tk own hv hj ho F₁ N₁ => ?_) (fun m₁ news₁ h tk hj F₁ N₁ => ?_)
  · rw [norm m₁ _ hj.2] at F₁
    refine wpAny_mono (turn i v news₁ h tk own hv hj.1 ho F₁ N₁) (fun f s₂ p => ?_) fun _ _ e => e
    cases f with
    | ret v => exact p
    | brk => exact p
    | next => obtain ⟨h', tk', m', news', e, F', N', rfl, hj'⟩ := p; exact ⟨h', tk', _, news', e, F', N', hj', fun y hy => by simp [hy]⟩
    | cont => obtain ⟨h', tk', m', news', e, F', N', rfl, hj'⟩ := p; exact ⟨h', tk', _, news', e, F', N', hj', fun y hy => by simp [hy]⟩
  · have e : m₁ = fun y => if y = x then m₁ x else m₀ y := by
      rw [← norm m₁ _ hj.2]; funext y; by_cases h : y = x <;> simp [h]
    rw [e] at F₁
    exact done _ news₁ h tk hj.1 F₁ N₁
end

theorem isub_as {prog : Program} {w : World} {A : Around} {E Q : Value → Shared → Prop} {s : Shared} {a b c : Int} {t u : Tok} (e : a - b = c) (h : Q (.int c s.toks) { s with toks := s.toks + 1 }) : wpAny (model prog w) A (inplaceOp .Sub (.int a t) (.int b u)) Q E s :=
  isub_int (e ▸ h)
theorem sub_as {prog : Program} {w : World} {A : Around} {E Q : Value → Shared → Prop} {s : Shared} {a b c : Int} {t u : Tok} (e : a - b = c) (h : Q (.int c s.toks) { s with toks := s.toks + 1 }) : wpAny (model prog w) A (binaryOp .Sub (.int a t) (.int b u)) Q E s :=
  sub_int (e ▸ h)
local macro_rules | `(tactic| walk_at "inplaceOp Sub int int") => `(tactic| (with_reducible refine isub_as (by assumption) ?_))
local macro_rules | `(tactic| walk_at "binaryOp Sub int int") => `(tactic| (with_reducible refine sub_as (by assumption) ?_))
local macro_rules | `(tactic| walk_at "exec For") => `(tactic| ((with_reducible show wpAny _ _ (PySem.exec (PySem.Stmt.For (PySem.Expr.Name _ _) _ _ [] _) _) _ _ _); (rename Fr _ _ _ _ => lF'); (with_unfolding_all refine' For_invVF lF' ?k1 ?k2 ?_; (case k1 => exact rfl); (case k2 => exact rfl); k_whole)))
local macro_rules | `(tactic| walk_at "pyIter ref") => `(tactic| (with_reducible refine st_b ?_))
theorem mem_mid' {q : Addr × Obj} {tl news : List (Addr × Obj)} : ∀ p ∈ tl ++ q :: news, p ∈ q :: (tl ++ news) := fun p hp => by
  rcases List.mem_append.mp hp with hp | hp
  · exact .tail _ (List.mem_append_left _ hp)
  · rcases List.mem_cons.mp hp with rfl | hp
    · exact .head _
    · exact .tail _ (List.mem_append_right _ hp)
section
variable {w : World} {p : Program} {loose : List Str} {mean : ExcName → Option Value} {mg mb : Str → Option Value} {Z : List (Addr × Obj)} {prog : Program}

set_option maxHeartbeats 2000000 in
theorem fill_spec {x dx : Addr} {c r sh t o : Value} {l : Addr} : ∀ (d D U : Nat) {A₀ A : Around} {base h₀ : Heap} {outer : List Env} {env : Env} {L : Addr} {m : Str → Option Value} {s : Shared} {Q E : Value → Shared → Prop} {tk : Tok} {node : Value} {ls : List (List Value)} {acc : List Value} {n : Nat} {rest : List (Addr × Obj)},
    Cx w p loose mean mg mb D U A₀ A base h₀ outer env L → Fr h₀ L s.heap m → News h₀ L s.heap ((l, W.listOf acc.toArray n) :: rest) → (∀ p ∈ rest, p.1 ≠ l) → D + 3 * d ≤ 900 → U + 20 * d ≤ 8000 →
    Has w rest x (vecObj dx c r sh t o) → Has w rest dx (dictOf [] 0) → (∀ p ∈ Z, p ∈ rest) → TrAt w Z d node ls → acc.length + 32 * ls.length ≤ 500000 →
    (∀ h' n' tk', Fr h₀ L h' m → News h₀ L h' ((l, W.listOf (acc ++ ls.flatten).toArray n') :: rest) → Q .none { s with heap := h', toks := tk' }) →
    wpAny (model prog w) A (call (.ref 176) [.ref x, node, .int (5 * d : Nat) tk, .ref l]) Q E s := by
  intro d
  induction d with
  | zero =>
    intro D U A₀ A base h₀ outer env L m s Q E tk node ls acc n rest C F N hne hD hU hs hsd hz ht hlen ret
    refine enter [("self", .ref x), ("node", node), ("shift", .int (5 * 0 : Nat) tk), ("the_list", .ref l)] C F N (by k_is) (by k_is) (by have := hD; show D < 1000; omega) (BindsTo.of_eq rfl) (locs rfl) ?_ rfl rfl rfl (by decide)
    intro g L' h₁ FG F' N' B' X' T' lt
    try k_fold
    unfold TrAt at ht
    obtain ⟨a, na, vs, rfl, rfl, hvs, ha⟩ := ht
    k_steps
    refine ext_list F' N' hne (ha.get X' F' N' (sub_cons hz)) (by simp at hlen; omega) fun h' n' F9 N9 => ?_
    k_steps
    show LeaveK h₀ L m g (back Q E) _ _
    refine leaveK_ F9 N9 fun F8 N8 => ret _ _ _ F8 (by simpa using N8)
  | succ d ih =>
    intro D U A₀ A base h₀ outer env L m s Q E tk node ls acc n rest C F N hne hD hU hs hsd hz ht hlen ret
    refine enter [("self", .ref x), ("node", node), ("shift", .int (5 * (d + 1) : Nat) tk), ("the_list", .ref l)] C F N (by k_is) (by k_is) (by have := hD; show D < 1000; omega) (BindsTo.of_eq rfl) (locs rfl) ?_ rfl rfl rfl (by decide)
    intro g L' h₁ FG F' N' B' X' T' lt
    try k_fold
    have hleaf := ht.leaf
    have hsub : ((5 * (d + 1) : Nat) : Int) - 5 = (5 * d : Nat) := by omega
    unfold TrAt at ht
    obtain ⟨a, na, us, rfl, ha, h3, h4, h5, h6⟩ := ht
    have hP := pow32_pos d
    have hus : us.length ≤ 32 := us_le hP h4 (by rw [Nat.pow_succ] at h3; omega)
    k_steps
    refine iter_list1 (fun i news₁ => ∃ n, news₁ = (l, W.listOf (acc ++ (ls.take (i * 32 ^ d)).flatten).toArray n) :: rest) rfl X' ha (sub_cons hz) (by assumption) (by assumption) ⟨n, by simp⟩ ?_ ?_ ?_
    · rintro i news₁ ⟨n', rfl⟩ p hp
      rcases List.mem_cons.mp hp with rfl | hp
      · exact ⟨_, .head _, rfl⟩
      · exact ⟨p, .tail _ hp, rfl⟩
    · rintro i v news₁ h tk own hv ⟨n', rfl⟩ ho F9 N9
      k_steps
      have hal : a ≠ l := by
        intro q
        rcases ha with e | e
        · have := (N9 _ (List.mem_append_right _ (.head _))).2.2; rw [← q, X' _ _ e] at this; cases this
        · exact hne _ (hz _ e) q
      have hcl : ((ls.drop (i * 32 ^ d)).take (32 ^ d)).length + (ls.take (i * 32 ^ d)).length ≤ ls.length := by simp; omega
      have hfl : (ls.take (i * 32 ^ d)).flatten.length = 32 * (ls.take (i * 32 ^ d)).length := flat_len fun l hl => hleaf l (List.mem_of_mem_take hl)
      refine ih (D + 1) (U + 3) (rest := own ++ rest) ⟨B', X', T', rfl, rfl, rfl, rfl, Nat.le_refl _, Nat.le_refl _⟩ F9 (news_sub N9 mem_mid) ?_ (by omega) (by omega) (hs.mono (sub_app sub_refl)) (hsd.mono (sub_app sub_refl)) (sub_app hz) (h6 i v hv) ?_ ?_
      · intro p hp
        rcases List.mem_append.mp hp with hp | hp
        · rcases ho p hp with e | e
          · rw [e]; exact hal
          · exact Ne.symm (e _ (.head _))
        · exact hne p hp
      · rw [List.length_append, hfl]; omega
      · intro h' n'' tk' F8 N8
        k_steps
        refine ⟨_, _, _, _, rfl, F8, news_sub N8 mem_mid', rfl, n'', ?_⟩
        rw [Nat.add_mul, Nat.one_mul, List.take_add, List.flatten_append, List.append_assoc]
    · rintro u news₁ h tk ⟨n', rfl⟩ F9 N9
      k_steps
      show LeaveK h₀ L m g (back Q E) _ _
      rw [List.take_of_length_le h5] at N9
      exact leaveK_ F9 N9 fun F8 N8 => ret _ _ _ F8 N8
end

section
variable {w : World} {p : Program} {loose : List Str} {mean : ExcName → Option Value} {mg mb : Str → Option Value} {A₀ A : Around} {base h₀ : Heap} {outer : List Env} {env : Env} {L : Addr}
  {m : Str → Option Value} {news Z : List (Addr × Obj)} {s : Shared} {Q E : Value → Shared → Prop} {prog : Program}

set_option maxHeartbeats 2000000 in
theorem tolist_spec {x dx t : Addr} {e n : Nat} {tc ts to : Tok} {root : Value} {ls : List (List Value)} {vs : List Value}
    (C : Cx w p loose mean mg mb 860 7700 A₀ A base h₀ outer env L) (F : Fr h₀ L s.heap m) (N : News h₀ L s.heap news) (hz : ∀ p ∈ Z, p ∈ news) (P : PVat w Z x dx t e n tc ts to root ls vs) (hls : ls.length ≤ 10000)
    (ret : ∀ l n h' tk', Fr h₀ L h' m → News h₀ L h' ((l, W.listOf (ls.flatten ++ vs).toArray n) :: news) → AllLt l news → Q (.ref l) { s with heap := h', toks := tk' }) :
    wpAny (model prog w) A (call (.ref 183) [.ref x]) Q E s := by
  refine enter [("self", .ref x)] C F N (by k_is) (by k_is) (by decide) (BindsTo.of_eq rfl) (locs rfl) ?_ rfl rfl rfl (by decide)
  intro g L' h₁ FG F' N' B' X' T' lt
  try k_fold
  obtain ⟨po, pd, pt, pl, plen, pe⟩ := P
  obtain ⟨ar, rfl⟩ := pt.ref
  have hfl := flat_len pt.leaf
  k_steps
  refine fill_spec (Z := Z) (acc := []) (e + 1) 861 7703 ⟨B', X', T', rfl, rfl, rfl, rfl, Nat.le_refl _, Nat.le_refl _⟩ (by assumption) (by assumption) (tbn_neAll (by walk_at "my lt")) (by omega) (by omega) (po.mono hz) (pd.mono hz) hz pt (by simp; omega) ?_
  intro h' n' tk' F9 N9
  k_steps
  rw [List.nil_append] at N9
  refine ext_list F9 N9 (tbn_neAll (by walk_at "my lt")) (pl.get X' F9 N9 (sub_cons hz)) (by omega) fun h'' n'' F8 N8 => ?_
  k_steps
  show LeaveK h₀ L m g (back Q E) _ _
  exact leaveK_ F8 N8 fun F7 N7 => ret _ _ _ _ F7 N7 (by walk_at "my lt")
end

local macro_rules | `(tactic| k_mem) => `(tactic| assumption)
local macro_rules | `(tactic| k_all) => `(tactic| assumption)
theorem mem_mid2 {a q : Addr × Obj} {tl news : List (Addr × Obj)} : ∀ p ∈ q :: a :: (tl ++ news), p ∈ a :: (tl ++ q :: news) := fun p hp => by
  rcases List.mem_cons.mp hp with rfl | hp
  · exact .tail _ (List.mem_append_right _ (.head _))
  · rcases List.mem_cons.mp hp with rfl | hp
    · exact .head _
    · exact .tail _ ((List.mem_append.mp hp).elim (fun h => List.mem_append_left _ h) fun h => List.mem_append_right _ (.tail _ h))
theorem news_swap {h₀ h : Heap} {L : Addr} {a b c : Addr × Obj} {l : List (Addr × Obj)} (N : News h₀ L h (a :: b :: c :: l)) : News h₀ L h (b :: a :: l) := fun p hp => by
  rcases List.mem_cons.mp hp with rfl | hp
  · exact N _ (.tail _ (.head _))
  · rcases List.mem_cons.mp hp with rfl | hp
    · exact N _ (.head _)
    · exact N _ (.tail _ (.tail _ (.tail _ hp)))
local macro_rules | `(tactic| walk_at "subscriptTail Name Slice ref ref") => `(tactic| ((with_reducible show wpAny _ _ (subscriptTail _ (PySem.Expr.Slice _ _ none _) (PySem.Value.ref _) (PySem.Value.ref _)) _ _ _); k_dflt (refine' kms_slice_lit ?F ?N ?l ?p ?q ?e ?_ ?s ?t ?z; (case F => k_asm); (case N => k_asm); (case l => is_list); (case p => kmk_part); (case q => kmk_part); (case e => first | assumption | exact rfl); (case s => with_unfolding_all rfl); (case t => kmk_pure); (case z => walk_at "my size")); intro D' h' F' N' l1; (try k_lt l1); (try k_sweep)))
theorem mem_rot {a b c : Addr × Obj} {l : List (Addr × Obj)} : ∀ p ∈ c :: a :: b :: l, p ∈ a :: b :: c :: l := fun p hp => by
  simp only [List.mem_cons] at hp ⊢
  rcases hp with h | h | h | h
  · exact .inr (.inr (.inl h))
  · exact .inl h
  · exact .inr (.inl h)
  · exact .inr (.inr (.inr h))
theorem mem_rot2 {a b c : Addr × Obj} {l : List (Addr × Obj)} : ∀ p ∈ b :: c :: a :: l, p ∈ c :: a :: b :: l := fun p hp => by
  simp only [List.mem_cons] at hp ⊢
  rcases hp with h | h | h | h
  · exact .inr (.inr (.inl h))
  · exact .inl h
  · exact .inr (.inl h)
  · exact .inr (.inr (.inr h))
theorem mem_rot2' {a b c : Addr × Obj} {l : List (Addr × Obj)} : ∀ p ∈ b :: c :: a :: l, p ∈ c :: a :: b :: l := mem_rot2
theorem news_skip {h₀ h : Heap} {L : Addr} {a b c : Addr × Obj} {l : List (Addr × Obj)} (N : News h₀ L h (a :: b :: c :: l)) : News h₀ L h (a :: b :: l) := news_drop2 N
theorem pick_run {xs : List Value} {k j : Nat} {y : Int} (hk : k ≤ xs.length) (hy : y = (k : Int) + j) : kms_pick xs.toArray.toList (some (k : Int)) (some y) = (xs.drop k).take j := by
  subst hy
  have h1 : ¬ (k : Int) < 0 := by omega
  have h2 : ¬ ((k : Int) + j) < 0 := by omega
  simp only [kms_pick, kms_lo, kms_hi, if_neg h1, if_neg h2]
  rw [show (k : Int).toNat = k by omega, show ((k : Int) + j).toNat = k + j by omega, Nat.min_eq_left hk]
  rcases Nat.le_total (k + j) xs.length with h | h
  · rw [Nat.min_eq_left h]; congr 1; omega
  · rw [Nat.min_eq_right h, List.take_of_length_le (by simp), List.take_of_length_le (by simp; omega)]
section
variable {w : World} {p : Program} {loose : List Str} {mean : ExcName → Option Value} {mg mb : Str → Option Value} {A₀ A : Around} {base h₀ : Heap} {outer : List Env} {env : Env} {L : Addr}
  {m : Str → Option Value} {rest Z : List (Addr × Obj)} {s : Shared} {Q E : Value → Shared → Prop} {prog : Program}

set_option maxHeartbeats 2000000 in
theorem insert_spec {x dx t : Addr} {cnt e n : Nat} {tc ts : Tok} {root o : Value} {ls : List (List Value)} {vs : List Value}
    (C : Cx w p loose mean mg mb 860 7700 A₀ A base h₀ outer env L) (F : Fr h₀ L s.heap m) (N : News h₀ L s.heap ((x, vecObj dx (.int cnt tc) root (.int (5 * (e + 1) : Nat) ts) (.ref t) o) :: rest)) (hx : ∀ p ∈ rest, p.1 ≠ x)
    (hdx : (dx, dictOf [] 0) ∈ rest) (ht : (t, W.listOf vs.toArray n) ∈ rest) (hz : ∀ p ∈ Z, p ∈ rest) (hr : TrAt w Z (e + 1) root ls) (hvs : vs.length = 32) (hc : cnt = 32 * (ls.length + 1)) (he : e ≤ 2) (hls : ls.length ≤ 10000)
    (ret : ∀ root' e' ts' t2 tl h' tk', Fr h₀ L h' m → News h₀ L h' ((x, vecObj dx (.int cnt tc) root' (.int (5 * (e' + 1) : Nat) ts') (.ref t2) o) :: (t2, W.listOf ([] : List Value).toArray 0) :: (tl ++ rest)) →
      Newer rest tl → (∀ p ∈ tl, p.1 ≠ x) → AllLt t2 (tl ++ rest) → @LT.lt Nat _ x t2 → e' ≤ 2 → TrAt w (tl ++ (t, W.listOf vs.toArray n) :: Z) (e' + 1) root' (ls ++ [vs]) → Q .none { s with heap := h', toks := tk' }) :
    wpAny (model prog w) A (call (.ref 242) [.ref x]) Q E s := by
  refine enter [("self", .ref x)] C F N (by k_is) (by k_is) (by decide) (BindsTo.of_eq rfl) (locs rfl) ?_ rfl rfl rfl (by decide)
  intro g L' h₁ FG F' N' B' X' T' lt
  try k_fold
  have hdxM : (dx, dictOf [] 0) ∈ (x, vecObj dx (.int cnt tc) root (.int (5 * (e + 1) : Nat) ts) (.ref t) o) :: rest := .tail _ hdx
  k_steps
  refine root_spec (Z := (t, W.listOf vs.toArray n) :: Z) ⟨B', X', T', rfl, rfl, rfl, rfl, Nat.le_of_ble_eq_true rfl, Nat.le_of_ble_eq_true rfl⟩ (by assumption) (by assumption) (.inr (.head _)) (.inr hdxM) ?_ (hr.mono (sub_cons sub_refl)) (.inr (.head _)) hvs hc he hls ?_
  · intro p hp
    rcases List.mem_cons.mp hp with rfl | hp
    · exact .tail _ ht
    · exact .tail _ (hz p hp)
  intro a root' e' tk tl h' tk' F9 N9 lt9 la9 he9 ht9
  have N8 := news_sub N9 mem_mid2
  clear N9 N'
  have hxa : @LT.lt Nat _ x a := la9 _ (List.mem_append_right _ (.head _))
  have htx : ∀ p ∈ tl, p.1 ≠ x := fun p hp => Nat.ne_of_gt (lt9 _ (.head _) p hp)
  have hax : ∀ p ∈ tl ++ rest, p.1 ≠ x := fun p hp => (List.mem_append.mp hp).elim (htx p) (hx p)
  have hdx8 : (dx, dictOf [] 0) ∈ tl ++ rest := List.mem_append_right _ hdx
  k_steps
  refine leaveK_ (by assumption) (by assumption) fun F7 N7 => ret root' e' _ _ tl _ _ F7 (news_swap N7) (fun q hq => lt9 q (.tail _ hq)) htx (by walk_at "my lt") (by omega) he9 ht9

set_option maxHeartbeats 2000000 in
theorem filltail_spec {x dx t sq : Addr} {cnt n ns k : Nat} {tc tk : Tok} {root sh o : Value} {vs xs : List Value}
    (C : Cx w p loose mean mg mb 860 7700 A₀ A base h₀ outer env L) (F : Fr h₀ L s.heap m) (N : News h₀ L s.heap ((x, vecObj dx (.int cnt tc) root sh (.ref t) o) :: (t, W.listOf vs.toArray n) :: rest)) (hx : ∀ p ∈ rest, p.1 ≠ x) (hxt : x ≠ t) (ht : ∀ p ∈ rest, p.1 ≠ t)
    (hdx : (dx, dictOf [] 0) ∈ rest) (hq : (sq, W.listOf xs.toArray ns) ∈ rest) (hvs : vs.length ≤ 32) (hk : k ≤ xs.length) (hxs : xs.length ≤ 100000)
    (ret : ∀ n' tk1 tk2 h' tk', Fr h₀ L h' m → News h₀ L h' ((x, vecObj dx (.int (cnt + ((xs.drop k).take (32 - vs.length)).length : Nat) tk1) root sh (.ref t) o) :: (t, W.listOf (vs ++ (xs.drop k).take (32 - vs.length)).toArray n') :: rest) →
      Q (.int (k + ((xs.drop k).take (32 - vs.length)).length : Nat) tk2) { s with heap := h', toks := tk' }) :
    wpAny (model prog w) A (call (.ref 249) [.ref x, .int (k : Nat) tk, .ref sq]) Q E s := by
  refine enter [("self", .ref x), ("offset", .int (k : Nat) tk), ("sequence", .ref sq)] C F N (by k_is) (by k_is) (by decide) (BindsTo.of_eq rfl) (locs rfl) ?_ rfl rfl rfl (by decide)
  intro g L' h₁ FG F' N' B' X' T' lt
  try k_fold
  have htM : Has w ((x, vecObj dx (.int cnt tc) root sh (.ref t) o) :: (t, W.listOf vs.toArray n) :: rest) t (W.listOf vs.toArray n) := .inr (.tail _ (.head _))
  have hqM : Has w rest sq (W.listOf xs.toArray ns) := .inr hq
  have hpick : kms_pick xs.toArray.toList (some (k : Int)) (some ((k : Int) + (32 - (vs.toArray.size : Int)))) = (xs.drop k).take (32 - vs.length) := pick_run hk (by simp; omega)
  generalize hys : (xs.drop k).take (32 - vs.length) = ys at hpick ret
  have hyl : ys.length ≤ 32 := by rw [← hys]; simp; omega
  k_steps
  rename News g L' _ _ => N9
  rename Fr g L' _ _ => F9
  refine ext_list F9 (news_sub N9 mem_rot) ?_ (N9 _ (.head _)).1 (by omega) fun h' n' F8 N8 => ?_
  · refine List.forall_mem_cons.mpr ⟨by k_ne, List.forall_mem_cons.mpr ⟨hxt, ht⟩⟩
  have N7 := news_sub N8 mem_rot2'
  clear N8 N9
  have hxt' : @Ne Nat x t := hxt
  k_steps
  show LeaveK h₀ L m g (back Q E) _ _
  refine leaveK_ (by assumption) (by assumption) fun F6 N6 => ?_
  rw [show ((cnt : Int) + (ys.toArray.size : Int)) = ((cnt + ys.length : Nat) : Int) by simp] at N6
  rw [show ((k : Int) + (ys.toArray.size : Int)) = ((k + ys.length : Nat) : Int) by simp]
  exact ret _ _ _ _ _ F6 (news_skip N6)
end

local macro_rules | `(tactic| walk_at "exec While") => `(tactic| (with_reducible refine st_c ?_))
theorem set_again {m : Str → Option Value} {x : Str} {a b : Option Value} : (fun y => if y = x then a else if y = x then b else m y) = fun y => if y = x then a else m y := by
  funext y; by_cases h : y = x <;> simp [h]
theorem fr_eq {h₀ h : Heap} {L : Addr} {m m' : Str → Option Value} (F : Fr h₀ L h m) (e : m = m') : Fr h₀ L h m' := e ▸ F
section
variable {prog : Program} {w : World} {A : Around} {E : Value → Shared → Prop} {Q : Flow → Shared → Prop} {s : Shared} {env : Env} {h₀ : Heap} {L : Addr}
def WhileEnd (h₀ : Heap) (L : Addr) (x : Str) (m₀ : Str → Option Value) (J : Nat → Value → List (Addr × Obj) → Prop) (n : Nat) (s s₃ : Shared) : Prop :=
  ∃ h' tk v news₂ n', s₃ = { s with heap := h', toks := tk } ∧ Fr h₀ L h' (fun y => if y = x then some v else m₀ y) ∧ News h₀ L h' news₂ ∧ n' < n ∧ J n' v news₂
def WhilePost (h₀ : Heap) (L : Addr) (x : Str) (m₀ : Str → Option Value) (J : Nat → Value → List (Addr × Obj) → Prop) (n : Nat) (s : Shared) (f : Flow) (s₃ : Shared) : Prop := match f with
  | .next => WhileEnd h₀ L x m₀ J n s s₃
  | _ => False
/-- a while that turns one name -/
theorem While_var {test : PySem.Expr} {body : List Stmt} {pos : Pos} {m₀ : Str → Option Value} {news : List (Addr × Obj)} {x : Str} {v₀ : Value} (J : Nat → Value → List (Addr × Obj) → Prop) {n₀ : Nat}
    (F : Fr h₀ L s.heap m₀) (hv : m₀ x = some v₀) (N : News h₀ L s.heap news) (hJ : J n₀ v₀ news)
    (turn : ∀ n v news₁ h₁ tk₁, Fr h₀ L h₁ (fun y => if y = x then some v else m₀ y) → News h₀ L h₁ news₁ → J n v news₁ →
      wpAny (model prog w) A (isTrue test env (eval test env)) (fun b s₂ =>
        if b = true then wpAny (model prog w) A (execs body env) (WhilePost h₀ L x m₀ J n s) E s₂ else Q .next s₂) E { s with heap := h₁, toks := tk₁ })
    (hE : PassesOwn (model prog w) A env E := by passes_own) :
    wpAny (model prog w) A (exec (.While test body [] pos) env) Q E s := by
  refine While_inv (fun n m₁ news => ∃ v, m₁ = (fun y => if y = x then some v else m₀ y) ∧ J n v news) F N ⟨v₀, ?_, hJ⟩ (fun n m₁ news₁ h₁ tk₁ F₁ N₁ hj => ?_) hE
  · funext y
    by_cases h : y = x
    · simp [h, hv]
    · simp [h]
  · obtain ⟨v, rfl, hj⟩ := hj
    refine wpAny_mono (turn n v news₁ h₁ tk₁ F₁ N₁ hj) (fun b s₂ h₂ => ?_) fun _ _ e => e
    cases b with
    | false => exact h₂
    | true =>
      refine wpAny_mono h₂ (fun f s₃ h₃ => ?_) fun _ _ e => e
      cases f with
      | next => obtain ⟨h', tk, v, news₂, n', e, F', N', hn, hj'⟩ := h₃; exact ⟨rfl, h', tk, _, news₂, n', e, F', N', hn, v, rfl, hj'⟩
      | _ => exact h₃.elim
end
section
variable {w : World} {p : Program} {loose : List Str} {mean : ExcName → Option Value} {mg mb : Str → Option Value} {A₀ A : Around} {base h₀ : Heap} {outer : List Env} {env : Env} {L : Addr}
  {m : Str → Option Value} {rest Z B : List (Addr × Obj)} {s : Shared} {Q E : Value → Shared → Prop} {prog : Program}

set_option maxHeartbeats 2000000 in
theorem mext_spec {x dx t sq : Addr} {e n ns : Nat} {tc ts : Tok} {root o : Value} {ls : List (List Value)} {vs xs : List Value}
    (C : Cx w p loose mean mg mb 850 7600 A₀ A base h₀ outer env L) (F : Fr h₀ L s.heap m) (N : News h₀ L s.heap ((x, vecObj dx (.int (32 * ls.length + vs.length : Nat) tc) root (.int (5 * (e + 1) : Nat) ts) (.ref t) o) :: (t, W.listOf vs.toArray n) :: rest))
    (hx : ∀ p ∈ rest, p.1 ≠ x) (hxt : x ≠ t) (ht : ∀ p ∈ rest, p.1 ≠ t) (hdx : (dx, dictOf [] 0) ∈ rest) (hq : (sq, W.listOf xs.toArray ns) ∈ rest) (hz : ∀ p ∈ Z, p ∈ rest) (hB : ∀ p ∈ B, p ∈ rest) (hBt : ∀ q ∈ B, q.1 < t)
    (hr : TrAt w Z (e + 1) root ls) (hvs : vs.length ≤ 32) (he : e ≤ 2) (hxs : 32 * ls.length + vs.length + xs.length ≤ 100000)
    (ret : ∀ root' e' tc ts to t' n' ls' vs' tl h' tk', Fr h₀ L h' m → News h₀ L h' ((x, vecObj dx (.int (32 * ls'.length + vs'.length : Nat) tc) root' (.int (5 * (e' + 1) : Nat) ts) (.ref t') (.int (32 * ls'.length : Nat) to)) :: (t', W.listOf vs'.toArray n') :: (tl ++ rest)) →
      Newer B tl → (∀ q ∈ B, q.1 < t') → TrAt w (tl ++ Z) (e' + 1) root' ls' → vs'.length ≤ 32 → e' ≤ 2 → ls'.flatten ++ vs' = ls.flatten ++ vs ++ xs → Q .none { s with heap := h', toks := tk' }) :
    wpAny (model prog w) A (call (.ref 256) [.ref x, .ref sq]) Q E s := by
  refine enter [("self", .ref x), ("sequence", .ref sq)] C F N (by k_is) (by k_is) (by decide) (BindsTo.of_eq rfl) (locs rfl) ?_ rfl rfl rfl (by decide)
  intro g L' h₁ FG F' N' B' X' T' lt
  try k_fold
  have hqM : Has w rest sq (W.listOf xs.toArray ns) := .inr hq
  k_steps
  rename News g L' _ _ => N9
  rename Fr g L' _ _ => F9
  refine While_var (x := "offset") (n₀ := 2 * xs.length + 1) (fun nn v news₁ => ∃ k tko root e tc ts t nt ls' vs' tl, v = .int ((k : Nat) : Int) tko ∧
      news₁ = (x, vecObj dx (.int (32 * ls'.length + vs'.length : Nat) tc) root (.int (5 * (e + 1) : Nat) ts) (.ref t) o) :: (t, W.listOf vs'.toArray nt) :: (tl ++ rest) ∧
      (∀ p ∈ tl ++ rest, p.1 ≠ x) ∧ @Ne Nat x t ∧ (∀ p ∈ tl ++ rest, p.1 ≠ t) ∧ TrAt w (tl ++ Z) (e + 1) root ls' ∧ vs'.length ≤ 32 ∧ e ≤ 2 ∧ k ≤ xs.length ∧
      ls'.flatten ++ vs' = ls.flatten ++ vs ++ xs.take k ∧ Newer B tl ∧ (∀ q ∈ B, q.1 < t) ∧ 2 * (xs.length - k) + vs'.length / 32 ≤ nn) F9 rfl N9 ?_ ?_
  · exact ⟨0, _, root, e, tc, ts, t, n, ls, vs, [], rfl, rfl, hx, hxt, ht, hr, hvs, he, Nat.zero_le _, by simp, Newer.nil, hBt, by omega⟩
  · rintro nn v news₁ h₁ tk₁ F1 N1 ⟨k, tko, root1, e1, tc1, ts1, t1, nt1, ls1, vs1, tl1, rfl, rfl, j1, j2, j3, j4, j5, j6, j7, j8, j9, j10, j11⟩
    have hdx1 : (dx, dictOf [] 0) ∈ tl1 ++ rest := List.mem_append_right _ hdx
    have hq1 : (sq, W.listOf xs.toArray ns) ∈ tl1 ++ rest := List.mem_append_right _ hq
    have hflen := flat_len j4.leaf
    have hflen0 := flat_len hr.leaf
    have hlen := congrArg List.length j8
    simp only [List.length_append, List.length_take, hflen, hflen0] at hlen
    k_steps
    rcases Nat.lt_or_ge k xs.length with hk | hk
    · show ite _ _ _
      refine ite_pos (by simp only [decide_eq_true_eq, List.size_toArray]; omega) ?_
      k_steps
      refine filltail_spec (xs := xs) ⟨B', X', T', rfl, rfl, rfl, rfl, Nat.le_of_ble_eq_true rfl, Nat.le_of_ble_eq_true rfl⟩ F1 N1 j1 j2 j3 hdx1 hq1 j5 j7 (by omega) ?_
      generalize hys : (xs.drop k).take (32 - vs1.length) = ys
      obtain ⟨hy1, hy2, hy3⟩ : vs1.length + ys.length ≤ 32 ∧ k + ys.length ≤ xs.length ∧ (vs1.length + ys.length < 32 → k + ys.length = xs.length) := by
        have hyl : ys.length = min (32 - vs1.length) (xs.length - k) := by rw [← hys]; simp
        clear hlen j11 hxs
        omega
      intro n' tk1 tk2 h' tk' F2 N2
      have htk : xs.take k ++ ys = xs.take (k + ys.length) := by
        rw [List.take_add, ← hys]
        congr 1
        rw [List.length_take, List.length_drop, List.take_eq_take_iff]
        simp
      have htM : Has w ((x, vecObj dx (.int (32 * ls1.length + vs1.length + ys.length : Nat) tk1) root1 (.int (5 * (e1 + 1) : Nat) ts1) (.ref t1) o) :: (t1, W.listOf (vs1 ++ ys).toArray n') :: (tl1 ++ rest)) t1 (W.listOf (vs1 ++ ys).toArray n') := .inr (.tail _ (.head _))
      k_steps
      rename News g L' _ _ => N3
      rename Fr g L' _ _ => F3
      rcases Nat.lt_or_ge (vs1 ++ ys).length 32 with hv | hv
      · show ite _ _ _
        refine ite_neg (by simp only [beq_iff_eq, List.size_toArray]; omega) ?_
        k_steps
        rw [show 32 * ls1.length + vs1.length + ys.length = 32 * ls1.length + (vs1 ++ ys).length by rw [List.length_append]; omega] at N3
        rw [List.length_append] at hv
        refine ⟨_, _, _, _, 2 * (xs.length - (k + ys.length)) + (vs1 ++ ys).length / 32, rfl, fr_eq F3 set_again, N3, ?_, k + ys.length, _, root1, e1, _, _, t1, n', ls1, vs1 ++ ys, tl1, rfl, rfl, j1, j2, j3, j4, ?_, j6, ?_, ?_, j9, j10, Nat.le_refl _⟩
        · rw [List.length_append]; omega
        · rw [List.length_append]; omega
        · omega
        · rw [← htk, ← List.append_assoc, j8, ← List.append_assoc]
      · show ite _ _ _
        have hv' : (vs1 ++ ys).length = 32 := by rw [List.length_append] at hv ⊢; omega
        refine ite_pos (by simp only [beq_iff_eq, List.size_toArray]; omega) ?_
        k_steps
        have hvl := hv'
        rw [List.length_append] at hvl
        refine insert_spec (Z := tl1 ++ Z) (rest := (t1, W.listOf (vs1 ++ ys).toArray n') :: (tl1 ++ rest)) ⟨B', X', T', rfl, rfl, rfl, rfl, Nat.le_of_ble_eq_true rfl, Nat.le_of_ble_eq_true rfl⟩ F3 N3 (List.forall_mem_cons.mpr ⟨Ne.symm j2, j1⟩) (.tail _ hdx1) (.head _) ?_ j4 hv' (by omega) j6 (by omega) ?_
        · exact sub_cons fun p hp => (List.mem_append.mp hp).elim (fun h => List.mem_append_left _ h) fun h => List.mem_append_right _ (hz p h)
        intro root2 e2 ts2 t2 tl2 h' tk' F4 N4 q1 q2 q3 q4 q5 q6
        k_steps
        have el : tl2 ++ (t1, W.listOf (vs1 ++ ys).toArray n') :: (tl1 ++ rest) = (tl2 ++ (t1, W.listOf (vs1 ++ ys).toArray n') :: tl1) ++ rest := by simp
        have ez : tl2 ++ (t1, W.listOf (vs1 ++ ys).toArray n') :: (tl1 ++ Z) = (tl2 ++ (t1, W.listOf (vs1 ++ ys).toArray n') :: tl1) ++ Z := by simp
        rw [ez] at q6
        rw [show 32 * ls1.length + vs1.length + ys.length = 32 * (ls1 ++ [vs1 ++ ys]).length + ([] : List Value).length by rw [List.length_append]; simp; omega, el] at N4
        rw [el] at q3
        refine ⟨_, _, _, _, 2 * (xs.length - (k + ys.length)), rfl, fr_eq F4 set_again, N4, ?_, k + ys.length, _, root2, e2, _, _, t2, _, ls1 ++ [vs1 ++ ys], [], _, rfl, rfl, ?_, Nat.ne_of_lt q4, tbn_neAll q3, q6, by simp, q5, ?_, ?_, ?_, ?_, by simp⟩
        · omega
        · intro p hp
          rw [← el] at hp
          rcases List.mem_append.mp hp with hp | hp
          · exact q2 p hp
          · rcases List.mem_cons.mp hp with rfl | hp
            · exact Ne.symm j2
            · exact j1 p hp
        · omega
        · rw [← htk]
          simp only [List.flatten_append, List.flatten_cons, List.flatten_nil, List.append_nil]
          rw [← List.append_assoc, j8, ← List.append_assoc]
        · intro q hq p hp
          rcases List.mem_append.mp hp with hp | hp
          · exact q1 q (.tail _ (List.mem_append_right _ (hB q hq))) p hp
          · rcases List.mem_cons.mp hp with rfl | hp
            · exact j10 q hq
            · exact j9 q hq p hp
        · intro q hq
          exact tb_ltOf q3 q (List.mem_append_right _ (hB q hq))
    · show ite _ _ _
      refine ite_neg (by simp only [decide_eq_true_eq, List.size_toArray]; omega) ?_
      obtain rfl : k = xs.length := by omega
      rw [List.take_length] at j8
      have htM : Has w ((x, vecObj dx (.int (32 * ls1.length + vs1.length : Nat) tc1) root1 (.int (5 * (e1 + 1) : Nat) ts1) (.ref t1) o) :: (t1, W.listOf vs1.toArray nt1) :: (tl1 ++ rest)) t1 (W.listOf vs1.toArray nt1) := .inr (.tail _ (.head _))
      k_steps
      refine leaveK_ (by assumption) (by assumption) fun F6 N6 => ?_
      rw [show ((32 * ls1.length + vs1.length : Nat) : Int) - (vs1.toArray.size : Int) = ((32 * ls1.length : Nat) : Int) by simp] at N6
      exact ret root1 e1 _ _ _ t1 nt1 ls1 vs1 tl1 _ _ F6 N6 j9 j10 j4 j5 j6 j8
end

noncomputable abbrev tupOf (its : Array Value) (n : Nat) : Obj := { cls := .type "tuple", data := .seq its n }
/-- a list, a tuple or a vector of the values xs -/
def SeqLike (w : World) (Z : List (Addr × Obj)) (v : Value) (xs : List Value) : Prop :=
  (∃ a n, v = .ref a ∧ Has w Z a (W.listOf xs.toArray n)) ∨ (∃ a n, v = .ref a ∧ Has w Z a (tupOf xs.toArray n)) ∨ PV w Z v xs
section
variable {w : World} {prog : Program} {A : Around} {h₀ : Heap} {L a : Addr} {m : Str → Option Value} {news Z : List (Addr × Obj)} {its : Array Value} {n : Nat} {s : Shared} {Q E : Value → Shared → Prop}
theorem isi_lst (H : Has w Z a (W.listOf its n)) (X : (hd.heap_39 w.params).In h₀) (F : Fr h₀ L s.heap m) (N : News h₀ L s.heap news) (hz : ∀ p ∈ Z, p ∈ news) (h : ∀ tk, Q (.bool false) { s with toks := tk }) :
    wpAny (model prog w) A (call (.builtin "isinstance") [.ref a, .ref 303]) Q E s := kia_one kitx_list (X.keeps F.keep) ⟨_, H.get X F N hz, rfl⟩ (by kit_is) (by intro q; cases q) h
theorem isi_tup (H : Has w Z a (tupOf its n)) (X : (hd.heap_39 w.params).In h₀) (F : Fr h₀ L s.heap m) (N : News h₀ L s.heap news) (hz : ∀ p ∈ Z, p ∈ news) (h : ∀ tk, Q (.bool false) { s with toks := tk }) :
    wpAny (model prog w) A (call (.builtin "isinstance") [.ref a, .ref 303]) Q E s := kia_one kitx_tuple (X.keeps F.keep) ⟨_, H.get X F N hz, rfl⟩ (by kit_is) (by intro q; cases q) h
end
local macro_rules | `(tactic| walk_at "call builtin:isinstance") => `(tactic| ((with_reducible show wpAny _ _ (PySem.call _ [PySem.Value.ref _, PySem.Value.ref 303]) _ _ _); k_dflt (first | refine isi_lst (by assumption) (by assumption) (by assumption) (by assumption) (by walk_at "my sub") ?_ | refine isi_tup (by assumption) (by assumption) (by assumption) (by assumption) (by walk_at "my sub") ?_); intro tk9))
local macro_rules | `(tactic| walk_at "eval IfExp") => `(tactic| (with_reducible refine st_d ?_))
section
variable {w : World} {p : Program} {loose : List Str} {mean : ExcName → Option Value} {mg mb : Str → Option Value} {A₀ A : Around} {base h₀ : Heap} {outer : List Env} {env : Env} {L : Addr}
  {m : Str → Option Value} {news Z : List (Addr × Obj)} {s : Shared} {Q E : Value → Shared → Prop} {prog : Program}
theorem cut_seq {M : Model} {xs : List Value} {t : Sem Value} (_F : Fr h₀ L s.heap m) (h : ∀ Q' : Value → Shared → Prop, (∀ l n h' tk', Fr h₀ L h' m → News h₀ L h' ((l, W.listOf xs.toArray n) :: news) → AllLt l news → Q' (.ref l) { s with heap := h', toks := tk' }) → wpAny M A t Q' E s)
    (core : ∀ l n h' tk', Fr h₀ L h' m → News h₀ L h' ((l, W.listOf xs.toArray n) :: news) → AllLt l news → Q (.ref l) { s with heap := h', toks := tk' }) : Stop (wpAny M A t Q E s) := h Q core
theorem ifexp_go {M : Model} {t b o : PySem.Expr} {pos : Pos} (h : wpAny M A (isTrue t env (eval t env)) (fun c s' => if c = true then wpAny M A (eval b env) Q E s' else wpAny M A (eval o env) Q E s') E s) : wpAny M A (eval (.IfExp t b o pos) env) Q E s := wpAny_IfExp h

theorem mem_perm4 {a b c d : Addr × Obj} {l : List (Addr × Obj)} : ∀ p ∈ b :: d :: a :: c :: l, p ∈ a :: b :: c :: d :: l := fun p hp => by
  simp only [List.mem_cons] at hp ⊢
  rcases hp with h | h | h | h | h <;> simp [h]
set_option maxHeartbeats 2000000 in
theorem extend_spec {x dx t : Addr} {e n : Nat} {tc ts to : Tok} {root : Value} {ls : List (List Value)} {vs xs : List Value} {obj : Value}
    (C : Cx w p loose mean mg mb 840 7500 A₀ A base h₀ outer env L) (F : Fr h₀ L s.heap m) (N : News h₀ L s.heap news) (hz : ∀ p ∈ Z, p ∈ news) (P : PVat w Z x dx t e n tc ts to root ls vs) (ho : SeqLike w news obj xs) (hlen : 32 * ls.length + vs.length + xs.length ≤ 90000)
    (ret : ∀ r tl h' tk', Fr h₀ L h' m → News h₀ L h' (tl ++ news) → Newer news tl → PV w (tl ++ Z) r (ls.flatten ++ vs ++ xs) → Q r { s with heap := h', toks := tk' }) :
    wpAny (model prog w) A (call (.ref 263) [.ref x, obj]) Q E s := by
  refine enter [("self", .ref x), ("obj", obj)] C F N (by k_is) (by k_is) (by decide) (BindsTo.of_eq rfl) (locs rfl) ?_ rfl rfl rfl (by decide)
  intro g L' h₁ FG F' N' B' X' T' lt
  try k_fold
  k_steps
  refine cut_seq (xs := xs) (news := news) F' ?h ?core
  case h =>
    intro Q' ret'
    rcases ho with ⟨a, na, rfl, ha⟩ | ⟨a, na, rfl, ha⟩ | ⟨x2, dx2, t2, e2, n2, tc2, ts2, to2, root2, ls2, vs2, rfl, P2, rfl⟩
    · refine ifexp_go ?_
      k_steps
      exact ret' _ _ _ _ (by assumption) (by assumption) (by walk_at "my lt")
    · refine ifexp_go ?_
      have hT : IsTup h₁ a xs.toArray := ⟨_, ha.get X' F' N' sub_refl, rfl, na, rfl⟩
      k_steps
      exact ret' _ _ _ _ (by assumption) (by assumption) (by walk_at "my lt")
    · refine ifexp_go ?_
      obtain ⟨po2, pd2, pt2, pl2, plen2, pe2⟩ := id P2
      have hfl := flat_len pt2.leaf
      rw [List.length_append, hfl] at hlen
      k_steps
      refine tolist_spec ⟨B', X', T', rfl, rfl, rfl, rfl, Nat.le_of_ble_eq_true rfl, Nat.le_of_ble_eq_true rfl⟩ F' N' sub_refl P2 (by omega) ?_
      intro l n h' tk' F9 N9 l9
      exact ret' _ _ _ _ F9 N9 l9
  case core =>
    intro l nl h' tk' F9 N9 l9
    obtain ⟨po, pd, pt, pl, plen, pe⟩ := id P
    have hlM : Has w ((l, W.listOf xs.toArray nl) :: news) l (W.listOf xs.toArray nl) := .inr (.head _)
    k_steps
    cases xs with
    | nil =>
      show ite _ _ _
      refine ite_neg (by simp) ?_
      k_steps
      show LeaveK h₀ L m g (back Q E) _ _
      refine leaveK_ (by assumption) (by assumption) fun F8 N8 => ret _ [] _ _ F8 (news_sub N8 (sub_cons sub_refl)) Newer.nil ?_
      exact ⟨x, dx, t, e, n, tc, ts, to, root, ls, vs, rfl, P, by simp⟩
    | cons x0 xs =>
      show ite _ _ _
      refine ite_pos (by simp) ?_
      k_steps
      rename Fr g L' _ _ => F1
      rename News g L' _ _ => N1
      have hfl := flat_len pt.leaf
      simp only [List.length_cons] at hlen
      refine append_spec ⟨B', X', T', rfl, rfl, rfl, rfl, Nat.le_of_ble_eq_true rfl, Nat.le_of_ble_eq_true rfl⟩ F1 N1 (sub_cons hz) P (by omega) ?_
      intro x' dx' t' e' n' tc' ts' to' root' ls' vs' tl h' tk' F2 N2 l2 l3 l4 l5 tr2 hv2 hv3 he2 hfe
      have hpk : kms_pick (x0 :: xs).toArray.toList (some 1) none = xs := by simp [kms_pick, kms_lo, kms_hi]
      have hfl' := flat_len tr2.leaf
      have hll := congrArg List.length hfe
      simp only [List.length_append, hfl, hfl', List.length_cons, List.length_nil] at hll
      clear F1 N1
      k_steps
      rename Fr g L' _ _ => F3
      rename News g L' _ _ => N3
      have l45 : @LT.lt Nat _ t' x' := Nat.lt_trans l4 l5
      have lx := tbn_up l45 l3
      refine mext_spec (B := news) (Z := tl ++ Z) (xs := xs) ⟨B', X', T', rfl, rfl, rfl, rfl, Nat.le_of_ble_eq_true rfl, Nat.le_of_ble_eq_true rfl⟩ F3 (news_sub N3 mem_perm4) ?_ (Nat.ne_of_gt l45) ?_ (.tail _ (.head _)) (.head _) ?_ ?_ ?_ tr2 hv2 he2 (by omega) ?_
      · exact List.forall_mem_cons.mpr ⟨by k_ne, List.forall_mem_cons.mpr ⟨by k_ne, tbn_neAll lx⟩⟩
      · exact List.forall_mem_cons.mpr ⟨by k_ne, List.forall_mem_cons.mpr ⟨by k_ne, tbn_neAll l3⟩⟩
      · exact sub_cons (sub_cons fun p hp => (List.mem_append.mp hp).elim (fun h => List.mem_append_left _ h) fun h => List.mem_append_right _ (.tail _ (hz p h)))
      · exact sub_cons (sub_cons (sub_app (sub_cons sub_refl)))
      · exact fun q hq => tb_ltOf l3 q (List.mem_append_right _ (.tail _ hq))
      intro root2 e2 tc2 ts2 to2 t2 n2 ls2 vs2 tl2 h'' tk'' F4 N4 k1 k2 tr4 hv4 he4 hfe2
      k_steps
      show LeaveK h₀ L m g (back Q E) _ _
      refine leaveK_ F4 N4 fun F8 N8 => ret _ ((x', vecObj dx' (.int (32 * ls2.length + vs2.length : Nat) tc2) root2 (.int (5 * (e2 + 1) : Nat) ts2) (.ref t2) (.int (32 * ls2.length : Nat) to2)) :: (t2, W.listOf vs2.toArray n2) :: (dx', dictOf [] 0) :: (tl2 ++ tl)) _ _ F8 (news_sub N8 ?_) ?_ ?_
      · intro p hp
        simp only [List.mem_cons, List.mem_append, List.cons_append] at hp ⊢
        rcases hp with h | h | h | (h | h) | h <;> simp [h]
      · intro q hq p hp
        have e1 := tb_ltOf l3 q (List.mem_append_right _ (.tail _ hq))
        simp only [List.mem_cons, List.mem_append] at hp
        rcases hp with rfl | rfl | rfl | h | h
        · exact Nat.lt_trans e1 l45
        · exact k2 q hq
        · exact Nat.lt_trans e1 l4
        · exact k1 q hq p h
        · exact l2 q (.tail _ hq) p h
      · refine ⟨x', dx', t2, e2, n2, tc2, ts2, to2, root2, ls2, vs2, rfl, ⟨.inr (.head _), .inr (.tail _ (.tail _ (.head _))), tr4.mono ?_, .inr (.tail _ (.head _)), hv4, he4⟩, ?_⟩
        · rw [← List.append_assoc]; exact sub_cons (sub_cons (sub_cons sub_refl))
        · rw [hfe2, hfe]; simp
end

section
variable {w : World} {p : Program} {loose : List Str} {mean : ExcName → Option Value} {mg mb : Str → Option Value} {A₀ A : Around} {base h₀ : Heap} {outer : List Env} {env : Env} {L : Addr}
  {m : Str → Option Value} {news Z : List (Addr × Obj)} {s : Shared} {Q E : Value → Shared → Prop} {prog : Program}

theorem empty_pv : PVat w Z 318 317 314 0 0 732 368 749 (.ref 313) [] [] :=
  ⟨.inl (by k_is), .inl (by k_is), by unfold TrAt; exact ⟨313, 0, [], rfl, .inl (by k_is), by simp, by simp, by simp, by intro k u e; simp at e⟩, .inl (by k_is), by simp, by simp⟩
theorem empty_PV : PV w Z (.ref 318) [] := ⟨_, _, _, _, _, _, _, _, _, [], [], rfl, empty_pv, rfl⟩

/-- extend upon any vector -/
theorem extend_pv {v obj : Value} {ys xs : List Value} (C : Cx w p loose mean mg mb 840 7500 A₀ A base h₀ outer env L) (F : Fr h₀ L s.heap m) (N : News h₀ L s.heap news) (hz : ∀ p ∈ Z, p ∈ news) (P : PV w Z v ys) (ho : SeqLike w news obj xs) (hlen : ys.length + xs.length ≤ 90000)
    (ret : ∀ r tl h' tk', Fr h₀ L h' m → News h₀ L h' (tl ++ news) → Newer news tl → PV w (tl ++ Z) r (ys ++ xs) → Q r { s with heap := h', toks := tk' }) :
    wpAny (model prog w) A (call (.ref 263) [v, obj]) Q E s := by
  obtain ⟨x, dx, t, e, n, tc, ts, to, root, ls, vs, rfl, P, rfl⟩ := P
  have hfl := flat_len P.tree.leaf
  rw [List.length_append, hfl] at hlen
  exact extend_spec C F N hz P ho hlen ret

set_option maxHeartbeats 2000000 in
theorem pvec_spec {obj : Value} {xs : List Value} (C : Cx w p loose mean mg mb 830 7400 A₀ A base h₀ outer env L) (F : Fr h₀ L s.heap m) (N : News h₀ L s.heap news) (ho : SeqLike w news obj xs) (hlen : xs.length ≤ 90000)
    (ret : ∀ r tl h' tk', Fr h₀ L h' m → News h₀ L h' (tl ++ news) → Newer news tl → PV w tl r xs → Q r { s with heap := h', toks := tk' }) :
    wpAny (model prog w) A (call (.ref 327) [obj]) Q E s := by
  refine enter [("iterable", obj)] C F N (by k_is) (by k_is) (by decide) (binds_K (C.X.keeps F.keep) rfl (by k_is) rfl rfl rfl) (locs rfl) ?_ rfl rfl rfl (by decide)
  intro g L' h₁ FG F' N' B' X' T' lt
  try k_fold
  k_steps
  refine extend_pv (Z := []) ⟨B', X', T', rfl, rfl, rfl, rfl, Nat.le_of_ble_eq_true rfl, Nat.le_of_ble_eq_true rfl⟩ F' N' (fun _ h => nomatch h) empty_PV ho (by simpa using hlen) ?_
  intro r tl h' tk' F9 N9 l9 P9
  k_steps
  show LeaveK h₀ L m g (back Q E) _ _
  exact leaveK_ F9 N9 fun F8 N8 => ret _ _ _ _ F8 N8 l9 (by simpa using P9)

set_option maxHeartbeats 2000000 in
theorem len_spec {v : Value} {xs : List Value} (C : Cx w p loose mean mg mb 890 7900 A₀ A base h₀ outer env L) (F : Fr h₀ L s.heap m) (N : News h₀ L s.heap news) (hz : ∀ p ∈ Z, p ∈ news) (P : PV w Z v xs)
    (ret : ∀ h' tk tk', Fr h₀ L h' m → News h₀ L h' news → Q (.int (xs.length : Nat) tk) { s with heap := h', toks := tk' }) :
    wpAny (model prog w) A (call (.ref 85) [v]) Q E s := by
  obtain ⟨x, dx, t, e, n, tc, ts, to, root, ls, vs, rfl, ⟨po, pd, pt, pl, plen, pe⟩, rfl⟩ := P
  refine enter [("self", .ref x)] C F N (by k_is) (by k_is) (by decide) (BindsTo.of_eq rfl) (locs rfl) ?_ rfl rfl rfl (by decide)
  intro g L' h₁ FG F' N' B' X' T' lt
  try k_fold
  have hfl := flat_len pt.leaf
  k_steps
  show LeaveK h₀ L m g (back Q E) _ _
  rw [show 32 * ls.length + vs.length = (ls.flatten ++ vs).length by rw [List.length_append, hfl]]
  exact leaveK_ F' N' fun F8 N8 => ret _ _ _ F8 N8

set_option maxHeartbeats 2000000 in
theorem add_spec {v obj : Value} {ys xs : List Value} (C : Cx w p loose mean mg mb 830 7400 A₀ A base h₀ outer env L) (F : Fr h₀ L s.heap m) (N : News h₀ L s.heap news) (hz : ∀ p ∈ Z, p ∈ news) (P : PV w Z v ys) (ho : SeqLike w news obj xs) (hlen : ys.length + xs.length ≤ 90000)
    (ret : ∀ r tl h' tk', Fr h₀ L h' m → News h₀ L h' (tl ++ news) → Newer news tl → PV w (tl ++ Z) r (ys ++ xs) → Q r { s with heap := h', toks := tk' }) :
    wpAny (model prog w) A (call (.ref 99) [v, obj]) Q E s := by
  have P' := P
  obtain ⟨x, dx, t, e, n, tc, ts, to, root, ls, vs, rfl, ⟨po, pd, pt, pl, plen, pe⟩, rfl⟩ := P
  refine enter [("self", .ref x), ("other", obj)] C F N (by k_is) (by k_is) (by decide) (BindsTo.of_eq rfl) (locs rfl) ?_ rfl rfl rfl (by decide)
  intro g L' h₁ FG F' N' B' X' T' lt
  try k_fold
  k_steps
  refine extend_pv ⟨B', X', T', rfl, rfl, rfl, rfl, Nat.le_of_ble_eq_true rfl, Nat.le_of_ble_eq_true rfl⟩ F' N' hz P' ho hlen ?_
  intro r tl h' tk' F9 N9 l9 P9
  k_steps
  show LeaveK h₀ L m g (back Q E) _ _
  exact leaveK_ F9 N9 fun F8 N8 => ret _ _ _ _ F8 N8 l9 P9

theorem rep_arr (vs : List Value) (k : Nat) : List.foldl (fun x1 x2 => x1 ++ x2) (#[] : Array Value) (List.replicate (if vs.toArray.isEmpty = true then 0 else k) vs.toArray) = ((List.replicate k vs).flatten).toArray := by
  have go : ∀ (k : Nat) (a : List Value), List.foldl (fun x1 x2 => x1 ++ x2) a.toArray (List.replicate k vs.toArray) = (a ++ (List.replicate k vs).flatten).toArray := by
    intro k
    induction k with
    | zero => intro a; simp
    | succ k ih => intro a; rw [List.replicate_succ, List.foldl_cons, List.append_toArray, ih, List.replicate_succ, List.flatten_cons, List.append_assoc]
  cases vs with
  | nil => have : (List.replicate k ([] : List Value)).flatten = [] := by induction k <;> simp
           simp [this]
  | cons v vs => have := go k []; simpa using this
theorem mulr_list {l : Addr} {vs : List Value} {n : Nat} {k : Int} {u : Tok} (F : Fr h₀ L s.heap m) (N : News h₀ L s.heap news) (hl : s.heap.get? l = some (W.listOf vs.toArray n)) (hlo : -1000 ≤ k) (hk : k ≤ 10) (hn : vs.length ≤ 100000)
    (h : ∀ D h', Fr h₀ L h' m → News h₀ L h' ((D, W.listOf (List.replicate k.toNat vs).flatten.toArray 0) :: news) → AllLt D news → Q (.ref D) { s with heap := h' }) : wpAny (model prog w) A (binaryOp .Mult (.int k u) (.ref l)) Q E s := by
  have hm : vs.toArray.size * k.toNat ≤ 100000 * 10 := Nat.mul_le_mul (by simpa using hn) (by omega)
  refine mul_list_r F N hl (by omega) (by omega) (by omega) fun h' F' N' => h _ h' F' ?_ (allLt_of fun p hp => Heap.lt_size (N p hp).1)
  rw [rep_arr] at N'
  exact N'
theorem mull_list {l : Addr} {vs : List Value} {n : Nat} {k : Int} {u : Tok} (F : Fr h₀ L s.heap m) (N : News h₀ L s.heap news) (hl : s.heap.get? l = some (W.listOf vs.toArray n)) (hlo : -1000 ≤ k) (hk : k ≤ 10) (hn : vs.length ≤ 100000)
    (h : ∀ D h', Fr h₀ L h' m → News h₀ L h' ((D, W.listOf (List.replicate k.toNat vs).flatten.toArray 0) :: news) → AllLt D news → Q (.ref D) { s with heap := h' }) : wpAny (model prog w) A (binaryOp .Mult (.ref l) (.int k u)) Q E s := by
  have hm : vs.toArray.size * k.toNat ≤ 100000 * 10 := Nat.mul_le_mul (by simpa using hn) (by omega)
  refine mul_list F N hl (by omega) (by omega) (by omega) fun h' F' N' => h _ h' F' ?_ (allLt_of fun p hp => Heap.lt_size (N p hp).1)
  rw [rep_arr] at N'
  exact N'
theorem rep_len (xs : List Value) (k : Nat) : (List.replicate k xs).flatten.length = k * xs.length := by
  induction k with
  | zero => simp
  | succ k ih => rw [List.replicate_succ, List.flatten_cons, List.length_append, ih, Nat.add_mul]; omega
theorem empty_of {h : Heap} {x dx t : Addr} {e : Nat} {tc ts to : Tok} {root : Value} {ls : List (List Value)} {vs : List Value} (X : (hd.heap_39 w.params).In h₀) (N : News h₀ L h news) (hz : ∀ p ∈ Z, p ∈ news) (hx : x = 318)
    (po : Has w Z x (vecObj dx (.int (32 * ls.length + vs.length : Nat) tc) root (.int (5 * (e + 1) : Nat) ts) (.ref t) (.int (32 * ls.length : Nat) to))) : ls.flatten ++ vs = [] := by
  subst hx
  have hE : (hd.heap_39 w.params).lookup 318 = some (vecObj 317 (.int 0 732) (.ref 313) (.int 5 368) (.ref 314) (.int 0 749)) := by k_is
  rcases po with q | q
  · rw [hE] at q
    have q1 := congrArg (fun o : Obj => o.slots[0]?) (Option.some.inj q)
    simp only [List.getElem?_toArray] at q1
    injection q1 with q1
    injection q1 with q1
    injection q1 with q1 _
    have : ls = [] := by cases ls with | nil => rfl | cons a b => simp at q1; omega
    have : vs = [] := by cases vs with | nil => rfl | cons a b => simp at q1; omega
    subst_vars; rfl
  · have := (N _ (hz _ q)).2.2; rw [X _ _ hE] at this; cases this
set_option maxHeartbeats 2000000 in
theorem mul_spec {v : Value} {xs : List Value} {k : Int} {tk : Tok} (C : Cx w p loose mean mg mb 830 7400 A₀ A base h₀ outer env L) (F : Fr h₀ L s.heap m) (N : News h₀ L s.heap news) (hz : ∀ p ∈ Z, p ∈ news) (P : PV w Z v xs) (hlen : xs.length ≤ 5000) (hk : k ≤ 10)
    (ret : ∀ r tl h' tk', Fr h₀ L h' m → News h₀ L h' (tl ++ news) → Newer news tl → PV w (tl ++ Z) r (List.replicate k.toNat xs).flatten → Q r { s with heap := h', toks := tk' }) :
    wpAny (model prog w) A (call (.ref 169) [v, .int k tk]) Q E s := by
  have P' := P
  obtain ⟨x, dx, t, e, n, tc, ts, to, root, ls, vs, rfl, ⟨po, pd, pt, pl, plen, pe⟩, rfl⟩ := P
  refine enter [("self", .ref x), ("times", .int k tk)] C F N (by k_is) (by k_is) (by decide) (BindsTo.of_eq rfl) (locs rfl) ?_ rfl rfl rfl (by decide)
  intro g L' h₁ FG F' N' B' X' T' lt
  try k_fold
  k_steps
  have hfl := flat_len pt.leaf
  rcases Int.lt_or_le 0 k with h0 | h0
  · show ite _ _ _
    refine ite_neg (by rw [decide_eq_true_eq]; omega) ?_
    k_steps
    by_cases hx : x = 318
    · have hemp := empty_of X' N' hz hx po
      subst hx
      refine wpAny_is_ref_self ?_
      k_steps
      show LeaveK h₀ L m g (back Q E) _ _
      refine leaveK_ F' N' fun F8 N8 => ret _ [] _ _ F8 N8 Newer.nil ?_
      rw [hemp, List.eq_nil_of_length_eq_zero (by rw [rep_len]; simp : ((List.replicate k.toNat ([] : List Value)).flatten).length = 0)]
      exact empty_PV
    · have hE : h₁.get? 318 = some (vecObj 317 (.int 0 732) (.ref 313) (.int 5 368) (.ref 314) (.int 0 749)) := (X'.keeps F'.keep) _ _ (by k_is)
      refine kto_is (po.get X' F' N' hz) hE hx (by intro q; cases q) ?_
      k_steps
      by_cases hk1 : k = 1
      · subst hk1
        show ite _ _ _
        refine ite_pos (by decide) ?_
        k_steps
        show LeaveK h₀ L m g (back Q E) _ _
        refine leaveK_ F' N' fun F8 N8 => ret _ [] _ _ F8 N8 Newer.nil ?_
        simpa using P'
      · show ite _ _ _
        refine ite_neg (by rw [beq_iff_eq]; exact hk1) ?_
        rw [List.length_append, hfl] at hlen
        k_steps
        refine tolist_spec ⟨B', X', T', rfl, rfl, rfl, rfl, Nat.le_of_ble_eq_true rfl, Nat.le_of_ble_eq_true rfl⟩ F' N' hz ⟨po, pd, pt, pl, plen, pe⟩ (by omega) ?_
        intro l nl h' tk' F9 N9 l9
        refine mulr_list F9 N9 (N9 _ (.head _)).1 (by omega) hk (by rw [List.length_append, hfl]; omega) fun D h'' F8 N8 l8 => ?_
        k_steps
        have hrl := rep_len (ls.flatten ++ vs) k.toNat
        have hml : k.toNat * (ls.flatten ++ vs).length ≤ 10 * 5000 := Nat.mul_le_mul (by omega) (by rw [List.length_append, hfl]; omega)
        refine extend_pv (Z := []) (obj := .ref D) ⟨B', X', T', rfl, rfl, rfl, rfl, Nat.le_of_ble_eq_true rfl, Nat.le_of_ble_eq_true rfl⟩ F8 N8 (fun _ h => nomatch h) empty_PV (.inl ⟨D, 0, rfl, .inr (.head _)⟩) (by simp only [List.length_nil]; omega) ?_
        intro r tl h3 tk3 F7 N7 l7 P7
        k_steps
        show LeaveK h₀ L m g (back Q E) _ _
        refine leaveK_ F7 N7 fun F6 N6 => ret _ tl _ _ F6 (news_sub N6 ?_) ?_ ?_
        · exact fun p hp => (List.mem_append.mp hp).elim (fun h => List.mem_append_left _ h) fun h => List.mem_append_right _ (.tail _ (.tail _ h))
        · exact fun q hq p hp => l7 q (.tail _ (.tail _ hq)) p hp
        · exact (by simpa using P7 : PV w tl r _).mono (sub_appl sub_refl)
  · show ite _ _ _
    refine ite_pos (by rw [decide_eq_true_eq]; omega) ?_
    k_steps
    show LeaveK h₀ L m g (back Q E) _ _
    refine leaveK_ F' N' fun F8 N8 => ret _ [] _ _ F8 N8 Newer.nil ?_
    rw [Int.toNat_of_nonpos h0]
    exact empty_PV
end

section
variable {prog : Program} {w : World} {A : Around} {E : Value → Shared → Prop} {s : Shared} {env : Env} {h₀ : Heap} {x : Str} {body : List Stmt} {Q : Flow → Shared → Prop}
/-- a for over a range; the ledger's addresses stay the same -/
theorem iter_range {r : Addr} {a b c : Int} {t u v : Tok} {n : Nat} {news₀ : List (Addr × Obj)} {m₀ : Str → Option Value} (J : Nat → (Str → Option Value) → List (Addr × Obj) → Prop)
    (hh : A.handled = none) (hr : IsRange s.heap r a b c t u v) (hsmall : Builtin.Range.small a b c = true) (hn : Builtin.Range.rangeSize a b c = n) (F : Fr h₀ env.locals s.heap m₀) (N : News h₀ env.locals s.heap news₀) (h0 : J 0 m₀ news₀)
    (hA : ∀ i m₁ news₁, J i m₁ news₁ → ∀ p ∈ news₁, ∃ q ∈ news₀, p.1 = q.1)
    (turn : ∀ i tv m₁ news₁ h tk own, i < n → J i m₁ news₁ → (∀ p ∈ own, ∀ q ∈ news₀, q.1 ≠ p.1) → Fr h₀ env.locals h (fun y => if y = x then some (.int (a + i * c) tv) else m₁ y) → News h₀ env.locals h (own ++ news₁) →
      wpAny (model prog w) A (execs body env) (TurnPost h₀ env.locals (J (i + 1)) own s Q) E { s with heap := h, toks := tk })
    (done : ∀ m₁ news₁ h tk, J n m₁ news₁ → Fr h₀ env.locals h m₁ → News h₀ env.locals h news₁ → Q .next { s with heap := h, toks := tk }) :
    wpAny (model prog w) A (pyIter (.ref r)) (fun it s₂ => LoopAtV prog w A h₀ env x body Q E it s₂) E s := by
  refine wpAny_pyIter_range hr hsmall ?_
  have W := Walks.range (prog := prog) (w := w) hh s.heap.objs.size a c n
  have off : ∀ i m₁ news₁, J i m₁ news₁ → ∀ p ∈ news₁, p.1 ∉ [s.heap.objs.size] := fun i m₁ news₁ hj p hp hI => by
    obtain ⟨q, hq, e⟩ := hA i m₁ news₁ hj p hp
    exact absurd (Heap.lt_size (N q hq).1) (e ▸ (List.mem_singleton.mp hI) ▸ Nat.lt_irrefl _)
  refine ⟨_, _, _, _, _, _, m₀, news₀, J, rfl, W, ?_, ?_, off 0 _ _ h0, ?_, F.push _, (fun p hp => ⟨Heap.get?_push_of_some _ (N p hp).1, (N p hp).2⟩), h0, ?_, ?_⟩
  · intro hm
    exact absurd F.ns.lt ((List.mem_singleton.mp hm) ▸ Nat.lt_irrefl _)
  · intro b hb
    rw [List.mem_singleton.mp hb]
    exact next_is_new F
  · rw [hn]
    have e1 : a + ((0 : Nat) : Int) * c = a := by simp
    have e2 : (n : Int) - ((0 : Nat) : Int) = n := by simp
    rw [e1, e2]
    exact Heap.get?_push_size _ rfl
  · rintro i v' m₁ news₁ s₁ own ⟨hh', tk', rfl⟩ hin ⟨tv, rfl⟩ hJ hoff hfp _ _ _ F₁ N₁
    refine wpAny_mono (turn i tv m₁ news₁ hh' tk' own hin hJ (fun p hp q hq q' => ?_) F₁ N₁) (fun f s₂ p => ?_) fun _ _ e => e
    · exact absurd (Heap.lt_size (N q hq).1) (q' ▸ (List.mem_singleton.mp (hfp p hp)) ▸ Nat.lt_irrefl _)
    · cases f with
      | ret v => exact .ret p
      | brk => exact .brk p
      | next => obtain ⟨h', tk, m', news', rfl, F', N', hj⟩ := p; exact .next ⟨rfl, h', tk, m', news', rfl, F', N', off _ _ _ hj, hj⟩
      | cont => obtain ⟨h', tk, m', news', rfl, F', N', hj⟩ := p; exact .cont ⟨rfl, h', tk, m', news', rfl, F', N', off _ _ _ hj, hj⟩
  · rintro h' tk m' news' F' N' _ hJ
    exact done m' news' h' tk hJ F' N'
/-- the same, the body turning one name; the ledger stands -/
theorem iter_range1 {y₀ : Str} {v₀ : Value} {r : Addr} {a b c : Int} {t u v : Tok} {n : Nat} {news₀ : List (Addr × Obj)} {m₀ : Str → Option Value} (J : Nat → Value → Prop)
    (hh : A.handled = none) (hr : IsRange s.heap r a b c t u v) (hsmall : Builtin.Range.small a b c = true) (hn : Builtin.Range.rangeSize a b c = n) (F : Fr h₀ env.locals s.heap m₀) (N : News h₀ env.locals s.heap news₀) (hv : m₀ y₀ = some v₀) (h0 : J 0 v₀)
    (turn : ∀ i tv v u h tk own, i < n → J i v → Fr h₀ env.locals h (fun k => if k = x then some (.int (a + i * c) tv) else if k = y₀ then some v else if k = x then u else m₀ k) → News h₀ env.locals h (own ++ news₀) →
      wpAny (model prog w) A (execs body env) (TurnPost h₀ env.locals (fun m' news' => news' = news₀ ∧ ∃ v', m' = (fun k => if k = y₀ then some v' else if k = x then some (.int (a + i * c) tv) else if k = y₀ then some v else if k = x then u else m₀ k) ∧ J (i + 1) v') own s Q) E { s with heap := h, toks := tk })
    (done : ∀ v u h tk, J n v → Fr h₀ env.locals h (fun k => if k = y₀ then some v else if k = x then u else m₀ k) → News h₀ env.locals h news₀ → Q .next { s with heap := h, toks := tk }) :
    wpAny (model prog w) A (pyIter (.ref r)) (fun it s₂ => LoopAtV prog w A h₀ env x body Q E it s₂) E s := by
  refine iter_range (J := fun i m₁ news₁ => news₁ = news₀ ∧ ∃ v u, m₁ = (fun k => if k = y₀ then some v else if k = x then u else m₀ k) ∧ J i v) hh hr hsmall hn F N ⟨rfl, v₀, m₀ x, ?_, h0⟩ ?_ ?_ ?_
  · funext k; by_cases h : k = y₀ <;> by_cases h' : k = x <;> simp_all
  · rintro i m₁ news₁ ⟨rfl, _⟩ p hp; exact ⟨p, hp, rfl⟩
  · rintro i tv m₁ news₁ h tk own hi ⟨rfl, v, u, rfl, hj⟩ _ F₁ N₁
    refine wpAny_mono (turn i tv v u h tk own hi hj F₁ N₁) (fun f s₂ p => ?_) fun _ _ e => e
    have fin : TurnEnd h₀ env.locals (fun m' news' => news' = news₁ ∧ ∃ v', m' = (fun k => if k = y₀ then some v' else if k = x then some (.int (a + i * c) tv) else if k = y₀ then some v else if k = x then u else m₀ k) ∧ J (i + 1) v') own s s₂ →
        TurnEnd h₀ env.locals (fun m₁ news₂ => news₂ = news₁ ∧ ∃ v u, m₁ = (fun k => if k = y₀ then some v else if k = x then u else m₀ k) ∧ J (i + 1) v) own s s₂ := by
      rintro ⟨h', tk', m', news', e, F', N', e2, v', rfl, hj'⟩
      refine ⟨h', tk', _, news', e, F', N', e2, v', some (.int (a + i * c) tv), ?_, hj'⟩
      funext k; by_cases h : k = y₀ <;> by_cases h' : k = x <;> simp [h, h']
    cases f with
    | ret v => exact p
    | brk => exact p
    | next => exact fin p
    | cont => exact fin p
  · rintro m₁ news₁ h tk ⟨rfl, v, u, rfl, hj⟩ F₁ N₁
    exact done v u h tk hj F₁ N₁
end
theorem flat_get {ls : List (List Value)} (h : ∀ l ∈ ls, l.length = 32) {i : Nat} {l : List Value} (hl : ls[i / 32]? = some l) : l[i % 32]? = ls.flatten[i]? := by
  induction ls generalizing i with
  | nil => simp at hl
  | cons a r ih =>
    have ha := h a (.head _)
    rw [List.flatten_cons]
    rcases Nat.lt_or_ge i 32 with hi | hi
    · rw [show i / 32 = 0 by omega] at hl
      cases hl
      rw [List.getElem?_append_left (by omega), Nat.mod_eq_of_lt hi]
    · rw [List.getElem?_append_right (by omega), ha]
      rw [show i / 32 = (i - 32) / 32 + 1 by omega, List.getElem?_cons_succ] at hl
      rw [← ih (fun l hl => h l (.tail _ hl)) hl]
      congr 1
      omega
theorem set2 {m : Str → Option Value} {a b : Str} {x y z u : Option Value} : (fun k => if k = a then x else if k = b then y else if k = a then z else if k = b then u else m k) = fun k => if k = a then x else if k = b then y else m k := by
  funext k; by_cases h : k = a <;> by_cases h' : k = b <;> simp [h, h']
theorem rng_ok {e : Nat} (he : e ≤ 2) : Builtin.Range.small ((5 * (e + 1) : Nat) : Int) 0 (-5) = true ∧ Builtin.Range.rangeSize ((5 * (e + 1) : Nat) : Int) 0 (-5) = (e + 1 : Nat) := by
  obtain rfl | rfl | rfl : e = 0 ∨ e = 1 ∨ e = 2 := by omega
  all_goals exact ⟨by decide, by decide⟩
/-- one step down a node -/
theorem TrAt.down {w : World} {Z : List (Addr × Obj)} {d j : Nat} {v : Value} {ls : List (List Value)} {l : List Value} (h : TrAt w Z (d + 1) v ls) (hj : ls[j % 32 ^ (d + 1)]? = some l) :
    ∃ (a : Addr) (n : Nat) (us : List Value) (u : Value) (sub : List (List Value)), v = .ref a ∧ Has w Z a (W.listOf us.toArray n) ∧ us.length ≤ 32 ∧ us[j / 32 ^ d % 32]? = some u ∧ TrAt w Z d u sub ∧ sub[j % 32 ^ d]? = some l := by
  unfold TrAt at h
  obtain ⟨a, n, us, rfl, h2, h3, h4, h5, h6⟩ := h
  have hP := pow32_pos d
  have e1 : j / 32 ^ d % 32 = j % 32 ^ (d + 1) / 32 ^ d := by rw [Nat.pow_succ, Nat.mod_mul_right_div_self]
  have e2 : j % 32 ^ d = j % 32 ^ (d + 1) % 32 ^ d := (Nat.mod_mod_of_dvd j ⟨32, Nat.pow_succ _ _⟩).symm
  generalize j % 32 ^ (d + 1) = q at *
  rw [e1, e2]
  have hq : q < ls.length := by
    rcases Nat.lt_or_ge q ls.length with h | h
    · exact h
    · rw [List.getElem?_eq_none h] at hj; cases hj
  have hk : q / 32 ^ d < us.length := (Nat.div_lt_iff_lt_mul hP).mpr (by omega)
  have hd := Nat.div_add_mod q (32 ^ d)
  rw [Nat.mul_comm] at hd
  refine ⟨a, n, us, us[q / 32 ^ d], _, rfl, h2, us_le hP h4 (by rw [Nat.pow_succ] at h3; omega), List.getElem?_eq_getElem hk, h6 _ _ (List.getElem?_eq_getElem hk), ?_⟩
  rw [List.getElem?_take_of_lt (Nat.mod_lt _ hP), List.getElem?_drop, hd]
  exact hj
/-- an exception of a built-in class is in flight: it left a def that was called in this frame -/
def Raised (base h₀ : Heap) (L : Addr) (m : Str → Option Value) (env : Env) (outer : List Env) (news : List (Addr × Obj)) (X : String) (s : Shared) (e : Value) (s' : Shared) : Prop :=
  ∃ G a h' tk, e = .ref a ∧ s' = { s with heap := h', toks := tk } ∧ Fr h₀ L G m ∧ RaisedSN base G (env :: outer) a (.type X) news h' ∧ G.UpToSlots h'
theorem raisedSN_sub {base G h : Heap} {l : List Env} {e : Addr} {cls : Value} {news news' : List (Addr × Obj)} (R : RaisedSN base G l e cls news h) (hs : ∀ p ∈ news', p ∈ news) : RaisedSN base G l e cls news' h :=
  let ⟨B, a0, h1, h2, h3, h4⟩ := R; ⟨B, a0, h1, h2, fun q hq => h3 q (hs q hq), h4⟩
theorem raised_new {M : Model} {A₁ : Around} {E E' : Value → Shared → Prop} {s s' : Shared} {base g h h₀ : Heap} {outer : List Env} {env : Env} {L L' a x : Addr} {m m' : Str → Option Value} {name : Str} {scope : Scope} {cd : Value} {news news' : List (Addr × Obj)} {X : String} {hp : Heap} {tk : Nat}
    (B' : Below A₁ base (env :: outer) g) (FG : Fr h₀ L g m) (hx : Heap.NewExc h s'.heap x X) (F : Fr g L' h m') (N : News g L' h news') (hs : ∀ p ∈ news, p ∈ news') (es : s' = { s with heap := hp, toks := tk })
    (rs : ∀ e s', Raised base h₀ L m env outer news X s e s' → E e s') (hk : scope.kind = .function := by rfl) :
    wpAny M (A₁.deeper (envOf name scope L' a cd)) (leaving (envOf name scope L' a cd) (.ref x)) (fun _ s'' => E (.ref x) s'') E' s' :=
  leave_newS B' hx F N (fun h9 R9 _ U9 => rs _ _ ⟨g, _, h9, tk, rfl, by rw [es], FG, raisedSN_sub R9 hs, U9⟩) hk
theorem raised_on {M : Model} {A₁ : Around} {E E' : Value → Shared → Prop} {s s₁ s' : Shared} {base g h₀ : Heap} {outer : List Env} {env : Env} {L L' a : Addr} {m m' : Str → Option Value} {name : Str} {scope : Scope} {cd e : Value} {news news' : List (Addr × Obj)} {X : String} {hp : Heap} {tk : Nat}
    (B' : Below A₁ base (env :: outer) g) (FG : Fr h₀ L g m) (R : Raised base g L' m' (envOf name scope L' a cd) (env :: outer) news' X s₁ e s') (hs : ∀ p ∈ news, p ∈ news') (es : s₁ = { s with heap := hp, toks := tk })
    (rs : ∀ e s', Raised base h₀ L m env outer news X s e s' → E e s') :
    wpAny M (A₁.deeper (envOf name scope L' a cd)) (leaving (envOf name scope L' a cd) e) (fun _ s'' => E e s'') E' s' := by
  obtain ⟨G, x, h', tk', rfl, rfl, F', R', U'⟩ := R
  subst es
  exact leave_onSN B' F' R' U' fun h9 R9 _ U9 => rs _ _ ⟨g, x, h9, tk', rfl, rfl, FG, raisedSN_sub R9 hs, U9⟩
local macro_rules | `(tactic| walk_at "leaving ref") => `(tactic| (with_reducible refine st_e ?_))
section
variable {w : World} {p : Program} {loose : List Str} {mean : ExcName → Option Value} {mg mb : Str → Option Value} {A₀ A : Around} {base h₀ : Heap} {outer : List Env} {env : Env} {L : Addr}
  {m : Str → Option Value} {news Z : List (Addr × Obj)} {s : Shared} {Q E : Value → Shared → Prop} {prog : Program}

set_option maxHeartbeats 2000000 in
theorem node_spec {x dx t : Addr} {e n : Nat} {tc ts to : Tok} {root : Value} {ls : List (List Value)} {vs : List Value} {i : Int} {tk : Tok}
    (C : Cx w p loose mean mg mb 880 7800 A₀ A base h₀ outer env L) (F : Fr h₀ L s.heap m) (N : News h₀ L s.heap news) (hz : ∀ p ∈ Z, p ∈ news) (P : PVat w Z x dx t e n tc ts to root ls vs) (hi : -100000 ≤ i) (hi2 : i ≤ 100000) (hls : ls.length ≤ 10000)
    (ret : ∀ v (l : List Value) h' tk', 0 ≤ i → (∃ a n, v = .ref a ∧ Has w Z a (W.listOf l.toArray n)) → l[i.toNat % 32]? = (ls.flatten ++ vs)[i.toNat]? → i < (ls.flatten ++ vs).length → Fr h₀ L h' m → News h₀ L h' news → Q v { s with heap := h', toks := tk' })
    (rs : (i < 0 ∨ (ls.flatten ++ vs).length ≤ i) → ∀ e s', Raised base h₀ L m env outer news "IndexError" s e s' → E e s') :
    wpAny (model prog w) A (call (.ref 211) [.ref x, .int i tk]) Q E s := by
  refine enter [("pvector_like", .ref x), ("i", .int i tk)] C F N (by k_is) (by k_is) (by decide) (BindsTo.of_eq rfl) (locs rfl) ?_ rfl rfl rfl (by decide)
  intro g L' h₁ FG F' N' B' X' T' lt
  try k_fold
  obtain ⟨po, pd, pt, pl, plen, pe⟩ := P
  obtain ⟨ar, rfl⟩ := pt.ref
  have hfl := flat_len pt.leaf
  have hlen : (ls.flatten ++ vs).length = 32 * ls.length + vs.length := by rw [List.length_append, hfl]
  k_steps
  rcases Int.lt_or_le i 0 with h0 | h0
  · show ite _ _ _
    refine ite_neg (by rw [decide_eq_true_eq]; omega) ?_
    k_steps
    exact raised_new B' FG (by assumption) F' N' sub_refl rfl (rs (.inl h0))
  · show ite _ _ _
    refine ite_pos (by rw [decide_eq_true_eq]; omega) ?_
    k_steps
    rcases Int.lt_or_le i ((32 * ls.length + vs.length : Nat) : Int) with h1 | h1
    · show ite _ _ _
      refine ite_pos (by rw [decide_eq_true_eq]; omega) ?_
      k_steps
      rcases Int.lt_or_le i ((32 * ls.length : Nat) : Int) with h2 | h2
      · show ite _ _ _
        refine ite_neg (by rw [decide_eq_true_eq]; omega) ?_
        k_steps
        obtain ⟨j, rfl⟩ : ∃ j : Nat, i = j := ⟨i.toNat, by omega⟩
        obtain ⟨lf, hlf⟩ : ∃ lf, ls[j / 32]? = some lf := ⟨ls[j / 32]'(by omega), by simp⟩
        have hle : ls.length ≤ 32 ^ (e + 1) := by have := pt; unfold TrAt at this; obtain ⟨_, _, _, _, _, h, _⟩ := this; exact h
        rename IsRange _ _ _ _ _ _ _ _ => hR
        rename Fr g L' _ _ => F9
        rename News g L' _ _ => N9
        refine iter_range1 (y₀ := "node") (n := e + 1) (fun k nd => ∃ sub d, d + k = e + 1 ∧ TrAt w Z d nd sub ∧ sub[j / 32 % 32 ^ d]? = some lf) rfl hR ?_ ?_ F9 N9 rfl ?_ ?_ ?_
        · exact (rng_ok pe).1
        · exact (rng_ok pe).2
        · exact ⟨ls, e + 1, rfl, pt, by rw [Nat.mod_eq_of_lt (by omega)]; exact hlf⟩
        · rintro k tv nd u h tk own hk ⟨sub, d, hd, htr, hsub⟩ F1 N1
          obtain ⟨d, rfl⟩ : ∃ d', d = d' + 1 := ⟨d - 1, by omega⟩
          obtain ⟨a2, n2, us2, u2, sub2, rfl, ha2, hus2, hu2, htr2, hsub2⟩ := htr.down hsub
          rw [show ((5 * (e + 1) : Nat) : Int) + (k : Int) * -5 = ((5 * (d + 1) : Nat) : Int) by omega] at F1 ⊢
          have hidx : Builtin.bitAnd ((j : Int).fdiv (2 ^ ((5 * (d + 1) : Nat) : Int).toNat)) 31 = ((j / 32 / 32 ^ d % 32 : Nat) : Int) := by
            rw [idx_nat, Nat.pow_succ, Nat.mul_comm (32 ^ d) 32, ← Nat.div_div_eq_div_mul]
          generalize j / 32 / 32 ^ d % 32 = kk at hidx hu2
          have hkk : kk < 32 := by
            rcases Nat.lt_or_ge kk us2.length with q | q
            · omega
            · rw [List.getElem?_eq_none q] at hu2; cases hu2
          k_steps
          rename Fr g L' _ _ => F2
          rename News g L' _ _ => N2
          exact ⟨_, _, _, _, rfl, F2, N2, rfl, u2, rfl, sub2, d, by omega, htr2, hsub2⟩
        · rintro nd u h tk ⟨sub, d, hd, htr, hsub⟩ F1 N1
          obtain rfl : d = 0 := by omega
          unfold TrAt at htr
          obtain ⟨a2, n2, l2, rfl, rfl, hl2, ha2⟩ := htr
          simp only [Nat.pow_zero, Nat.mod_one, List.getElem?_cons_zero, Option.some.injEq] at hsub
          subst hsub
          k_steps
          show LeaveK h₀ L m g (back Q E) _ _
          refine leaveK_ F1 N1 fun F8 N8 => ret _ l2 _ _ h0 ⟨a2, n2, rfl, ha2⟩ ?_ (by rw [hlen]; exact h1) F8 N8
          rw [List.getElem?_append_left (by rw [hfl]; omega)]
          exact flat_get pt.leaf hlf
      · show ite _ _ _
        refine ite_pos (by rw [decide_eq_true_eq]; omega) ?_
        k_steps
        show LeaveK h₀ L m g (back Q E) _ _
        refine leaveK_ F' N' fun F8 N8 => ret _ vs _ _ h0 ⟨t, n, rfl, pl⟩ ?_ (by rw [hlen]; exact h1) F8 N8
        rw [List.getElem?_append_right (by rw [hfl]; omega), hfl]
        congr 1
        omega
    · show ite _ _ _
      refine ite_neg (by rw [decide_eq_true_eq]; omega) ?_
      k_steps
      exact raised_new B' FG (by assumption) F' N' sub_refl rfl (rs (.inr (by rw [hlen]; exact h1)))
end

section
variable {w : World} {p : Program} {loose : List Str} {mean : ExcName → Option Value} {mg mb : Str → Option Value} {A₀ A : Around} {base h₀ : Heap} {outer : List Env} {env : Env} {L : Addr}
  {m : Str → Option Value} {news Z : List (Addr × Obj)} {s : Shared} {Q E : Value → Shared → Prop} {prog : Program}
theorem and31 {j : Int} (h : 0 ≤ j) : Builtin.bitAnd j 31 = ((j.toNat % 32 : Nat) : Int) := by rw [bitAnd_m5]; omega
theorem isi_int_slice {i : Int} {tk : Tok} (X : (hd.heap_39 w.params).In h₀) (F : Fr h₀ L s.heap m) (h : ∀ tk, Q (.bool false) { s with toks := tk }) :
    wpAny (model prog w) A (call (.builtin "isinstance") [.int i tk, .type "slice"]) Q E s := kia_one (K := hd.heap_39 w.params) kitx_int (X.keeps F.keep) trivial (by kit_is) (by intro q; cases q) h
local macro_rules | `(tactic| walk_at "call builtin:isinstance") => `(tactic| ((with_reducible show wpAny _ _ (PySem.call _ [PySem.Value.int _ _, PySem.Value.type "slice"]) _ _ _); k_dflt (refine isi_int_slice (by assumption) (by assumption) ?_); intro tk9))

set_option maxHeartbeats 2000000 in
theorem getint_spec {v : Value} {xs : List Value} {i : Int} {tk : Tok}
    (C : Cx w p loose mean mg mb 870 7700 A₀ A base h₀ outer env L) (F : Fr h₀ L s.heap m) (N : News h₀ L s.heap news) (hz : ∀ p ∈ Z, p ∈ news) (P : PV w Z v xs) (hxs : xs.length ≤ 90000) (hi : -50000 ≤ i) (hi2 : i ≤ 50000)
    (ret : ∀ x (j : Nat) h' tk', (i < 0 → (j : Int) = i + xs.length) → (0 ≤ i → (j : Int) = i) → xs[j]? = some x → Fr h₀ L h' m → News h₀ L h' news → Q x { s with heap := h', toks := tk' })
    (rs : (i < -xs.length ∨ (xs.length : Int) ≤ i) → ∀ e s', Raised base h₀ L m env outer news "IndexError" s e s' → E e s') :
    wpAny (model prog w) A (call (.ref 92) [v, .int i tk]) Q E s := by
  obtain ⟨x, dx, t, e, n, tc, ts, to, root, ls, vs, rfl, P, rfl⟩ := P
  refine enter [("self", .ref x), ("index", .int i tk)] C F N (by k_is) (by k_is) (by decide) (BindsTo.of_eq rfl) (locs rfl) ?_ rfl rfl rfl (by decide)
  intro g L' h₁ FG F' N' B' X' T' lt
  try k_fold
  obtain ⟨po, pd, pt, pl, plen, pe⟩ := id P
  have hfl := flat_len pt.leaf
  have hlen : (ls.flatten ++ vs).length = 32 * ls.length + vs.length := by rw [List.length_append, hfl]
  k_steps
  rcases Int.lt_or_le i 0 with h0 | h0
  · show ite _ _ _
    refine ite_pos (by rw [decide_eq_true_eq]; omega) ?_
    k_steps
    rename Fr g L' _ _ => F1
    rename News g L' _ _ => N1
    refine node_spec ⟨B', X', T', rfl, rfl, rfl, rfl, Nat.le_of_ble_eq_true rfl, Nat.le_of_ble_eq_true rfl⟩ F1 N1 hz P (by omega) (by omega) (by omega) ?_ ?_
    · intro v l h' tk' q0 ⟨a, na, ev, ha⟩ hget hlt F2 N2
      subst ev
      have hand := and31 q0
      obtain ⟨xv, hxv⟩ : ∃ xv, (ls.flatten ++ vs)[(i + ((32 * ls.length + vs.length : Nat) : Int)).toNat]? = some xv := ⟨(ls.flatten ++ vs)[(i + ((32 * ls.length + vs.length : Nat) : Int)).toNat]'(by omega), by simp⟩
      rw [hxv] at hget
      generalize hr : (i + ((32 * ls.length + vs.length : Nat) : Int)).toNat % 32 = rr at hand hget
      have hrr : rr < 32 := by omega
      k_steps
      show LeaveK h₀ L m g (back Q E) _ _
      exact leaveK_ F2 N2 fun F8 N8 => ret xv (i + ((32 * ls.length + vs.length : Nat) : Int)).toNat _ _ (by intro hh; rw [hlen] at hlt ⊢; omega) (by intro hh; omega) hxv F8 N8
    · intro hout e9 s9 R9
      k_steps
      exact raised_on B' FG R9 sub_refl rfl (rs (by rw [hlen] at hout ⊢; rcases hout with q | q <;> omega))
  · show ite _ _ _
    refine ite_neg (by rw [decide_eq_true_eq]; omega) ?_
    k_steps
    rename Fr g L' _ _ => F1
    rename News g L' _ _ => N1
    refine node_spec ⟨B', X', T', rfl, rfl, rfl, rfl, Nat.le_of_ble_eq_true rfl, Nat.le_of_ble_eq_true rfl⟩ F1 N1 hz P (by omega) (by omega) (by omega) ?_ ?_
    · intro v l h' tk' q0 ⟨a, na, ev, ha⟩ hget hlt F2 N2
      subst ev
      have hand := and31 q0
      obtain ⟨xv, hxv⟩ : ∃ xv, (ls.flatten ++ vs)[(i).toNat]? = some xv := ⟨(ls.flatten ++ vs)[(i).toNat]'(by omega), by simp⟩
      rw [hxv] at hget
      generalize hr : (i).toNat % 32 = rr at hand hget
      have hrr : rr < 32 := by omega
      k_steps
      show LeaveK h₀ L m g (back Q E) _ _
      exact leaveK_ F2 N2 fun F8 N8 => ret xv (i).toNat _ _ (by intro hh; omega) (by intro hh; omega) hxv F8 N8
    · intro hout e9 s9 R9
      k_steps
      exact raised_on B' FG R9 sub_refl rfl (rs (by rw [hlen] at hout ⊢; rcases hout with q | q <;> omega))
end

section
variable {prog : Program} {w : World} {A : Around} {E : Value → Shared → Prop} {h : Heap} {g : Array GenState} {d : Drawn} {t : Nat} {os : OsState} {a : Addr} {o : Obj}
theorem sl_ga : Slot "slice" "__getattribute__" "slice.__getattribute__" := .of (owner := "slice") (n := "__getattribute__") (by rw [typeLookup_type, builtinLookup_eq_fast]; kernel_rfl) (by decide +kernel) (by decide +kernel) (by decide +kernel)
  (by first | exact .inl (by decide +kernel) | exact .inr (by decide +kernel)) (by rw [isSubtype_type]; kernel_rfl)
theorem sl_entry : entryFor table "slice.__getattribute__" = some Builtin.«object.__getattribute__» := entryFor_alias (id' := "object.__getattribute__") (by kernel_rfl) (by first | rfl | decide +kernel) (by decide +kernel) (by kernel_rfl)
theorem sl_gaArgs (a b : Value) : argsOk "slice.__getattribute__" ⟨[a, b], []⟩ := by unfold argsOk; kernel_rfl
theorem sl_memset : Slot "member_descriptor" "__set__" "member_descriptor.__set__" := KF.slot_mset

theorem sl_lk_start : typeLookup (.type "slice") "start" = pure (some (.builtin "slice.start")) := by rw [typeLookup_type, builtinLookup_eq_fast]; kernel_rfl
theorem sl_ty_start : typeOf (.builtin "slice.start") = pure (.type "member_descriptor") := by show builtinType _ = _; rw [builtinType_eq_fast]; kernel_rfl
theorem sl_en_start : entryFor table "slice.start" = some Builtin.«slice.start» := entryFor_of_tree (by kernel_rfl)
theorem sl_own_start : isSubtype (.type "slice") (.type (".".intercalate ("slice.start".cutAt '.').dropLast)) = pure true := by
  rw [show ".".intercalate ("slice.start".cutAt '.').dropLast = "slice" by decide +kernel, isSubtype_type]; kernel_rfl
theorem sl_get_start {vs : Array Value} {v : Value} {R : Result → Shared → Prop} (hx : h.get? a = some { cls := .type "slice", data := .fields vs }) (hv : vs[0]? = some v) (hq : R (.ok (.ret v)) ⟨h, g, d, t, os⟩) :
    codeAny (model prog w) A (.call (.builtin "member_descriptor.__get__") ⟨[.builtin "slice.start", .ref a, .type "slice"], []⟩) R ⟨h, g, d, t, os⟩ := by
  have hT : (⟨h, g, d, t, os⟩ : Shared).TypeIs (.ref a) "slice" := ⟨_, hx, rfl⟩
  have hT5 : (⟨h, g, d, t, os⟩ : Shared).TypeIs (.builtin "slice.start") "member_descriptor" := sl_ty_start
  have f8 := sl_own_start
  refine codeAny_call_builtin KF.slot_mem.plain KF.entry_mem (KF.slot_mem.check _ _ _ _ _ _ _ _ hT5 (KF.args_mem _ _ _) ?_)
  repeat (any_goals (first | assumption | wp_step))
  refine ⟨Code.quiet_builtin _ (by decide +kernel), codeAny_builtin sl_en_start ?_⟩
  show wpAny _ _ (do ret (← field (.ref a) 0)) _ _ _
  exact wpAny_bind (wpAny_field hx rfl hv (wpAny_pure hq))
theorem sl_attr_start {vs : Array Value} {v : Value} {expr : Bool} {Q : Value → Shared → Prop} (hx : h.get? a = some { cls := .type "slice", data := .fields vs }) (hv : vs[0]? = some v) (hh : handedIn v = true) (hq : Q v ⟨h, g, d, t + 1, os⟩) :
    wpAny (model prog w) A (getAttr (.ref a) "start" expr) Q E ⟨h, g, d, t, os⟩ := by
  have hT : ∀ t', (⟨h, g, d, t', os⟩ : Shared).TypeIs (.ref a) "slice" := fun _ => ⟨_, hx, rfl⟩
  have hT5 : ∀ t', (⟨h, g, d, t', os⟩ : Shared).TypeIs (.builtin "slice.start") "member_descriptor" := fun _ => sl_ty_start
  have f2 := sl_ga.lookup
  have f4 := sl_lk_start
  have f5 := sl_ty_start
  have f6 := KF.slot_mem.lookup
  have f7 := KF.slot_mset.lookup
  have L0 : Looks (model prog w) h (typeOf (.ref a)) (.type "slice") := (Looks.ld hx).andThen .now
  unfold getAttr getAttrBy
  refine wpAny_bind (wpAny_mkText (wpAny_holding (wpAny_bind (L0.at (wpAny_bind (wpAny_of_eq f2 ?_))))))
  show wpAny _ _ (getAttrByItsOwn (.ref a) (.str "start" t) (.type "slice") (.builtin "slice.__getattribute__") true expr) _ _ _
  unfold getAttrByItsOwn hookBefore callGetattribute boundAndCalled
  refine wpAny_bind (wpAny_of_eq (show (if onTheHeap (.type "slice") then typeLookup (.type "slice") "__getattr__" else pure none) = pure none from rfl) ?_)
  refine wpAny_bind (wpAny_attempt (wpAny_holding ?_))
  rw [if_neg (by cases expr <;> decide)]
  show wpAny _ _ (bindSpecial (.builtin "slice.__getattribute__") (.ref a) >>= _) _ _ _
  refine wpAny_bind (wpAny_of_eq (sl_ga.bind _) ?_)
  refine wpAny_mono (Q := fun v' s' => v' = v ∧ s' = ⟨h, g, d, t + 1, os⟩) (E := fun _ _ => False) (wpAny_call_entry sl_ga (hT _) sl_entry ?_ (sl_gaArgs _ _)) (fun v' s' hv' => ?_) fun _ _ z => z.elim
  · have hT' := hT (t + 1)
    have hT5' := hT5 (t + 1)
    repeat (any_goals (first | assumption | wp_step))
    refine sl_get_start hx hv ?_
    repeat (any_goals (first | assumption | wp_step))
    exact ⟨_, rfl, rfl, rfl⟩
  · obtain ⟨rfl, rfl⟩ := hv'
    exact wpAny_of_eq (handedOut_of hh) hq

end

section
variable {prog : Program} {w : World} {A : Around} {E : Value → Shared → Prop} {s : Shared} {h₀ : Heap} {L : Addr} {m : Str → Option Value} {news : List (Addr × Obj)}
theorem slice_zero {l sl : Addr} {items : Array Value} {vl vu vs : Value} {Q : Value → Shared → Prop} (hA : A.handled = none) (hl : s.heap.IsList l items)
    (hs : s.heap.IsSliceOf sl vl vu vs) (ps : IsPart vs (some 0)) (hE : ∀ h' tk e, Heap.NewExc s.heap h' e "ValueError" → E (.ref e) { s with heap := h', toks := tk }) : wpAny (model prog w) A (getItem (.ref l) (.ref sl)) Q E s := by
  obtain ⟨o, ho, hc, ne, hd⟩ := id hl
  obtain ⟨os, hos, hcs, hds⟩ := id hs
  have hTs : s.TypeIs (.ref sl) "slice" := ⟨os, hos, hcs⟩
  unfold getItem
  try with_reducible refine wpAny_holding ?_
  first | refine wpAny_bind (wpAny_pure ?_) | skip
  refine wpAny_bind (wpAny_sequenceKey hl.typeIs (by decide) ?_)
  refine wpAny_bind (wpAny_callSpecial?_slot (name := Str.ofString "__getitem__") hl.typeIs slot_list_getitem
    (wpAny_call_entry slot_list_getitem hl.typeIs entry_list_getitem ?_ (args_list_getitem _ _)))
  show wpAny _ _ (Builtin.List.listSubscript? (.ref sl) >>= _) _ _ s
  refine wpAny_bind ?_
  unfold Builtin.List.listSubscript?
  refine wpAny_bind (wpAny_specialOf hTs slice_no_index ?_)
  simp only [Option.isNone_none, if_true]
  refine wpAny_pure ?_
  show wpAny _ _ (typeOf (.ref sl) >>= _) _ _ s
  refine wpAny_bind (wpAny_typeOf hTs ?_)
  rw [if_neg (by decide)]
  rw [listSliceParts_eq]
  refine wpAny_bind (wpAny_bind (wpAny_field hos hds (x := vs) rfl (wpAny_bind (wpAny_listPart ps ?_))))
  rw [if_pos (by decide)]
  exact wpAny_bind (wpAny_rule (wpAny_bind (by exact_raiseError plainExc_ValueError hA hE)))
theorem isi_sl {a : Addr} {o : Obj} {Q : Value → Shared → Prop} (hx : s.heap.get? a = some o) (hc : o.cls = .type "slice") (h : Q (.bool true) s) : wpAny (model prog w) A (call (.builtin "isinstance") [.ref a, .type "slice"]) Q E s :=
  call_isinstance (isinstance_true (Tx := "slice") (T := "slice") (by kernel_rfl) (by rw [isSubtype_type]; kernel_rfl)) ⟨⟨_, hx, hc⟩, h⟩
noncomputable abbrev sliceOf (a b c : Value) : Obj := { cls := .type "slice", data := .fields #[a, b, c] }
theorem isi_slN {a : Addr} {x y z : Value} {Q : Value → Shared → Prop} (N : News h₀ L s.heap news) (hm : (a, sliceOf x y z) ∈ news) (h : Q (.bool true) s) : wpAny (model prog w) A (call (.builtin "isinstance") [.ref a, .type "slice"]) Q E s := isi_sl (N.get hm) rfl h
theorem start_slN {a : Addr} {x y z : Value} {expr : Bool} {Q : Value → Shared → Prop} (N : News h₀ L s.heap news) (hm : (a, sliceOf x y z) ∈ news) (hh : handedIn x = true) (h : Q x { s with toks := s.toks + 1 }) : wpAny (model prog w) A (getAttr (.ref a) "start" expr) Q E s := by
  obtain ⟨hp, g, d, t, os⟩ := s
  exact sl_attr_start (N.get hm) rfl hh h
end
local macro_rules | `(tactic| walk_at "call builtin:isinstance") => `(tactic| ((with_reducible show wpAny _ _ (PySem.call _ [PySem.Value.ref _, PySem.Value.type "slice"]) _ _ _); k_dflt (refine isi_slN (by assumption) (by k_mem) ?_)))
local macro_rules | `(tactic| walk_at "getAttr ref") => `(tactic| ((with_reducible show wpAny _ _ (PySem.getAttr _ (PySem.Str.ofString "start") _) _ _ _); k_dflt (refine start_slN (by assumption) (by k_mem) (by k_handed) ?_)))
section
variable {w : World} {p : Program} {loose : List Str} {mean : ExcName → Option Value} {mg mb : Str → Option Value} {A₀ A : Around} {base h₀ : Heap} {outer : List Env} {env : Env} {L : Addr}
  {m : Str → Option Value} {news Z : List (Addr × Obj)} {s : Shared} {Q E : Value → Shared → Prop} {prog : Program}
set_option maxHeartbeats 2000000 in
theorem getslice_spec {v : Value} {xs : List Value} {sl : Addr} {a b c : Int} {ta tb tc : Tok}
    (C : Cx w p loose mean mg mb 830 7400 A₀ A base h₀ outer env L) (F : Fr h₀ L s.heap m) (N : News h₀ L s.heap news) (hz : ∀ p ∈ Z, p ∈ news) (P : PV w Z v xs) (hxs : xs.length ≤ 5000) (hsl : (sl, sliceOf (.int a ta) (.int b tb) (.int c tc)) ∈ news)
    (ret : c ≠ 0 → ∀ r tl h' tk', Fr h₀ L h' m → News h₀ L h' (tl ++ news) → Newer news tl → PV w (tl ++ Z) r (slicePick xs.toArray (some a) (some b) (some c)).toList → Q r { s with heap := h', toks := tk' })
    (rs : c = 0 → ∀ e s', Raised base h₀ L m env outer news "ValueError" s e s' → E e s') :
    wpAny (model prog w) A (call (.ref 92) [v, .ref sl]) Q E s := by
  obtain ⟨x, dx, t, e, n, tc', ts, to, root, ls, vs, rfl, P, rfl⟩ := P
  refine enter [("self", .ref x), ("index", .ref sl)] C F N (by k_is) (by k_is) (by decide) (BindsTo.of_eq rfl) (locs rfl) ?_ rfl rfl rfl (by decide)
  intro g L' h₁ FG F' N' B' X' T' lt
  try k_fold
  obtain ⟨po, pd, pt, pl, plen, pe⟩ := id P
  have hfl := flat_len pt.leaf
  have hlen : (ls.flatten ++ vs).length = 32 * ls.length + vs.length := by rw [List.length_append, hfl]
  k_steps
  rename Fr g L' _ _ => F0
  rename News g L' _ _ => N0
  refine tolist_spec ⟨B', X', T', rfl, rfl, rfl, rfl, Nat.le_of_ble_eq_true rfl, Nat.le_of_ble_eq_true rfl⟩ F0 N0 hz P (by omega) ?_
  intro l nl h' tk' F1 N1 l1
  k_steps
  have hl : h'.IsList l (ls.flatten ++ vs).toArray := ⟨_, (N1 _ (.head _)).1, rfl, nl, rfl⟩
  have hs : h'.IsSliceOf sl (.int a ta) (.int b tb) (.int c tc) := ⟨_, (N1 _ (.tail _ hsl)).1, rfl, rfl⟩
  by_cases hc : c = 0
  · subst hc
    refine tail_any hl.typeIs slot_list_getitem.lookup (slice_zero rfl hl hs (.int _ _) ?_) (by with_unfolding_all rfl)
    intro h9 tk9 e9 hx9
    k_steps
    exact raised_new B' FG hx9 F1 N1 (sub_cons sub_refl) rfl (rs rfl)
  · refine tail_any hl.typeIs slot_list_getitem.lookup (wpAny_getItem_list_slice hl hs (.int _ _) (.int _ _) (.int _ _) (by simpa using hc) ?_ (by rw [List.size_toArray, PySem.sizeLine_eq]; omega)) (by with_unfolding_all rfl)
    have N2 := N1.push F1 (W.listOf (slicePick (ls.flatten ++ vs).toArray (some a) (some b) (some c)) 0)
    have F2 := F1.push (W.listOf (slicePick (ls.flatten ++ vs).toArray (some a) (some b) (some c)) 0)
    have hsz : (slicePick (ls.flatten ++ vs).toArray (some a) (some b) (some c)).toList.length ≤ 5000 := by
      rw [Array.length_toList]
      exact Nat.le_trans (slicePick_size_le _ _ _ _) (by rw [List.size_toArray]; omega)
    k_steps
    refine extend_pv (Z := []) (xs := (slicePick (ls.flatten ++ vs).toArray (some a) (some b) (some c)).toList) ⟨B', X', T', rfl, rfl, rfl, rfl, Nat.le_of_ble_eq_true rfl, Nat.le_of_ble_eq_true rfl⟩ F2 N2 (fun _ h => nomatch h) empty_PV (.inl ⟨_, 0, rfl, .inr (.head _)⟩) (by simp only [List.length_nil]; omega) ?_
    intro r tl h3 tk3 F7 N7 l7 P7
    k_steps
    show LeaveK h₀ L m g (back Q E) _ _
    refine leaveK_ F7 N7 fun F6 N6 => ret hc _ tl _ _ F6 (news_sub N6 ?_) ?_ ?_
    · exact fun p hp => (List.mem_append.mp hp).elim (fun h => List.mem_append_left _ h) fun h => List.mem_append_right _ (.tail _ (.tail _ h))
    · exact fun q hq p hp => l7 q (.tail _ (.tail _ hq)) p hp
    · exact (by simpa using P7 : PV w tl r _).mono (sub_appl sub_refl)
end

theorem chunk_set {α : Type} {P k q : Nat} {ls : List α} {x : α} : ((ls.set q x).drop (k * P)).take P = if k * P ≤ q then ((ls.drop (k * P)).take P).set (q - k * P) x else (ls.drop (k * P)).take P := by
  rw [List.drop_set]
  by_cases h : q < k * P
  · rw [if_pos h, if_neg (by omega)]
  · rw [if_neg h, if_pos (by omega), List.take_set]
theorem tr_upd {w : World} {Z : List (Addr × Obj)} {d P q : Nat} {us : List Value} {ls : List (List Value)} {lf : List Value} {u' : Value} (hP : 0 < P) (h6 : ∀ k u, us[k]? = some u → TrAt w Z d u ((ls.drop (k * P)).take P))
    (hq : q / P < us.length) (hu : TrAt w Z d u' (((ls.drop (q / P * P)).take P).set (q % P) lf)) : ∀ j u, (us.set (q / P) u')[j]? = some u → TrAt w Z d u (((ls.set q lf).drop (j * P)).take P) := by
  intro j u e
  have hd := Nat.div_add_mod q P
  have hm := Nat.mod_lt q hP
  rw [Nat.mul_comm] at hd
  rw [chunk_set]
  by_cases h : j = q / P
  · subst h
    rw [List.getElem?_set_self hq] at e
    cases e
    rw [if_pos (by omega), show q - q / P * P = q % P by omega]
    exact hu
  · rw [List.getElem?_set_ne (fun z => h z.symm)] at e
    have := h6 j u e
    by_cases h2 : j * P ≤ q
    · rw [if_pos h2, List.set_eq_of_length_le]
      · exact this
      · have h3 : j < q / P := by
          rcases Nat.lt_trichotomy j (q / P) with h4 | h4 | h4
          · exact h4
          · exact absurd h4 h
          · have := Nat.mul_le_mul_right P (show q / P + 1 ≤ j from h4); rw [Nat.add_mul, Nat.one_mul] at this; omega
        have := Nat.mul_le_mul_right P (show j + 1 ≤ q / P from h3)
        rw [Nat.add_mul, Nat.one_mul] at this
        rw [List.length_take]
        omega
    · rw [if_neg h2]; exact this
section
variable {w : World} {p : Program} {loose : List Str} {mean : ExcName → Option Value} {mg mb : Str → Option Value} {Z : List (Addr × Obj)} {prog : Program}
set_option maxHeartbeats 2000000 in
theorem doset_spec {x dx : Addr} {c r sh t o : Value} {val : Value} {i : Nat} : ∀ (d D U : Nat) {A₀ A : Around} {base h₀ : Heap} {outer : List Env} {env : Env} {L : Addr} {m : Str → Option Value} {s : Shared} {Q E : Value → Shared → Prop} {tk ti : Tok} {node : Value} {ls : List (List Value)} {lf : List Value} {news : List (Addr × Obj)},
    Cx w p loose mean mg mb D U A₀ A base h₀ outer env L → Fr h₀ L s.heap m → News h₀ L s.heap news → D + 3 * d ≤ 900 → U + 20 * d ≤ 8000 → d ≤ 5 → i ≤ 100000 →
    Has w news x (vecObj dx c r sh t o) → Has w news dx (dictOf [] 0) → (∀ p ∈ Z, p ∈ news) → TrAt w Z d node ls → ls[i / 32 % 32 ^ d]? = some lf →
    (∀ r tl h' tk', Fr h₀ L h' m → News h₀ L h' (tl ++ news) → Newer news tl → TrAt w (tl ++ Z) d r (ls.set (i / 32 % 32 ^ d) (lf.set (i % 32) val)) → Q r { s with heap := h', toks := tk' }) →
    wpAny (model prog w) A (call (.ref 204) [.ref x, .int (5 * d : Nat) tk, node, .int (i : Nat) ti, val]) Q E s := by
  intro d
  induction d with
  | zero =>
    intro D U A₀ A base h₀ outer env L m s Q E tk ti node ls lf news C F N hD hU hd hi hs hsd hz ht hlf ret
    refine enter [("self", .ref x), ("level", .int (5 * 0 : Nat) tk), ("node", node), ("i", .int (i : Nat) ti), ("val", val)] C F N (by k_is) (by k_is) (by have := hD; show D < 1000; omega) (BindsTo.of_eq rfl) (locs rfl) ?_ rfl rfl rfl (by decide)
    intro g L' h₁ FG F' N' B' X' T' lt
    try k_fold
    unfold TrAt at ht
    obtain ⟨a, n, vs, rfl, rfl, hvs, ha⟩ := ht
    simp only [Nat.pow_zero, Nat.mod_one, List.getElem?_cons_zero, Option.some.injEq] at hlf
    subst hlf
    have hand : Builtin.bitAnd (i : Int) 31 = ((i % 32 : Nat) : Int) := by rw [bitAnd_m5]; omega
    generalize hir : i % 32 = ir at hand ret
    have hir2 : ir < 32 := by omega
    k_steps
    rename Fr g L' _ _ => F1
    rename News g L' _ _ => N1
    refine set_nat (vs := vs) F1 N1 (Upd.head (tbn_neAll (by walk_at "my lt"))) (by omega) (by omega) fun h'' F8 N8 => ?_
    k_steps
    show LeaveK h₀ L m g (back Q E) _ _
    refine leaveK_ F8 N8 fun F7 N7 => ret _ [_] _ _ F7 N7 (Newer.one (by walk_at "my lt")) ?_
    unfold TrAt
    exact ⟨_, _, vs.set ir val, rfl, by rw [Nat.pow_zero, Nat.mod_one]; rfl, by simp [hvs], .inr (.head _)⟩
  | succ d ih =>
    intro D U A₀ A base h₀ outer env L m s Q E tk ti node ls lf news C F N hD hU hd hi hs hsd hz ht hlf ret
    refine enter [("self", .ref x), ("level", .int (5 * (d + 1) : Nat) tk), ("node", node), ("i", .int (i : Nat) ti), ("val", val)] C F N (by k_is) (by k_is) (by have := hD; show D < 1000; omega) (BindsTo.of_eq rfl) (locs rfl) ?_ rfl rfl rfl (by decide)
    intro g L' h₁ FG F' N' B' X' T' lt
    try k_fold
    have ht' := ht
    unfold TrAt at ht
    obtain ⟨a, n, us, rfl, h2, h3, h4, h5, h6⟩ := ht
    have hP := pow32_pos d
    have hus : us.length ≤ 32 := us_le hP h4 (by rw [Nat.pow_succ] at h3; omega)
    have hsub : ((5 * (d + 1) : Nat) : Int) - 5 = (5 * d : Nat) := by omega
    have e1 : i / 32 / 32 ^ d % 32 = i / 32 % 32 ^ (d + 1) / 32 ^ d := by rw [Nat.pow_succ, Nat.mod_mul_right_div_self]
    have e2 : i / 32 % 32 ^ d = i / 32 % 32 ^ (d + 1) % 32 ^ d := (Nat.mod_mod_of_dvd (i / 32) ⟨32, Nat.pow_succ _ _⟩).symm
    have hidx : Builtin.bitAnd ((i : Int).fdiv (2 ^ ((5 * (d + 1) : Nat) : Int).toNat)) 31 = ((i / 32 % 32 ^ (d + 1) / 32 ^ d : Nat) : Int) := by
      rw [idx_nat, Nat.pow_succ, Nat.mul_comm (32 ^ d) 32, ← Nat.div_div_eq_div_mul, e1, Nat.pow_succ, Nat.mul_comm (32 ^ d) 32]
    have ihq := @ih
    rw [e2] at ihq
    clear ih e1
    generalize hqq : i / 32 % 32 ^ (d + 1) = q at *
    have hq : q < ls.length := by
      rcases Nat.lt_or_ge q ls.length with h | h
      · exact h
      · rw [List.getElem?_eq_none h] at hlf; cases hlf
    have hk : q / 32 ^ d < us.length := (Nat.div_lt_iff_lt_mul hP).mpr (by omega)
    have hdm := Nat.div_add_mod q (32 ^ d)
    rw [Nat.mul_comm] at hdm
    have hm := Nat.mod_lt q hP
    obtain ⟨u, hu⟩ : ∃ u, us[q / 32 ^ d]? = some u := ⟨us[q / 32 ^ d], List.getElem?_eq_getElem hk⟩
    have hlf2 : ((ls.drop (q / 32 ^ d * 32 ^ d)).take (32 ^ d))[q % 32 ^ d]? = some lf := by rw [List.getElem?_take_of_lt hm, List.getElem?_drop, hdm]; exact hlf
    have hch := h6 _ _ hu
    generalize hkk : q / 32 ^ d = k at *
    have hk32 : k < 32 := by omega
    k_steps
    rename Fr g L' _ _ => F1
    rename News g L' _ _ => N1
    refine ihq (D + 1) (U + 3) ⟨B', X', T', rfl, rfl, rfl, rfl, Nat.le_refl _, Nat.le_refl _⟩ F1 N1 (by omega) (by omega) (by omega) hi (hs.mono (sub_cons sub_refl)) (hsd.mono (sub_cons sub_refl)) (sub_cons hz) hch hlf2 ?_
    intro r tl h' tk' F9 N9 lt9 ht9
    k_steps
    refine set_nat (vs := us) F9 (news_sub N9 mem_mid) (Upd.head (ne_newer (by walk_at "my lt") lt9)) (by omega) (by omega) fun h'' F8 N8 => ?_
    k_steps
    show LeaveK h₀ L m g (back Q E) _ _
    refine leaveK_ F8 N8 fun F7 N7 => ret _ (_ :: tl) _ _ F7 N7 (Newer.mid (by walk_at "my lt") lt9) ?_
    unfold TrAt
    refine ⟨_, _, us.set k r, rfl, .inr (.head _), ?_, ?_, ?_, ?_⟩
    · rw [List.length_set]; exact h3
    · rw [List.length_set, List.length_set]; exact h4
    · rw [List.length_set, List.length_set]; exact h5
    · have hu9 := tr_upd (Z := tl ++ Z) (lf := lf.set (i % 32) val) (u' := r) (q := q) hP (fun k u e => (h6 k u e).mono (sub_app sub_refl)) (by rw [hkk]; exact hk) (by rw [hkk]; exact ht9)
      rw [hkk] at hu9
      exact fun j u e => (hu9 j u e).mono (sub_cons sub_refl)
end

local macro_rules | `(tactic| walk_at "k_dec") => `(tactic| (show ite _ _ _; first | refine ite_pos (by rw [decide_eq_true_eq]; omega) ?_ | refine ite_neg (by rw [decide_eq_true_eq]; omega) ?_ | refine ite_pos (by rw [beq_iff_eq]; omega) ?_ | refine ite_neg (by rw [beq_iff_eq]; omega) ?_))
local macro_rules | `(tactic| walk_at "k_run") => `(tactic| (try k_steps; repeat (walk_at "k_dec"; k_steps)))
theorem flat_set {ls : List (List Value)} (h : ∀ l ∈ ls, l.length = 32) {i : Nat} {l : List Value} {v : Value} (hl : ls[i / 32]? = some l) : (ls.set (i / 32) (l.set (i % 32) v)).flatten = ls.flatten.set i v := by
  induction ls generalizing i with
  | nil => simp at hl
  | cons a r ih =>
    have ha := h a (.head _)
    rw [List.flatten_cons]
    rcases Nat.lt_or_ge i 32 with hi | hi
    · rw [show i / 32 = 0 by omega] at hl ⊢
      cases hl
      rw [List.set_cons_zero, List.flatten_cons, Nat.mod_eq_of_lt hi, List.set_append_left _ _ (by omega)]
    · rw [show i / 32 = (i - 32) / 32 + 1 by omega, List.getElem?_cons_succ] at hl
      rw [show i / 32 = (i - 32) / 32 + 1 by omega, List.set_cons_succ, List.flatten_cons, List.set_append_right _ _ (by omega), ha, ← ih (fun l hl => h l (.tail _ hl)) hl, show i % 32 = (i - 32) % 32 by omega]
section
variable {w : World} {p : Program} {loose : List Str} {mean : ExcName → Option Value} {mg mb : Str → Option Value} {A₀ A : Around} {base h₀ : Heap} {outer : List Env} {env : Env} {L : Addr}
  {m : Str → Option Value} {news Z : List (Addr × Obj)} {s : Shared} {Q E : Value → Shared → Prop} {prog : Program}
theorem append_pv {v : Value} {xs : List Value} {val : Value} (C : Cx w p loose mean mg mb 860 7700 A₀ A base h₀ outer env L) (F : Fr h₀ L s.heap m) (N : News h₀ L s.heap news) (hz : ∀ p ∈ Z, p ∈ news) (P : PV w Z v xs) (hls : xs.length ≤ 90000)
    (ret : ∀ r tl h' tk', Fr h₀ L h' m → News h₀ L h' (tl ++ news) → Newer news tl → PV w (tl ++ Z) r (xs ++ [val]) → Q r { s with heap := h', toks := tk' }) :
    wpAny (model prog w) A (call (.ref 228) [v, val]) Q E s := by
  obtain ⟨x, dx, t, e, n, tc, ts, to, root, ls, vs, rfl, P, rfl⟩ := P
  have hfl := flat_len P.tree.leaf
  rw [List.length_append, hfl] at hls
  refine append_spec C F N hz P (by omega) ?_
  intro x dx t' e' n' tc ts to root' ls' vs' tl h' tk' F9 N9 l9 lt1 lt2 lt3 ht9 hv1 hv2 he hfl9
  refine ret _ (_ :: _ :: _ :: tl) _ _ F9 N9 ?_ ⟨_, _, _, _, _, _, _, _, _, ls', vs', rfl, ⟨.inr (.head _), .inr (.tail _ (.head _)), ht9.mono fun p hp => .tail _ (.tail _ (.tail _ hp)), .inr (.tail _ (.tail _ (.head _))), hv1, he⟩, hfl9.symm⟩
  exact Newer.cons ⟨lt3, Nat.lt_trans lt2 lt3, tbn_up (Nat.lt_trans lt2 lt3) lt1⟩ (Newer.cons ⟨lt2, tbn_up lt2 lt1⟩ (Newer.cons lt1 l9))

set_option maxHeartbeats 2000000 in
theorem set_spec {v : Value} {xs : List Value} {i : Int} {tk : Tok} {val : Value}
    (C : Cx w p loose mean mg mb 850 7600 A₀ A base h₀ outer env L) (F : Fr h₀ L s.heap m) (N : News h₀ L s.heap news) (hz : ∀ p ∈ Z, p ∈ news) (P : PV w Z v xs) (hxs : xs.length ≤ 90000) (hi : -50000 ≤ i) (hi2 : i ≤ 50000)
    (ret : ∀ r (j : Nat) tl h' tk', (i < 0 → (j : Int) = i + xs.length) → (0 ≤ i → (j : Int) = i) → j ≤ xs.length → Fr h₀ L h' m → News h₀ L h' (tl ++ news) → Newer news tl → PV w (tl ++ Z) r (if j < xs.length then xs.set j val else xs ++ [val]) → Q r { s with heap := h', toks := tk' })
    (rs : (i < -xs.length ∨ (xs.length : Int) < i) → ∀ e s', Raised base h₀ L m env outer news "IndexError" s e s' → E e s') :
    wpAny (model prog w) A (call (.ref 197) [v, .int i tk, val]) Q E s := by
  obtain ⟨x, dx, t, e, n, tc, ts, to, root, ls, vs, rfl, P, rfl⟩ := P
  refine enter [("self", .ref x), ("i", .int i tk), ("val", val)] C F N (by k_is) (by k_is) (by decide) (BindsTo.of_eq rfl) (locs rfl) ?_ rfl rfl rfl (by decide)
  intro g L' h₁ FG F' N' B' X' T' lt
  try k_fold
  obtain ⟨po, pd, pt, pl, plen, pe⟩ := id P
  obtain ⟨ar, rfl⟩ := pt.ref
  have hfl := flat_len pt.leaf
  have hlen : (ls.flatten ++ vs).length = 32 * ls.length + vs.length := by rw [List.length_append, hfl]
  k_steps
  rcases Int.lt_or_le i 0 with h0 | h0
  show ite _ _ _
  refine ite_pos (by rw [decide_eq_true_eq]; omega) ?_
  k_steps
  generalize hq : i + ((32 * ls.length + vs.length : Nat) : Int) = j at *
  have hneg : i < 0 → j = i + (ls.flatten ++ vs).length := fun _ => by rw [hlen, hq]
  have hpos : 0 ≤ i → j = i := fun h => by omega
  clear hq
  rotate_left
  show ite _ _ _
  refine ite_neg (by rw [decide_eq_true_eq]; omega) ?_
  k_steps
  obtain ⟨j, hj⟩ : ∃ j : Int, j = i := ⟨i, rfl⟩
  have hneg : i < 0 → j = i + (ls.flatten ++ vs).length := fun _ => by omega
  have hpos : 0 ≤ i → j = i := fun h => by omega
  rw [← hj]
  rename Fr g L' _ _ => F1
  rw [← hj] at F1
  clear hj
  all_goals
    rename Fr g L' _ _ => F1
    rename News g L' _ _ => N1
    have hj1 : -100000 ≤ j := by omega
    rcases Int.lt_or_le j 0 with h1 | h1
    · first | (exfalso; omega) | (have hj2 : j ≤ 100000 := (by omega); walk_at "k_run"; rename Fr g L' _ _ => F1; rename News g L' _ _ => N1; exact raised_new B' FG (by assumption) F1 N1 sub_refl rfl (rs (by omega)))
    rcases Int.lt_or_le ((32 * ls.length + vs.length : Nat) : Int) j with h4 | h4
    · first | (exfalso; omega) | (have hj2 : j ≤ 100000 := (by omega); walk_at "k_run"; rename Fr g L' _ _ => F1; rename News g L' _ _ => N1; exact raised_new B' FG (by assumption) F1 N1 sub_refl rfl (rs (by omega)))
    obtain ⟨j, rfl⟩ : ∃ j' : Nat, j = j' := ⟨j.toNat, by omega⟩
    rcases Nat.lt_or_ge j (32 * ls.length) with h3 | h3
    · walk_at "k_run"
      obtain ⟨lf, hlf⟩ : ∃ lf, ls[j / 32]? = some lf := ⟨ls[j / 32]'(by omega), by simp⟩
      have hle : ls.length ≤ 32 ^ (e + 1) := by have := pt; unfold TrAt at this; obtain ⟨_, _, _, _, _, h, _⟩ := this; exact h
      have hmod : j / 32 % 32 ^ (e + 1) = j / 32 := Nat.mod_eq_of_lt (by omega)
      rename Fr g L' _ _ => F1
      rename News g L' _ _ => N1
      refine doset_spec (i := j) (e + 1) 853 7610 ⟨B', X', T', rfl, rfl, rfl, rfl, Nat.le_of_ble_eq_true rfl, Nat.le_of_ble_eq_true rfl⟩ F1 N1 (by omega) (by omega) (by omega) (by omega) (po.mono hz) (pd.mono hz) hz pt (by rw [hmod]; exact hlf) ?_
      intro r tl h' tk' F9 N9 l9 ht9
      rw [hmod] at ht9
      obtain ⟨ar, rfl⟩ := ht9.ref
      k_steps
      refine new_spec (Z := _) (items := vs.toArray) ⟨B', X', T', rfl, rfl, rfl, rfl, Nat.le_of_ble_eq_true rfl, Nat.le_of_ble_eq_true rfl⟩ F9 N9 (pl.mono hz) (sub_app sub_refl) (by simp; omega) ?_
      intro x' dx' h' tk tk' F7 N7 l7 l8
      k_steps
      show LeaveK h₀ L m g (back Q E) _ _
      refine leaveK_ F7 N7 fun F8 N8 => ?_
      rw [show ((32 * ls.length + vs.length : Nat) : Int) - ((vs.toArray.size : Nat) : Int) = ((32 * ls.length : Nat) : Int) by simp] at N8
      refine ret _ j (_ :: _ :: tl) _ _ hneg hpos (by omega) F8 N8 ?_ ?_
      · exact Newer.cons ⟨l8, allLt_of fun p hp => Nat.lt_trans (l7 p hp) l8⟩ (Newer.cons (allLt_of l7) l9)
      · rw [if_pos (by omega)]
        exact ⟨_, _, t, e, n, _, _, _, _, ls.set (j / 32) (lf.set (j % 32) val), vs, rfl, ⟨by rw [List.length_set]; exact .inr (.head _), .inr (.tail _ (.head _)), ht9.mono fun p hp => .tail _ (.tail _ hp), pl.mono (sub_cons (sub_cons (sub_app sub_refl))), plen, pe⟩, by rw [flat_set pt.leaf hlf, List.set_append_left _ _ (by omega)]⟩
    rcases Nat.lt_or_ge j (32 * ls.length + vs.length) with h2 | h2
    · have hand : Builtin.bitAnd (j : Int) 31 = ((j % 32 : Nat) : Int) := by rw [bitAnd_m5]; omega
      generalize hir : j % 32 = ir at hand
      have hir2 : ir < 32 := by omega
      walk_at "k_run"
      rename Fr g L' _ _ => F1
      rename News g L' _ _ => N1
      refine set_nat (vs := vs) (k := ir) F1 N1 (Upd.head (tbn_neAll (by walk_at "my lt"))) (by omega) (by omega) fun h'' F9 N9 => ?_
      k_steps
      refine new_spec (Z := _) (items := (vs.set ir val).toArray) ⟨B', X', T', rfl, rfl, rfl, rfl, Nat.le_of_ble_eq_true rfl, Nat.le_of_ble_eq_true rfl⟩ F9 N9 (.inr (.head _)) sub_refl (by simp; omega) ?_
      intro x' dx' h' tk tk' F7 N7 l7 l8
      k_steps
      show LeaveK h₀ L m g (back Q E) _ _
      refine leaveK_ F7 N7 fun F8 N8 => ?_
      rw [show ((32 * ls.length + vs.length : Nat) : Int) - (((vs.set ir val).toArray.size : Nat) : Int) = ((32 * ls.length : Nat) : Int) by simp] at N8
      refine ret _ j [_, _, _] _ _ hneg hpos (by omega) F8 N8 ?_ ?_
      · exact Newer.cons ⟨l8, allLt_of fun p hp => Nat.lt_trans (l7 p hp) l8⟩ (Newer.cons (allLt_of l7) (Newer.one (by walk_at "my lt")))
      · rw [if_pos (by omega)]
        exact ⟨_, _, _, e, _, _, _, _, _, ls, vs.set ir val, rfl, ⟨by rw [List.length_set]; exact .inr (.head _), .inr (.tail _ (.head _)), pt.mono (sub_cons (sub_cons (sub_cons sub_refl))), .inr (.tail _ (.tail _ (.head _))), by simp [plen], pe⟩, by rw [List.set_append_right _ _ (by omega), hfl, show j - 32 * ls.length = ir by omega]⟩
    · first
      | exfalso; omega
      | walk_at "k_run"
        rename Fr g L' _ _ => F1
        rename News g L' _ _ => N1
        refine append_pv ⟨B', X', T', rfl, rfl, rfl, rfl, Nat.le_of_ble_eq_true rfl, Nat.le_of_ble_eq_true rfl⟩ F1 N1 hz ⟨x, dx, t, e, n, tc, ts, to, .ref ar, ls, vs, rfl, P, rfl⟩ hxs ?_
        intro r tl h' tk' F9 N9 l9 P9
        k_steps
        show LeaveK h₀ L m g (back Q E) _ _
        refine leaveK_ F9 N9 fun F8 N8 => ret r j tl _ _ hneg hpos (by omega) F8 N8 l9 (by rw [if_neg (by omega)]; exact P9)
end

section
variable {prog : Program} {w : World} {A : Around} {E : Value → Shared → Prop} {s : Shared} {h₀ : Heap} {L : Addr} {m : Str → Option Value} {news news' : List (Addr × Obj)}
theorem del_out {l : Addr} {items : Array Value} {n : Nat} {i : Int} {u : Tok} {Q : Unit → Shared → Prop} (hA : A.handled = none) (hl : IsL s.heap l items n) (hfit : Builtin.List.listFitsIndex i = true) (hk : seqIndex? i items.size = none)
    (hE : ∀ h' tk e, Heap.NewExc s.heap h' e "IndexError" → E (.ref e) { s with heap := h', toks := tk }) : wpAny (model prog w) A (delItem (.ref l) (.int i u)) Q E s := by
  refine wpAny_delItem_slot ⟨_, hl, rfl⟩ (by decide) F.slot_list_delitem (wpAny_call_entry F.slot_list_delitem ⟨_, hl, rfl⟩ F.entry_list_delitem ?_ (F.args_list_delitem_2 _ _))
  obtain ⟨hp, g, d, tk, os⟩ := s
  have hf : ¬ (!Builtin.List.listFitsIndex i) = true := by simp [hfit]
  have f1 := AutoSeq1.idx_int
  wp_walk using wpAny_loadPart' hl
  simp only [hk]
  wp_walk
  exact_raiseError plainExc_IndexError hA hE
noncomputable def delPick (xs : List Value) (start stop step : Int) : List Value := xs.zipIdx.filterMap fun (x, k) => if (if step > 0 then decide (start ≤ (k : Int)) && decide ((k : Int) < stop) && ((k : Int) - start) % step == 0 else decide (stop < (k : Int)) && decide ((k : Int) ≤ start) && (start - (k : Int)) % (-step) == 0) then none else some x
theorem del_slice {l sl : Addr} {items : Array Value} {n : Nat} {a b : Int} {ta tb : Tok} {Q : Unit → Shared → Prop} (hl : IsL s.heap l items n) (hs : s.heap.get? sl = some (sliceOf (.int a ta) (.int b tb) .none)) (hz : items.size ≤ sizeLine)
    (h : Q () { s with heap := s.heap.update l (Obj.mapSeq fun xs => (delPick xs.toList (sliceBounds (some a) (some b) none items.size).1 (sliceBounds (some a) (some b) none items.size).2.1 (sliceBounds (some a) (some b) none items.size).2.2).toArray) }) :
    wpAny (model prog w) A (delItem (.ref l) (.ref sl)) Q E s := by
  have hTs : s.TypeIs (.ref sl) "slice" := ⟨_, hs, rfl⟩
  refine wpAny_delItem_slot ⟨_, hl, rfl⟩ (by decide) F.slot_list_delitem (wpAny_call_entry F.slot_list_delitem ⟨_, hl, rfl⟩ F.entry_list_delitem ?_ (F.args_list_delitem_2 _ _))
  show wpAny _ _ (Builtin.List.listSubscript? (.ref sl) >>= _) _ _ s
  refine wpAny_bind ?_
  unfold Builtin.List.listSubscript?
  refine wpAny_bind (wpAny_specialOf hTs slice_no_index ?_)
  simp only [Option.isNone_none, if_true]
  refine wpAny_pure ?_
  show wpAny _ _ (typeOf (.ref sl) >>= _) _ _ s
  refine wpAny_bind (wpAny_typeOf hTs ?_)
  rw [if_neg (by decide)]
  rw [listSliceParts_eq]
  refine wpAny_bind (wpAny_bind (wpAny_field hs rfl (x := .none) rfl (wpAny_bind (wpAny_listPart .none ?_))))
  rw [if_neg (by exact Bool.false_ne_true)]
  refine wpAny_bind (wpAny_field hs rfl (x := .int a ta) rfl (wpAny_bind (wpAny_listPart (.int a ta) ?_)))
  refine wpAny_bind (wpAny_field hs rfl (x := .int b tb) rfl (wpAny_bind (wpAny_listPart (.int b tb) (wpAny_pure ?_))))
  refine wpAny_bind (m := Builtin.List.listItems (.ref l)) ?_
  unfold Builtin.List.listItems
  refine wpAny_bind (wpAny_seqItems hl rfl (wpAny_pure ?_))
  refine wpAny_bind (wpAny_of_eq (sliceIndices_raw (some a) (some b) none items.size (by simp)) ?_)
  refine wpAny_bind (wpAny_rule ?_)
  refine wpAny_bind (m := Builtin.List.listUpdate (.ref l) _) ?_
  unfold Builtin.List.listUpdate
  refine wpAny_updateSeq hl rfl ?_ hz ?_
  · refine wpAny_bind (wpAny_letGo ?_)
    exact wpAny_pure ⟨_, rfl, h⟩
  · show (List.toArray _).size ≤ _
    rw [List.size_toArray]
    refine Nat.le_trans (List.length_filterMap_le _ _) ?_
    simp
    omega
end

theorem fits_ix {i : Int} (h : -50000 ≤ i) (h2 : i ≤ 50000) : Builtin.List.listFitsIndex i = true := by
  unfold Builtin.List.listFitsIndex
  simp only [Bool.and_eq_true, decide_eq_true_eq]
  omega
theorem sub_mid {q : Addr × Obj} {tl news : List (Addr × Obj)} : ∀ p ∈ tl ++ news, p ∈ tl ++ q :: news := fun p hp => (List.mem_append.mp hp).elim (fun h => List.mem_append_left _ h) fun h => List.mem_append_right _ (.tail _ h)
theorem seqIndex_le {i : Int} {n : Nat} {k : Nat} (h : seqIndex? i n = some k) : k < n := by
  unfold seqIndex? at h
  simp only [Bool.and_eq_true, decide_eq_true_eq] at h
  split at h
  all_goals (split at h; all_goals (first | (cases h; omega) | cases h))
theorem delPick_one (xs : List Value) (a b : Nat) : delPick xs a b 1 = xs.take a ++ xs.drop (max a b) := by
  unfold delPick
  have go : ∀ (xs : List Value) (o : Nat), (xs.zipIdx o).filterMap (fun (p : Value × Nat) => if (decide (a ≤ p.2) && decide (p.2 < b)) = true then none else some p.1) = xs.take (a - o) ++ xs.drop (max a b - o) := by
    intro xs
    induction xs with
    | nil => simp
    | cons x r ih =>
      intro o
      rw [List.zipIdx_cons, List.filterMap_cons, ih (o + 1)]
      rcases Nat.lt_or_ge o a with h1 | h1
      · rw [show a - o = (a - (o + 1)) + 1 by omega, show max a b - o = (max a b - (o + 1)) + 1 by omega]
        simp [Nat.not_le.mpr h1]
      · rcases Nat.lt_or_ge o b with h2 | h2
        · rw [show a - o = 0 by omega, show a - (o + 1) = 0 by omega, show max a b - o = (max a b - (o + 1)) + 1 by omega]
          simp [h1, h2]
        · rw [show a - o = 0 by omega, show a - (o + 1) = 0 by omega, show max a b - o = 0 by omega, show max a b - (o + 1) = 0 by omega]
          simp [h1, Nat.not_lt.mpr h2]
  have := go xs 0
  rw [Nat.sub_zero, Nat.sub_zero] at this
  rw [← this]
  congr 1
  funext ⟨x, k⟩
  simp
section
variable {prog : Program} {w : World} {A : Around} {E : Value → Shared → Prop} {s : Shared} {h₀ : Heap} {L D : Addr} {m : Str → Option Value} {news news' : List (Addr × Obj)}
theorem del_nat {vs : List Value} {n k : Nat} {i : Int} {t : Tok} {Q : Unit → Shared → Prop} (F : Fr h₀ L s.heap m) (N : News h₀ L s.heap news) (U : Upd D (W.listOf vs.toArray n) (W.listOf (vs.eraseIdx k).toArray (n + 1)) news news')
    (hk : seqIndex? i vs.length = some k) (hf : Builtin.List.listFitsIndex i = true) (hz : vs.length ≤ sizeLine) (h : ∀ h', Fr h₀ L h' m → News h₀ L h' news' → Q () { s with heap := h' }) : wpAny (model prog w) A (delItem (.ref D) (.int i t)) Q E s := by
  have hlt := seqIndex_le hk
  obtain ⟨pre, post, rfl, rfl, a, b⟩ := U.split
  have z := N (D, W.listOf vs.toArray n) (List.mem_append.mpr (.inr (.head _)))
  refine P.delItem_list (n := n) (k := k) z.1 hf (by simpa using hk) (h _ (F.change (Heap.SameBut.update ..) z.2.1 z.2.2) (ki_turn _ N a b ?_ ?_)) (by simpa using hz)
  · apply Array.toList_inj.mp
    simp [Array.toList_eraseIdxIfInBounds]
  · rw [if_neg]
    simp only [List.size_toArray, List.length_eraseIdx, hlt, if_true, beq_iff_eq]
    omega
theorem del_sl {vs : List Value} {n : Nat} {sl : Addr} {a b : Int} {ta tb : Tok} {rest : List (Addr × Obj)} {Q : Unit → Shared → Prop} (F : Fr h₀ L s.heap m) (N : News h₀ L s.heap ((D, W.listOf vs.toArray n) :: rest)) (hr : ∀ p ∈ rest, p.1 ≠ D) (hs : (sl, sliceOf (.int a ta) (.int b tb) .none) ∈ rest) (hz : vs.length ≤ sizeLine)
    (h : ∀ h' n', Fr h₀ L h' m → News h₀ L h' ((D, W.listOf (delPick vs (sliceBounds (some a) (some b) none vs.length).1 (sliceBounds (some a) (some b) none vs.length).2.1 (sliceBounds (some a) (some b) none vs.length).2.2).toArray n') :: rest) → Q () { s with heap := h' }) :
    wpAny (model prog w) A (delItem (.ref D) (.ref sl)) Q E s := by
  have z := N (D, W.listOf vs.toArray n) (.head _)
  refine del_slice (n := n) z.1 (N.get (.tail _ hs)) (by simpa using hz) (h _ _ (F.change (Heap.SameBut.update ..) z.2.1 z.2.2) (ki_turn (pre := []) _ N (fun _ h => nomatch h) hr ?_ rfl))
  simp only [List.size_toArray]
end
theorem sl_mro : mroOf (.type "slice") = pure [.type "slice", .type "object"] := by rw [mroOf_type]; kernel_rfl
theorem sl_lknew : typeLookup (.type "slice") "__new__" = pure (some (.builtin "slice.__new__")) := by rw [typeLookup_type, builtinLookup_eq_fast]; kernel_rfl
theorem sl_init : Slot "slice" "__init__" "object.__init__" := .of (owner := "object") (n := "__init__") (by rw [typeLookup_type, builtinLookup_eq_fast]; kernel_rfl) (by decide +kernel) (by decide +kernel) (by decide +kernel) (by first | exact .inl (by decide +kernel) | exact .inr (by decide +kernel)) (by rw [isSubtype_type]; kernel_rfl)
theorem sl_called : TypeCalled "slice" "slice.__new__" "object.__init__" :=
  ⟨by decide +kernel, by decide +kernel, ⟨_, _, sl_mro⟩, madeBy_type sl_mro sl_lknew (by decide +kernel), by decide +kernel, by rw [isSubtype_type]; kernel_rfl, sl_init⟩
theorem sl_typeCall (a b : Value) : checkTypeCall "slice" ⟨[a, b], []⟩ = pure () := by kernel_rfl
theorem sl_newCall (a b : Value) : checkBuiltinCall "slice.__new__" ⟨[.type "slice", a, b], []⟩ = pure () := by kernel_rfl
theorem sl_newEntry : entryFor table "slice.__new__" = some Builtin.«slice.__new__» := entryFor_of_tree (by kernel_rfl)
theorem sl_meets (a b : Value) : Meets (Builtin.«slice.__new__» ⟨[.type "slice", a, b], []⟩) (fun _ R s => R (.ok (.ret (.ref s.heap.objs.size))) { s with heap := s.heap.push (sliceOf a b .none) }) :=
  .of_wp fun prog w A R s h => by
    obtain ⟨hp, g, d, tk, os⟩ := s
    have hsub : isSubtype (.type "slice") (.type "slice") = pure true := by rw [isSubtype_type]; kernel_rfl
    wp_walk
    all_goals first | exact ⟨_, rfl, h⟩ | exact h
section
variable {prog : Program} {w : World} {A : Around} {E : Value → Shared → Prop} {s : Shared} {h₀ : Heap} {L D : Addr} {m : Str → Option Value} {news news' : List (Addr × Obj)}
theorem call_slice {a b : Value} {Q : Value → Shared → Prop} (h : Q (.ref s.heap.objs.size) { s with heap := s.heap.push (sliceOf a b .none) }) : wpAny (model prog w) A (call (.type "slice") [a, b]) Q E s :=
  callType_new sl_called (by decide) (sl_typeCall _ _) (sl_newCall _ _) (fun obj => F.args_object_init_3 obj _ _) sl_newEntry (sl_meets a b) ⟨⟨_, Heap.get?_push_size _ rfl, rfl⟩, h⟩
theorem slice_K {a b : Value} {Q : Value → Shared → Prop} (F : Fr h₀ L s.heap m) (N : News h₀ L s.heap news) (h : ∀ D h', Fr h₀ L h' m → News h₀ L h' ((D, sliceOf a b .none) :: news) → AllLt D news → Q (.ref D) { s with heap := h' }) :
    wpAny (model prog w) A (call (.type "slice") [a, b]) Q E s :=
  call_slice (h _ _ (F.push _) (News.push F N _) (allLt_of fun p hp => Heap.lt_size (N p hp).1))
end
section
variable {w : World} {p : Program} {loose : List Str} {mean : ExcName → Option Value} {mg mb : Str → Option Value} {A₀ A : Around} {base h₀ : Heap} {outer : List Env} {env : Env} {L : Addr}
  {m : Str → Option Value} {news Z : List (Addr × Obj)} {s : Shared} {Q E : Value → Shared → Prop} {prog : Program}
theorem idx_one {i : Int} {ti : Tok} (C : Cx w p loose mean mg mb 890 7900 A₀ A base h₀ outer env L) (F : Fr h₀ L s.heap m) (N : News h₀ L s.heap news)
    (ret : ∀ h' tk', Fr h₀ L h' m → News h₀ L h' news → Q (.int i ti) { s with heap := h', toks := tk' }) : wpAny (model prog w) A (call (.ref 61) [.int i ti, .none]) Q E s := by
  refine enter [("index", .int i ti), ("stop", .none)] C F N (by k_is) (by k_is) (by decide) (BindsTo.of_eq rfl) (locs rfl) ?_ rfl rfl rfl (by decide)
  intro g L' h₁ FG F' N' B' X' T' lt
  try k_fold
  k_steps
  show LeaveK h₀ L m g (back Q E) _ _
  exact leaveK_ F' N' fun F8 N8 => ret _ _ F8 N8
theorem idx_two {i j : Int} {ti tj : Tok} (C : Cx w p loose mean mg mb 890 7900 A₀ A base h₀ outer env L) (F : Fr h₀ L s.heap m) (N : News h₀ L s.heap news)
    (ret : ∀ sl h' tk', Fr h₀ L h' m → News h₀ L h' ((sl, sliceOf (.int i ti) (.int j tj) .none) :: news) → AllLt sl news → Q (.ref sl) { s with heap := h', toks := tk' }) : wpAny (model prog w) A (call (.ref 61) [.int i ti, .int j tj]) Q E s := by
  refine enter [("index", .int i ti), ("stop", .int j tj)] C F N (by k_is) (by k_is) (by decide) (BindsTo.of_eq rfl) (locs rfl) ?_ rfl rfl rfl (by decide)
  intro g L' h₁ FG F' N' B' X' T' lt
  try k_fold
  k_steps
  rename Fr g L' _ _ => F1
  rename News g L' _ _ => N1
  refine slice_K F1 N1 fun D h9 F9 N9 l9 => ?_
  k_steps
  show LeaveK h₀ L m g (back Q E) _ _
  exact leaveK_ F9 N9 fun F8 N8 => ret _ _ _ F8 N8 l9

set_option maxHeartbeats 2000000 in
theorem delete1_spec {v : Value} {xs : List Value} {i : Int} {ti : Tok} (C : Cx w p loose mean mg mb 830 7400 A₀ A base h₀ outer env L) (F : Fr h₀ L s.heap m) (N : News h₀ L s.heap news) (hz : ∀ p ∈ Z, p ∈ news) (P : PV w Z v xs) (hxs : xs.length ≤ 50000) (hi : -50000 ≤ i) (hi2 : i ≤ 50000)
    (ret : ∀ k r tl h' tk', seqIndex? i xs.length = some k → Fr h₀ L h' m → News h₀ L h' (tl ++ news) → Newer news tl → PV w (tl ++ Z) r (xs.eraseIdx k) → Q r { s with heap := h', toks := tk' })
    (rs : seqIndex? i xs.length = none → ∀ e s', Raised base h₀ L m env outer news "IndexError" s e s' → E e s') :
    wpAny (model prog w) A (call (.ref 292) [v, .int i ti]) Q E s := by
  obtain ⟨x, dx, t, e, n, tc, ts, to, root, ls, vs, rfl, P, rfl⟩ := P
  refine enter [("self", .ref x), ("index", .int i ti), ("stop", .none)] C F N (by k_is) (by k_is) (by decide) (binds_K (C.X.keeps F.keep) rfl (by k_is) rfl rfl rfl) (locs rfl) ?_ rfl rfl rfl (by decide)
  intro g L' h₁ FG F' N' B' X' T' lt
  try k_fold
  obtain ⟨po, pd, pt, pl, plen, pe⟩ := id P
  have hfl := flat_len pt.leaf
  have hlen : (ls.flatten ++ vs).length = 32 * ls.length + vs.length := by rw [List.length_append, hfl]
  k_steps
  refine tolist_spec ⟨B', X', T', rfl, rfl, rfl, rfl, Nat.le_of_ble_eq_true rfl, Nat.le_of_ble_eq_true rfl⟩ F' N' hz P (by omega) ?_
  intro l nl h' tk' F9 N9 l9
  generalize hxs' : ls.flatten ++ vs = ys at *
  k_steps
  rename Fr g L' _ _ => F1
  rename News g L' _ _ => N1
  refine idx_one ⟨B', X', T', rfl, rfl, rfl, rfl, Nat.le_of_ble_eq_true rfl, Nat.le_of_ble_eq_true rfl⟩ F1 N1 ?_
  intro h2 tk2 F2 N2
  k_steps
  have hfit : Builtin.List.listFitsIndex i = true := fits_ix hi hi2
  cases hk : seqIndex? i ys.length with
  | none =>
    refine del_out rfl (N2 _ (.head _)).1 hfit (by simpa using hk) ?_
    intro h3 tk3 e3 hx
    k_steps
    exact raised_new B' FG hx F2 N2 (sub_cons sub_refl) rfl (rs hk)
  | some k =>
    refine del_nat F2 N2 (Upd.head (tbn_neAll l9)) hk hfit (by rw [sizeLine_eq]; omega) fun h3 F3 N3 => ?_
    k_steps
    refine extend_pv (Z := []) (obj := .ref l) ⟨B', X', T', rfl, rfl, rfl, rfl, Nat.le_of_ble_eq_true rfl, Nat.le_of_ble_eq_true rfl⟩ F3 N3 (fun _ h => nomatch h) empty_PV (.inl ⟨l, _, rfl, .inr (.head _)⟩) (by have := List.length_eraseIdx_le ys k; simp only [List.length_nil]; omega) ?_
    intro r tl h4 tk4 F7 N7 l7 P7
    k_steps
    show LeaveK h₀ L m g (back Q E) _ _
    refine leaveK_ F7 N7 fun F6 N6 => ret k _ tl _ _ hk F6 (news_sub N6 sub_mid) (fun q hq p hp => l7 q (.tail _ hq) p hp) ?_
    exact (by simpa using P7 : PV w tl r _).mono (sub_appl sub_refl)

set_option maxHeartbeats 2000000 in
theorem delete2_spec {v : Value} {xs : List Value} {i j : Int} {ti tj : Tok} (C : Cx w p loose mean mg mb 830 7400 A₀ A base h₀ outer env L) (F : Fr h₀ L s.heap m) (N : News h₀ L s.heap news) (hz : ∀ p ∈ Z, p ∈ news) (P : PV w Z v xs) (hxs : xs.length ≤ 50000)
    (ret : ∀ r tl h' tk', Fr h₀ L h' m → News h₀ L h' (tl ++ news) → Newer news tl → PV w (tl ++ Z) r (delPick xs (sliceBounds (some i) (some j) none xs.length).1 (sliceBounds (some i) (some j) none xs.length).2.1 (sliceBounds (some i) (some j) none xs.length).2.2) → Q r { s with heap := h', toks := tk' }) :
    wpAny (model prog w) A (call (.ref 292) [v, .int i ti, .int j tj]) Q E s := by
  obtain ⟨x, dx, t, e, n, tc, ts, to, root, ls, vs, rfl, P, rfl⟩ := P
  refine enter [("self", .ref x), ("index", .int i ti), ("stop", .int j tj)] C F N (by k_is) (by k_is) (by decide) (binds_K (C.X.keeps F.keep) rfl (by k_is) rfl rfl rfl) (locs rfl) ?_ rfl rfl rfl (by decide)
  intro g L' h₁ FG F' N' B' X' T' lt
  try k_fold
  obtain ⟨po, pd, pt, pl, plen, pe⟩ := id P
  have hfl := flat_len pt.leaf
  have hlen : (ls.flatten ++ vs).length = 32 * ls.length + vs.length := by rw [List.length_append, hfl]
  k_steps
  refine tolist_spec ⟨B', X', T', rfl, rfl, rfl, rfl, Nat.le_of_ble_eq_true rfl, Nat.le_of_ble_eq_true rfl⟩ F' N' hz P (by omega) ?_
  intro l nl h' tk' F9 N9 l9
  generalize hxs' : ls.flatten ++ vs = ys at *
  k_steps
  rename Fr g L' _ _ => F1
  rename News g L' _ _ => N1
  refine idx_two ⟨B', X', T', rfl, rfl, rfl, rfl, Nat.le_of_ble_eq_true rfl, Nat.le_of_ble_eq_true rfl⟩ F1 N1 ?_
  intro sl h2 tk2 F2 N2 l2
  k_steps
  have N2' : News g L' h2 ((l, W.listOf ys.toArray nl) :: (sl, sliceOf (.int i ti) (.int j tj) .none) :: news) := news_sub N2 fun p hp => by
    rcases List.mem_cons.mp hp with rfl | hp
    · exact .tail _ (.head _)
    · rcases List.mem_cons.mp hp with rfl | hp
      · exact .head _
      · exact .tail _ (.tail _ hp)
  refine del_sl F2 N2' (fun p hp => ?_) (.head _) (by rw [sizeLine_eq]; omega) fun h3 n3 F3 N3 => ?_
  · rcases List.mem_cons.mp hp with rfl | hp
    · exact (Nat.ne_of_lt l2.1).symm
    · exact tbn_neAll l9 p hp
  k_steps
  have hdl : ∀ a b c, (delPick ys a b c).length ≤ ys.length := fun a b c => Nat.le_trans (List.length_filterMap_le _ _) (by simp)
  refine extend_pv (Z := []) (obj := .ref l) ⟨B', X', T', rfl, rfl, rfl, rfl, Nat.le_of_ble_eq_true rfl, Nat.le_of_ble_eq_true rfl⟩ F3 N3 (fun _ h => nomatch h) empty_PV (.inl ⟨l, _, rfl, .inr (.head _)⟩) (by have := hdl (sliceBounds (some i) (some j) none ys.length).1 (sliceBounds (some i) (some j) none ys.length).2.1 (sliceBounds (some i) (some j) none ys.length).2.2; simp only [List.length_nil]; omega) ?_
  intro r tl h4 tk4 F7 N7 l7 P7
  k_steps
  show LeaveK h₀ L m g (back Q E) _ _
  refine leaveK_ F7 N7 fun F6 N6 => ret _ tl _ _ F6 (news_sub (news_sub N6 sub_mid) sub_mid) (fun q hq p hp => l7 q (.tail _ (.tail _ hq)) p hp) ?_
  exact (by simpa using P7 : PV w tl r _).mono (sub_appl sub_refl)
end

theorem kf_at_none {k : Int} : ∀ {l : List Value}, kf_at k l = none → ∀ i (hi : i < l.length), isInt k l[i] = false
  | [], _, _, hi => nomatch hi
  | x :: r, h, i, hi => by
    unfold kf_at at h
    cases hx : isInt k x with
    | true => rw [hx] at h; cases h
    | false =>
      rw [hx] at h
      cases hr : kf_at k r with
      | some j => rw [hr] at h; cases h
      | none =>
        cases i with
        | zero => exact hx
        | succ i => exact kf_at_none hr i (by simpa using hi)
theorem kf_delL : ∀ {l : List Value} {k : Nat}, k < l.length → ki_delL l k = some (l.eraseIdx k)
  | [], _, h => nomatch h
  | x :: r, 0, _ => rfl
  | x :: r, k + 1, h => by
    unfold ki_delL
    rw [kf_delL (l := r) (by simpa using h)]
    rfl
section
variable {prog : Program} {w : World} {A : Around} {E : Value → Shared → Prop} {s : Shared} {h₀ : Heap} {L D : Addr} {m : Str → Option Value} {news news' : List (Addr × Obj)}
theorem rem_out {vs : List Value} {n : Nat} {k : Int} {t : Tok} {Q : Value → Shared → Prop} (hA : A.handled = none) (hl : IsL s.heap D vs.toArray n) (hi : kf_ints vs = true) (hno : kf_at k vs = none)
    (hE : ∀ h' tk e, Heap.NewExc s.heap h' e "ValueError" → E (.ref e) { s with heap := h', toks := tk }) : wpAny (model prog w) A (call (.builtin "list.remove") [.ref D, .int k t]) Q E s :=
  call_meets PySem.F.slot_list_remove ⟨_, hl, rfl⟩ PySem.F.entry_list_remove (PySem.F.args_list_remove_2 _ _)
    (MeetsSeq.list_remove_none D vs.toArray n (.int k t) (isInt k) (fun y hy => kf_eq hi y (by simpa using hy)) (fun i hi => by simpa using kf_at_none hno i (by simpa using hi))) ⟨hl, hA, hE⟩
end
local macro_rules | `(tactic| walk_at "call builtin:list.remove") => `(tactic| (with_reducible refine st_f ?_))
section
variable {w : World} {p : Program} {loose : List Str} {mean : ExcName → Option Value} {mg mb : Str → Option Value} {A₀ A : Around} {base h₀ : Heap} {outer : List Env} {env : Env} {L : Addr}
  {m : Str → Option Value} {news Z : List (Addr × Obj)} {s : Shared} {Q E : Value → Shared → Prop} {prog : Program}
set_option maxHeartbeats 2000000 in
theorem remove_spec {v : Value} {xs : List Value} {a : Int} {ta : Tok} (C : Cx w p loose mean mg mb 830 7400 A₀ A base h₀ outer env L) (F : Fr h₀ L s.heap m) (N : News h₀ L s.heap news) (hz : ∀ p ∈ Z, p ∈ news) (P : PV w Z v xs) (hxs : xs.length ≤ 50000) (hi : kf_ints xs = true)
    (ret : ∀ k r tl h' tk', kf_at a xs = some k → Fr h₀ L h' m → News h₀ L h' (tl ++ news) → Newer news tl → PV w (tl ++ Z) r (xs.eraseIdx k) → Q r { s with heap := h', toks := tk' })
    (rs : kf_at a xs = none → ∀ e s', Raised base h₀ L m env outer news "ValueError" s e s' → E e s') :
    wpAny (model prog w) A (call (.ref 299) [v, .int a ta]) Q E s := by
  obtain ⟨x, dx, t, e, n, tc, ts, to, root, ls, vs, rfl, P, rfl⟩ := P
  refine enter [("self", .ref x), ("value", .int a ta)] C F N (by k_is) (by k_is) (by decide) (BindsTo.of_eq rfl) (locs rfl) ?_ rfl rfl rfl (by decide)
  intro g L' h₁ FG F' N' B' X' T' lt
  try k_fold
  obtain ⟨po, pd, pt, pl, plen, pe⟩ := id P
  have hfl := flat_len pt.leaf
  have hlen : (ls.flatten ++ vs).length = 32 * ls.length + vs.length := by rw [List.length_append, hfl]
  k_steps
  refine tolist_spec ⟨B', X', T', rfl, rfl, rfl, rfl, Nat.le_of_ble_eq_true rfl, Nat.le_of_ble_eq_true rfl⟩ F' N' hz P (by omega) ?_
  intro l nl h' tk' F9 N9 l9
  generalize hxs' : ls.flatten ++ vs = ys at *
  k_steps
  rename Fr g L' _ _ => F2
  rename News g L' _ _ => N2
  cases hk : kf_at a ys with
  | none =>
    refine rem_out rfl (N2 _ (.head _)).1 hi hk ?_
    intro h3 tk3 e3 hx
    k_steps
    exact raised_new B' FG hx F2 N2 (sub_cons sub_refl) rfl (rs hk)
  | some k =>
    obtain ⟨hkl, _⟩ := kf_at_spec hk
    refine kf_remove (its := ys.toArray) F2 N2 (by simpa using hi) (by simpa using hk) (by simpa using kf_delL hkl) (Upd.head (tbn_neAll l9)) (by rw [sizeLine_eq]; simp; omega) fun h3 F3 N3 => ?_
    k_steps
    refine extend_pv (Z := []) (obj := .ref l) ⟨B', X', T', rfl, rfl, rfl, rfl, Nat.le_of_ble_eq_true rfl, Nat.le_of_ble_eq_true rfl⟩ F3 N3 (fun _ h => nomatch h) empty_PV (.inl ⟨l, _, rfl, .inr (.head _)⟩) (by have := List.length_eraseIdx_le ys k; simp only [List.length_nil]; omega) ?_
    intro r tl h4 tk4 F7 N7 l7 P7
    k_steps
    show LeaveK h₀ L m g (back Q E) _ _
    refine leaveK_ F7 N7 fun F6 N6 => ret k _ tl _ _ hk F6 (news_sub N6 sub_mid) (fun q hq p hp => l7 q (.tail _ hq) p hp) ?_
    exact (by simpa using P7 : PV w tl r _).mono (sub_appl sub_refl)
end

section
variable {w : World} {p : Program} {loose : List Str} {mean : ExcName → Option Value} {mg mb : Str → Option Value} {A₀ A : Around} {base h₀ : Heap} {outer : List Env} {env : Env} {L : Addr}
  {m : Str → Option Value} {news Z : List (Addr × Obj)} {s : Shared} {Q E : Value → Shared → Prop} {prog : Program}
set_option maxHeartbeats 2000000 in
theorem handed_spec {f : Int} {tf : Tok} {l : Addr} {n : Nat} {xs : List Value} (C : Cx w p loose mean mg mb 700 6000 A₀ A base h₀ outer env L) (F : Fr h₀ L s.heap m) (N : News h₀ L s.heap news) (hl : (l, W.listOf xs.toArray n) ∈ news) (hx : xs.length ≤ 5000)
    (ret : ∀ r tl h' tk', Fr h₀ L h' m → News h₀ L h' (tl ++ news) → Newer news tl → SeqLike w (tl ++ news) r xs → Q r { s with heap := h', toks := tk' }) :
    wpAny (model prog w) A (call (.ref 348) [.int f tf, .ref l]) Q E s := by
  refine enter [("form", .int f tf), ("added", .ref l)] C F N (by k_is) (by k_is) (by decide) (BindsTo.of_eq rfl) (locs rfl) ?_ rfl rfl rfl (by decide)
  intro g L' h₁ FG F' N' B' X' T' lt
  try k_fold
  k_steps
  by_cases h0 : f = 0
  · subst h0
    show ite _ _ _
    refine ite_pos (by decide) ?_
    k_steps
    show LeaveK h₀ L m g (back Q E) _ _
    exact leaveK_ F' N' fun F8 N8 => ret _ [] _ _ F8 N8 Newer.nil (.inl ⟨l, n, rfl, .inr hl⟩)
  · show ite _ _ _
    refine ite_neg (by rw [beq_iff_eq]; exact h0) ?_
    k_steps
    by_cases h1 : f = 1
    · subst h1
      show ite _ _ _
      refine ite_pos (by decide) ?_
      k_steps
      refine kde_tupleOf (zs := xs) F' N' (News.isList N' hl) (by simp; omega) (by simp) fun D h9 F9 N9 l9 => ?_
      k_steps
      show LeaveK h₀ L m g (back Q E) _ _
      exact leaveK_ F9 N9 fun F8 N8 => ret _ [_] _ _ F8 N8 (Newer.one (allLt_of l9)) (.inr (.inl ⟨D, 0, rfl, .inr (.head _)⟩))
    · show ite _ _ _
      refine ite_neg (by rw [beq_iff_eq]; exact h1) ?_
      k_steps
      refine pvec_spec ⟨B', X', T', rfl, rfl, rfl, rfl, Nat.le_of_ble_eq_true rfl, Nat.le_of_ble_eq_true rfl⟩ F' N' (.inl ⟨l, n, rfl, .inr hl⟩) (by omega) ?_
      intro r tl h' tk' F9 N9 l9 P9
      k_steps
      show LeaveK h₀ L m g (back Q E) _ _
      exact leaveK_ F9 N9 fun F8 N8 => ret _ _ _ _ F8 N8 l9 (.inr (.inr (P9.mono (sub_appl sub_refl))))
end

local macro_rules | `(tactic| walk_at "subscriptTail") => `(tactic| (with_reducible refine st_g ?_))
theorem item_any {prog : Program} {w : World} {A : Around} {E : Value → Shared → Prop} {s : Shared} {value slice : PySem.Expr} {a : Addr} {l : List Value} {k : Int} {u : Tok} {x : Value} {Q : Value → Shared → Prop} (hl : s.heap.IsList a l.toArray)
    (h0 : 0 ≤ k) (hfit : k < 2 ^ 63) (hx : l[k.toNat]? = some x) (h : Q x s) (hs : subscripted slice false (.ref a) (.int k u) = operate [.ref a, .int k u] (getItem (.ref a) (.int k u)) := by with_unfolding_all rfl) :
    wpAny (model prog w) A (subscriptTail value slice (.ref a) (.int k u)) Q E s :=
  kba_turn (value' := .Name (Str.ofString "x") default) (fun _ => rfl) (item_listL hl h0 hfit hx h hs (fun _ => rfl))
section
variable {w : World} {p : Program} {loose : List Str} {mean : ExcName → Option Value} {mg mb : Str → Option Value} {A₀ A : Around} {base h₀ : Heap} {outer : List Env} {env : Env} {L : Addr}
  {m : Str → Option Value} {news Z : List (Addr × Obj)} {s : Shared} {Q E : Value → Shared → Prop} {prog : Program}
set_option maxHeartbeats 400000 in
theorem size_spec {a : Int} {ta : Tok} (C : Cx w p loose mean mg mb 700 6000 A₀ A base h₀ outer env L) (F : Fr h₀ L s.heap m) (N : News h₀ L s.heap news)
    (ret : ∀ z tk h' tk', 0 ≤ z → z ≤ 1060 → Fr h₀ L h' m → News h₀ L h' news → Q (.int z tk) { s with heap := h', toks := tk' }) :
    wpAny (model prog w) A (call (.ref 334) [.int a ta]) Q E s := by
  refine enter [("number", .int a ta)] C F N (by k_is) (by k_is) (by decide) (BindsTo.of_eq rfl) (locs rfl) ?_ rfl rfl rfl (by decide)
  intro g L' h₁ FG F' N' B' X' T' lt
  try k_fold
  k_steps
  have hr0 := Int.fmod_nonneg_of_pos a (show (0 : Int) < 5 by decide)
  have hr1 := Int.fmod_lt_of_pos a (show (0 : Int) < 5 by decide)
  rename Fr g L' _ _ => F1
  rename News g L' _ _ => N1
  have key : ∀ (l : List Int) (ts : List Tok) (k : Nat), True := fun _ _ _ => trivial
  have hm1 := Int.fmod_nonneg_of_pos (a.fdiv 5) (show (0 : Int) < 4 by decide)
  have hm2 := Int.fmod_lt_of_pos (a.fdiv 5) (show (0 : Int) < 4 by decide)
  have hm3 := Int.fmod_nonneg_of_pos (a.fdiv 5) (show (0 : Int) < 6 by decide)
  have hm4 := Int.fmod_lt_of_pos (a.fdiv 5) (show (0 : Int) < 6 by decide)
  have hm5 := Int.fmod_nonneg_of_pos (a.fdiv 5) (show (0 : Int) < 40 by decide)
  have hm6 := Int.fmod_lt_of_pos (a.fdiv 5) (show (0 : Int) < 40 by decide)
  have hm7 := Int.fmod_nonneg_of_pos (a.fdiv 5) (show (0 : Int) < 1061 by decide)
  have hm8 := Int.fmod_lt_of_pos (a.fdiv 5) (show (0 : Int) < 1061 by decide)
  generalize a.fmod 5 = r at *
  obtain rfl | rfl | rfl | rfl | rfl : r = 0 ∨ r = 1 ∨ r = 2 ∨ r = 3 ∨ r = 4 := by omega
  all_goals
    refine item_any (News.isList N1 (.head _)) (by decide) (by decide) rfl ?_
    k_steps
    show LeaveK h₀ L m g (back Q E) _ _
    exact leaveK_ F1 N1 fun F8 N8 => ret _ _ _ _ (by omega) (by omega) F8 (news_sub N8 (sub_cons sub_refl))
end

section
variable {prog : Program} {w : World} {A : Around} {E : Value → Shared → Prop} {s : Shared} {h₀ : Heap} {L a : Addr} {m : Str → Option Value} {cn : Str} {cs : Scope} {ccd : Value} {Q : Flow → Shared → Prop}
theorem cmp_if {x : Str} {n j : Int} {t : Tok} {k : Nat} {p1 p2 p3 : Pos} {whole : Sem Value} {R : Bool → Shared → Prop} (F : Fr h₀ L s.heap m) (hm : m x = some (.int n t)) (hk : cs.kind = .function) (hx : (envOf cn cs L a ccd).kindOf x = some .local) (hd : (x == ("__debug__" : Str)) = false)
    (h : R (n == j) { s with toks := s.toks + 1 }) : wpAny (model prog w) A (isTrue (.Compare (.Name x p1) [.Eq] [.Constant (.int j) k p2] p3) (envOf cn cs L a ccd) whole) R E s :=
  wpAny_isTrue_Compare1 (nameX_L F hm (wpAny_Constant_int (eq_int (wpAny_truthy_bool h))) hk hx hd) rfl
/-- a test 'x == j' of a local int that is not j, or is j: passed in one step -/
theorem skip_if {x : Str} {n j : Int} {t : Tok} {k : Nat} {p1 p2 p3 p4 : Pos} {body : List Stmt} (F : Fr h₀ L s.heap m) (hm : m x = some (.int n t)) (hne : (n == j) = false) (h : Q .next { s with toks := s.toks + 1 })
    (hk : cs.kind = .function) (hx : (envOf cn cs L a ccd).kindOf x = some .local) (hd : (x == ("__debug__" : Str)) = false) :
    wpAny (model prog w) A (exec (.If (.Compare (.Name x p1) [.Eq] [.Constant (.int j) k p2] p3) body [] p4) (envOf cn cs L a ccd)) Q E s :=
  wpAny_If (cmp_if F hm hk hx hd (by rw [hne]; exact wpAny_execs_nil h))
theorem take_if {x : Str} {n j : Int} {t : Tok} {k : Nat} {p1 p2 p3 p4 : Pos} {body : List Stmt} (F : Fr h₀ L s.heap m) (hm : m x = some (.int n t)) (hne : (n == j) = true) (h : wpAny (model prog w) A (execs body (envOf cn cs L a ccd)) Q E { s with toks := s.toks + 1 })
    (hk : cs.kind = .function) (hx : (envOf cn cs L a ccd).kindOf x = some .local) (hd : (x == ("__debug__" : Str)) = false) :
    wpAny (model prog w) A (exec (.If (.Compare (.Name x p1) [.Eq] [.Constant (.int j) k p2] p3) body [] p4) (envOf cn cs L a ccd)) Q E s :=
  wpAny_If (cmp_if F hm hk hx hd (by rw [hne]; exact h))
theorem skip_or {x : Str} {n j j2 : Int} {t : Tok} {k k2 : Nat} {p1 p2 p3 p4 p5 p6 p7 p8 : Pos} {body : List Stmt} (F : Fr h₀ L s.heap m) (hm : m x = some (.int n t)) (hne : (n == j || n == j2) = false) (h : Q .next { s with toks := s.toks + 2 })
    (hk : cs.kind = .function) (hx : (envOf cn cs L a ccd).kindOf x = some .local) (hd : (x == ("__debug__" : Str)) = false) :
    wpAny (model prog w) A (exec (.If (.BoolOp .Or [.Compare (.Name x p1) [.Eq] [.Constant (.int j) k p2] p3, .Compare (.Name x p5) [.Eq] [.Constant (.int j2) k2 p6] p7] p8) body [] p4) (envOf cn cs L a ccd)) Q E s := by
  obtain ⟨h1, h2⟩ := Bool.or_eq_false_iff.mp hne
  refine wpAny_If (wpAny_isTrue_BoolOp (wpAny_allTrue_Or_cons (cmp_if F hm hk hx hd ?_)))
  rw [h1]
  refine wpAny_allTrue_Or_cons (cmp_if F hm hk hx hd ?_)
  rw [h2]
  exact wpAny_allTrue_Or_nil (wpAny_execs_nil h)
end
local macro_rules | `(tactic| walk_at "exec If") => `(tactic| ((with_reducible refine' skip_or ?F ?m ?n ?_ ?k ?x ?d); (case F => with_unfolding_all assumption); (case m => with_unfolding_all exact rfl); (case n => with_unfolding_all exact rfl); (case k => with_unfolding_all exact rfl); (case x => with_unfolding_all exact rfl); (case d => with_unfolding_all exact rfl)))
local macro_rules | `(tactic| walk_at "exec If") => `(tactic| ((with_reducible refine' take_if ?F ?m ?n ?_ ?k ?x ?d); (case F => with_unfolding_all assumption); (case m => with_unfolding_all exact rfl); (case n => with_unfolding_all exact rfl); (case k => with_unfolding_all exact rfl); (case x => with_unfolding_all exact rfl); (case d => with_unfolding_all exact rfl)))
local macro_rules | `(tactic| walk_at "exec If") => `(tactic| ((with_reducible refine' skip_if ?F ?m ?n ?_ ?k ?x ?d); (case F => with_unfolding_all assumption); (case m => with_unfolding_all exact rfl); (case n => with_unfolding_all exact rfl); (case k => with_unfolding_all exact rfl); (case x => with_unfolding_all exact rfl); (case d => with_unfolding_all exact rfl)))

theorem lt11 {r : Int} (h0 : 0 ≤ r) (h1 : r < 11) : r = 0 ∨ r = 1 ∨ r = 2 ∨ r = 3 ∨ r = 4 ∨ r = 5 ∨ r = 6 ∨ r = 7 ∨ r = 8 ∨ r = 9 ∨ r = 10 := by
  obtain ⟨j, rfl⟩ := Int.eq_ofNat_of_zero_le h0
  exact (by decide : ∀ j : Nat, j < 11 → ((j : Int) = 0 ∨ (j : Int) = 1 ∨ (j : Int) = 2 ∨ (j : Int) = 3 ∨ (j : Int) = 4 ∨ (j : Int) = 5 ∨ (j : Int) = 6 ∨ (j : Int) = 7 ∨ (j : Int) = 8 ∨ (j : Int) = 9 ∨ (j : Int) = 10)) j (by omega)
section
variable {w : World} {p : Program} {loose : List Str} {mean : ExcName → Option Value} {mg mb : Str → Option Value} {A₀ A : Around} {base h₀ : Heap} {outer : List Env} {env : Env} {L : Addr}
  {m : Str → Option Value} {news Z : List (Addr × Obj)} {s : Shared} {Q E : Value → Shared → Prop} {prog : Program}
set_option maxHeartbeats 400000 in
theorem place_spec {a : Int} {c : Nat} {ta tc : Tok} (C : Cx w p loose mean mg mb 700 6000 A₀ A base h₀ outer env L) (F : Fr h₀ L s.heap m) (N : News h₀ L s.heap news) (hc : c ≤ 5000)
    (ret : ∀ z tk h' tk', -6000 ≤ z → z ≤ 6000 → Fr h₀ L h' m → News h₀ L h' news → Q (.int z tk) { s with heap := h', toks := tk' }) :
    wpAny (model prog w) A (call (.ref 341) [.int a ta, .int (c : Nat) tc]) Q E s := by
  refine enter [("number", .int a ta), ("count", .int (c : Nat) tc)] C F N (by k_is) (by k_is) (by decide) (BindsTo.of_eq rfl) (locs rfl) ?_ rfl rfl rfl (by decide)
  intro g L' h₁ FG F' N' B' X' T' lt
  try k_fold
  k_steps
  by_cases h0 : a.fmod 3 = 0
  · show ite _ _ _
    refine ite_pos (by rw [beq_iff_eq]; exact h0) ?_
    k_steps
    rename Fr g L' _ _ => F1
    rename News g L' _ _ => N1
    have hr0 := Int.fmod_nonneg_of_pos (a.fdiv 3) (show (0 : Int) < 11 by decide)
    have hr1 := Int.fmod_lt_of_pos (a.fdiv 3) (show (0 : Int) < 11 by decide)
    generalize (a.fdiv 3).fmod 11 = r at *
    obtain rfl | rfl | rfl | rfl | rfl | rfl | rfl | rfl | rfl | rfl | rfl : r = 0 ∨ r = 1 ∨ r = 2 ∨ r = 3 ∨ r = 4 ∨ r = 5 ∨ r = 6 ∨ r = 7 ∨ r = 8 ∨ r = 9 ∨ r = 10 := lt11 hr0 hr1
    all_goals
      refine item_any (News.isList N1 (.head _)) (by decide) (by decide) rfl ?_
      k_steps
      show LeaveK h₀ L m g (back Q E) _ _
      exact leaveK_ F1 N1 fun F8 N8 => ret _ _ _ _ (by omega) (by omega) F8 (news_sub N8 (sub_cons sub_refl))
  · show ite _ _ _
    refine ite_neg (by rw [beq_iff_eq]; exact h0) ?_
    k_steps
    have hr0 := Int.fmod_nonneg_of_pos (a.fdiv 3) (show (0 : Int) < 2 * (c : Int) + 6 by omega)
    have hr1 := Int.fmod_lt_of_pos (a.fdiv 3) (show (0 : Int) < 2 * (c : Int) + 6 by omega)
    show LeaveK h₀ L m g (back Q E) _ _
    rename Fr g L' _ _ => F1
    rename News g L' _ _ => N1
    exact leaveK_ F1 N1 fun F8 N8 => ret _ _ _ _ (by omega) (by omega) F8 N8
end

/-- the place counted from the front -/
noncomputable def spotOf (n : Nat) (place : Int) : Int := if place < 0 then place + n else place
noncomputable def insideOf (n : Nat) (place : Int) : Bool := decide (0 ≤ spotOf n place) && decide (spotOf n place < n)
noncomputable def lowOf (n : Nat) (place : Int) : Nat := (min (max (spotOf n place) 0) n).toNat
/-- what a step of the law owes -/
noncomputable def dueOf (kind : Nat) (xs added : List Value) (place stop step times : Int) (a : Int) (ta : Tok) : Except String (List Value) :=
  match kind with
  | 0 => .ok (xs ++ [.int a ta])
  | 1 => if place = xs.length then .ok (xs ++ [.int a ta]) else if insideOf xs.length place then .ok (xs.set (spotOf xs.length place).toNat (.int a ta)) else .error "IndexError"
  | 2 => .ok (xs ++ added)
  | 3 => .ok (xs ++ added)
  | 4 => if insideOf xs.length place then .ok (xs.eraseIdx (spotOf xs.length place).toNat) else .error "IndexError"
  | 5 => .ok (xs.take (lowOf xs.length place) ++ xs.drop (max (lowOf xs.length place) (lowOf xs.length stop)))
  | 6 => match kf_at a xs with
    | some k => .ok (xs.eraseIdx k)
    | none => .error "ValueError"
  | 7 => if step = 0 then .error "ValueError" else .ok (slicePick xs.toArray (some place) (some stop) (some step)).toList
  | 8 => .ok (List.replicate times.toNat xs).flatten
  | 9 => .ok (List.replicate times.toNat xs).flatten
  | 10 => .ok xs
  | _ => if insideOf xs.length place then .ok (xs ++ (xs[(spotOf xs.length place).toNat]?).toList) else .error "IndexError"
local macro_rules | `(tactic| walk_at "my sz") => `(tactic| (try simp only [List.size_toArray]))
local macro_rules | `(tactic| walk_at "my dez") => `(tactic| (show ite _ _ _; first | refine ite_pos (by walk_at "my sz"; rw [decide_eq_true_eq]; omega) ?_ | refine ite_neg (by walk_at "my sz"; rw [decide_eq_true_eq]; omega) ?_ | refine ite_pos (by walk_at "my sz"; rw [beq_iff_eq]; omega) ?_ | refine ite_neg (by walk_at "my sz"; rw [beq_iff_eq]; omega) ?_))
local macro_rules | `(tactic| walk_at "my all") => `(tactic| (try k_steps; repeat (first | (walk_at "my dez"; k_steps) | (refine ifexp_go ?_; k_steps))))
theorem spot_neg {n : Nat} {place : Int} (h : place < 0) : spotOf n place = place + n := if_pos h
theorem spot_pos {n : Nat} {place : Int} (h : 0 ≤ place) : spotOf n place = place := if_neg (by omega)
theorem add_K {prog : Program} {w : World} {A : Around} {E Q : Value → Shared → Prop} {s : Shared} {h₀ : Heap} {L l b : Addr} {m : Str → Option Value} {news : List (Addr × Obj)} {vs ws : List Value} (F : Fr h₀ L s.heap m) (N : News h₀ L s.heap news) (hl : s.heap.IsList l vs.toArray) (hb : s.heap.IsList b ws.toArray) (hsz : vs.length + ws.length ≤ sizeLine)
    (h : ∀ D h', Fr h₀ L h' m → News h₀ L h' ((D, W.listOf (vs ++ ws).toArray 0) :: news) → (∀ p ∈ news, p.1 < D) → Q (.ref D) { s with heap := h' }) : wpAny (model prog w) A (binaryOp .Add (.ref l) (.ref b)) Q E s :=
  add_lists F N hl hb (fun h' F' N' => h _ h' F' N' fun p hp => Heap.lt_size (N p hp).1) hsz
local macro_rules | `(tactic| walk_at "binaryOp Add ref ref") => `(tactic| ((with_reducible show wpAny _ _ (PySem.binaryOp _ (PySem.Value.ref _) (PySem.Value.ref _)) _ _ _); k_dflt (refine' add_K ?F ?N ?a ?b ?z ?_; (case F => k_asm); (case N => k_asm); (case a => is_list); (case b => is_list); (case z => walk_at "my size")); intro D' h' F' N' l1; (try k_lt l1); (try k_sweep)))
local macro_rules | `(tactic| walk_at "my size") => `(tactic| (simp only [List.size_toArray, List.length_cons, List.length_nil, List.length_append, List.length_take, List.length_drop, PySem.sizeLine_eq]; omega))
theorem pick_take {xs : List Value} {k : Nat} (hk : k ≤ xs.length) : kms_pick xs.toArray.toList none (some (k : Int)) = xs.take k := by
  simp only [kms_pick, kms_lo, kms_hi, List.drop_zero, Nat.sub_zero, if_neg (show ¬ (k : Int) < 0 by omega)]
  rw [show (k : Int).toNat = k by omega, Nat.min_eq_left hk]
theorem pick_drop {xs : List Value} {k : Nat} {y : Int} (hy : y = k) : kms_pick xs.toArray.toList (some y) none = xs.drop k := by
  subst hy
  simp only [kms_pick, kms_lo, kms_hi, if_neg (show ¬ (k : Int) < 0 by omega)]
  rw [show (k : Int).toNat = k by omega]
  rcases Nat.le_total k xs.length with h | h
  · rw [Nat.min_eq_left h, List.take_of_length_le (by simp)]
  · rw [Nat.min_eq_right h, List.drop_eq_nil_of_le h, List.drop_eq_nil_of_le (Nat.le_refl _)]; simp
theorem pick_all {xs : List Value} : kms_pick xs.toArray.toList none none = xs := by
  simp only [kms_pick, kms_lo, kms_hi, List.drop_zero, Nat.sub_zero]
  exact List.take_of_length_le (Nat.le_refl _)
theorem any_at {a : Int} : ∀ {xs : List Value}, xs.any (isInt a) = (kf_at a xs).isSome
  | [] => rfl
  | x :: r => by
    have e : kf_at a (x :: r) = cond (isInt a x) (some 0) (match kf_at a r with | some j => some (j + 1) | none => none) := rfl
    rw [List.any_cons, any_at (xs := r), e]
    cases isInt a x with
    | true => rfl
    | false => cases kf_at a r <;> rfl
theorem low_is {n : Nat} {x spot : Int} (h : spotOf n x = spot) : min (max spot 0) (n : Int) = ((lowOf n x : Nat) : Int) := by
  subst h; unfold lowOf; omega
theorem low_le {n : Nat} {x : Int} : lowOf n x ≤ n := by unfold lowOf; omega
theorem take_set {xs : List Value} {k : Nat} {v : Value} (hk : k < xs.length) : xs.take k ++ [v] ++ xs.drop (k + 1) = xs.set k v := by
  rw [List.set_eq_take_append_cons_drop, if_pos hk]; simp
theorem take_erase {xs : List Value} {k : Nat} : xs.take k ++ xs.drop (k + 1) = xs.eraseIdx k := (List.eraseIdx_eq_take_drop_succ xs k).symm
theorem lt12 {k : Nat} (h : k < 12) : k = 0 ∨ k = 1 ∨ k = 2 ∨ k = 3 ∨ k = 4 ∨ k = 5 ∨ k = 6 ∨ k = 7 ∨ k = 8 ∨ k = 9 ∨ k = 10 ∨ k = 11 := (by decide : ∀ k, k < 12 → (k = 0 ∨ k = 1 ∨ k = 2 ∨ k = 3 ∨ k = 4 ∨ k = 5 ∨ k = 6 ∨ k = 7 ∨ k = 8 ∨ k = 9 ∨ k = 10 ∨ k = 11)) k h
section
variable {w : World} {p : Program} {loose : List Str} {mean : ExcName → Option Value} {mg mb : Str → Option Value} {A₀ A : Around} {base h₀ : Heap} {outer : List Env} {env : Env} {L : Addr}
  {m : Str → Option Value} {news Z : List (Addr × Obj)} {s : Shared} {Q E : Value → Shared → Prop} {prog : Program}
theorem cut_int {M : Model} {z : Int} {t : Sem Value} (_F : Fr h₀ L s.heap m) (_N : News h₀ L s.heap news) (h : ∀ Q' : Value → Shared → Prop, (∀ tk h' tk', Fr h₀ L h' m → News h₀ L h' news → Q' (.int z tk) { s with heap := h', toks := tk' }) → wpAny M A t Q' E s)
    (core : ∀ tk h' tk', Fr h₀ L h' m → News h₀ L h' news → Q (.int z tk) { s with heap := h', toks := tk' }) : Stop (wpAny M A t Q E s) := h Q core
theorem cut_bool {M : Model} {z : Bool} {t : Sem Value} (_F : Fr h₀ L s.heap m) (_N : News h₀ L s.heap news) (h : ∀ Q' : Value → Shared → Prop, (∀ h' tk', Fr h₀ L h' m → News h₀ L h' news → Q' (.bool z) { s with heap := h', toks := tk' }) → wpAny M A t Q' E s)
    (core : ∀ h' tk', Fr h₀ L h' m → News h₀ L h' news → Q (.bool z) { s with heap := h', toks := tk' }) : Stop (wpAny M A t Q E s) := h Q core
theorem max_K {a b : Int} {t u : Tok} (hh : A.handled = none) (F : Fr h₀ L s.heap m) (N : News h₀ L s.heap news) (h : ∀ h' tk tt, Fr h₀ L h' m → News h₀ L h' news → Q (.int (max a b) tt) { s with heap := h', toks := tk }) :
    wpAny (model prog w) A (call (.builtin "max") [.int a t, .int b u]) Q E s := max_two_N hh F N fun h' tk F' N' => by
  rw [show (if b > a then b else a) = max a b by split <;> omega]; exact h _ _ _ F' N'
theorem min_K {a b : Int} {t u : Tok} (hh : A.handled = none) (F : Fr h₀ L s.heap m) (N : News h₀ L s.heap news) (h : ∀ h' tk tt, Fr h₀ L h' m → News h₀ L h' news → Q (.int (min a b) tt) { s with heap := h', toks := tk }) :
    wpAny (model prog w) A (call (.builtin "min") [.int a t, .int b u]) Q E s := min_two_N hh F N fun h' tk F' N' => by
  rw [show (if b < a then b else a) = min a b by split <;> omega]; exact h _ _ _ F' N'
local macro_rules | `(tactic| walk_at "call builtin:max") => `(tactic| ((with_reducible show wpAny _ _ (PySem.call (PySem.Value.builtin _) [PySem.Value.int _ _, PySem.Value.int _ _]) _ _ _); k_dflt (refine' max_K rfl ?F ?N ?_; (case F => k_asm); (case N => k_asm)); intro h' tk' tt' F' N'; (try k_sweep)))
local macro_rules | `(tactic| walk_at "call builtin:min") => `(tactic| ((with_reducible show wpAny _ _ (PySem.call (PySem.Value.builtin _) [PySem.Value.int _ _, PySem.Value.int _ _]) _ _ _); k_dflt (refine' min_K rfl ?F ?N ?_; (case F => k_asm); (case N => k_asm)); intro h' tk' tt' F' N'; (try k_sweep)))
local macro_rules | `(tactic| walk_at "eval Compare") => `(tactic| (with_reducible refine st_h ?_))
local macro_rules | `(tactic| walk_at "compareOp NotIn int ref") => `(tactic| (with_reducible refine st_i ?_))
local macro_rules | `(tactic| walk_at "call builtin:list.index") => `(tactic| (with_reducible refine st_j ?_))
local macro_rules | `(tactic| walk_at "subscriptTail Name Slice ref ref") => `(tactic| ((with_reducible show wpAny _ _ (subscriptTail _ (PySem.Expr.Slice _ _ (some _) _) (PySem.Value.ref _) (PySem.Value.ref _)) _ _ _); k_dflt (refine' kmk_slice3_lit ?F ?N ?l ?p ?q ?r ?o ?e ?_ ?s ?t ?z; (case F => k_asm); (case N => k_asm); (case l => is_list); (case p => kmk_part); (case q => kmk_part); (case r => kmk_part); (case o => assumption); (case e => exact rfl); (case s => with_unfolding_all rfl); (case t => kmk_pure); (case z => walk_at "my size")); intro D' h' F' N' l1; (try k_lt l1); (try k_sweep)))
set_option maxHeartbeats 0 in
theorem due_spec {kind : Int} {k : Nat} {tk ta t1 t2 t3 t4 : Tok} {l b : Addr} {n nb : Nat} {xs ys : List Value} {place stop step times a : Int} (C : Cx w p loose mean mg mb 700 6000 A₀ A base h₀ outer env L) (F : Fr h₀ L s.heap m) (N : News h₀ L s.heap news)
    (hk : kind = k) (hk2 : k < 12) (hl : (l, W.listOf xs.toArray n) ∈ news) (hb : (b, W.listOf ys.toArray nb) ∈ news) (hx : xs.length ≤ 5000) (hy : ys.length ≤ 5000) (hi : kf_ints xs = true) (hp1 : -6000 ≤ place) (hp2 : place ≤ 6000) (hp3 : -6000 ≤ stop) (hp4 : stop ≤ 6000) (ht : times ≤ 10) (ht2 : -10 ≤ times)
    (ret : ∀ D nd tl zs h' tk', dueOf k xs ys place stop step times a ta = .ok zs → Fr h₀ L h' m → News h₀ L h' (tl ++ news) → Newer news tl → (D, W.listOf zs.toArray nd) ∈ tl → Q (.ref D) { s with heap := h', toks := tk' })
    (err : ∀ e tk h' tk', dueOf k xs ys place stop step times a ta = .error e → Fr h₀ L h' m → News h₀ L h' news → Q (.str (Str.ofString e) tk) { s with heap := h', toks := tk' }) :
    wpAny (model prog w) A (call (.ref 355) [.int kind tk, .ref l, .ref b, .int place t1, .int stop t2, .int step t3, .int times t4, .int a ta]) Q E s := by
  refine enter [("kind", .int kind tk), ("row", .ref l), ("added", .ref b), ("place", .int place t1), ("stop", .int stop t2), ("step", .int step t3), ("times", .int times t4), ("value", .int a ta)] C F N (by k_is) (by k_is) (by decide) (BindsTo.of_eq rfl) (locs rfl) ?_ rfl rfl rfl (by decide)
  intro g L' h₁ FG F' N' B' X' T' lt
  try k_fold
  have hl' : Has w news l (W.listOf xs.toArray n) := .inr hl
  have hb' : Has w news b (W.listOf ys.toArray nb) := .inr hb
  k_steps
  rename Fr g L' _ _ => F1
  rename News g L' _ _ => N1
  refine cut_int (z := spotOf xs.length place) F1 N1 ?cut ?core
  case cut =>
    intro Q' hQ'
    rcases Int.lt_or_le place 0 with h0 | h0
    · rw [spot_neg h0] at hQ'
      walk_at "my all"
      rename Fr g L' _ _ => F2
      rename News g L' _ _ => N2
      rw [List.size_toArray]
      exact hQ' _ _ _ F2 N2
    · rw [spot_pos h0] at hQ'
      walk_at "my all"
      rename Fr g L' _ _ => F2
      rename News g L' _ _ => N2
      exact hQ' _ _ _ F2 N2
  intro tk2 h2 tk3 F2 N2
  k_steps
  rename Fr g L' _ _ => F3
  rename News g L' _ _ => N3
  have hin : insideOf xs.length place = (decide (0 ≤ spotOf xs.length place) && decide (spotOf xs.length place < xs.length)) := rfl
  have hs1 : -12000 ≤ spotOf xs.length place := by unfold spotOf; split <;> omega
  have hs2 : spotOf xs.length place ≤ 12000 := by unfold spotOf; split <;> omega
  rw [List.size_toArray] at F3
  generalize hsp : spotOf xs.length place = spot at *
  refine cut_bool (z := insideOf xs.length place) F3 N3 ?cut2 ?core2
  case cut2 =>
    intro Q' hQ'
    refine Compare_chain ?_
    rcases Int.lt_or_le spot 0 with h0 | h0
    · walk_at "my all"
      rename Fr g L' _ _ => F2
      rename News g L' _ _ => N2
      have hd : decide (0 ≤ spot) = false := decide_eq_false (by omega)
      rw [hin, hd, Bool.false_and] at hQ'
      rw [hd]
      exact hQ' _ _ F2 N2
    · walk_at "my all"
      rename Fr g L' _ _ => F2
      rename News g L' _ _ => N2
      rw [hin, decide_eq_true h0, Bool.true_and] at hQ'
      exact hQ' _ _ F2 N2
  intro h4 tk4 F4 N4
  generalize hinb : insideOf xs.length place = inb at *
  obtain rfl | rfl | rfl | rfl | rfl | rfl | rfl | rfl | rfl | rfl | rfl | rfl := lt12 hk2
  · obtain rfl : kind = 0 := hk
    k_steps
    rename Fr g L' _ _ => F5
    rename News g L' _ _ => N5
    show LeaveK h₀ L m g (back Q E) _ _
    refine leaveK_ F5 N5 fun F8 N8 => ret _ 0 [_, _] _ _ _ rfl F8 N8 (Newer.cons (by walk_at "my lt") (Newer.one (by walk_at "my lt"))) (.head _)
  · obtain rfl : kind = 1 := hk
    by_cases hpc : place = xs.length
    · walk_at "my all"
      rename Fr g L' _ _ => F5
      rename News g L' _ _ => N5
      show LeaveK h₀ L m g (back Q E) _ _
      refine leaveK_ F5 N5 fun F8 N8 => ret _ 0 [_, _] _ _ _ (if_pos hpc) F8 N8 (Newer.cons (by walk_at "my lt") (Newer.one (by walk_at "my lt"))) (.head _)
    · cases inb
      · walk_at "my all"
        rename Fr g L' _ _ => F5
        rename News g L' _ _ => N5
        show LeaveK h₀ L m g (back Q E) _ _
        refine leaveK_ F5 N5 fun F8 N8 => err _ _ _ _ ?_ F8 N8
        simp only [dueOf]
        rw [if_neg hpc, hinb]
        rfl
      · have hin' := hin.symm
        simp only [Bool.and_eq_true, decide_eq_true_eq] at hin'
        obtain ⟨j, rfl⟩ : ∃ j : Nat, spot = j := ⟨spot.toNat, by omega⟩
        have e1 := pick_take (xs := xs) (k := j) (by omega)
        have e2 := pick_drop (xs := xs) (k := j + 1) (y := (j : Int) + 1) (by omega)
        walk_at "my all"
        rename Fr g L' _ _ => F5
        rename News g L' _ _ => N5
        rw [take_set (by omega)] at N5
        show LeaveK h₀ L m g (back Q E) _ _
        refine leaveK_ F5 N5 fun F8 N8 => ret _ 0 [_, _, _, _, _] _ _ _ ?_ F8 N8 (Newer.cons (by walk_at "my lt") (Newer.cons (by walk_at "my lt") (Newer.cons (by walk_at "my lt") (Newer.cons (by walk_at "my lt") (Newer.one (by walk_at "my lt")))))) (.head _)
        simp only [dueOf]
        rw [if_neg hpc, hinb, hsp]
        rfl
  · obtain rfl : kind = 2 := hk
    walk_at "my all"
    rename Fr g L' _ _ => F5
    rename News g L' _ _ => N5
    show LeaveK h₀ L m g (back Q E) _ _
    refine leaveK_ F5 N5 fun F8 N8 => ret _ 0 [_] _ _ _ rfl F8 N8 (Newer.one (by walk_at "my lt")) (.head _)
  · obtain rfl : kind = 3 := hk
    walk_at "my all"
    rename Fr g L' _ _ => F5
    rename News g L' _ _ => N5
    show LeaveK h₀ L m g (back Q E) _ _
    refine leaveK_ F5 N5 fun F8 N8 => ret _ 0 [_] _ _ _ rfl F8 N8 (Newer.one (by walk_at "my lt")) (.head _)
  · obtain rfl : kind = 4 := hk
    cases inb
    · walk_at "my all"
      rename Fr g L' _ _ => F5
      rename News g L' _ _ => N5
      show LeaveK h₀ L m g (back Q E) _ _
      refine leaveK_ F5 N5 fun F8 N8 => err _ _ _ _ ?_ F8 N8
      simp only [dueOf]
      rw [hinb]
      rfl
    · have hin' := hin.symm
      simp only [Bool.and_eq_true, decide_eq_true_eq] at hin'
      obtain ⟨j, rfl⟩ : ∃ j : Nat, spot = j := ⟨spot.toNat, by omega⟩
      have e1 := pick_take (xs := xs) (k := j) (by omega)
      have e2 := pick_drop (xs := xs) (k := j + 1) (y := (j : Int) + 1) (by omega)
      walk_at "my all"
      rename Fr g L' _ _ => F5
      rename News g L' _ _ => N5
      rw [take_erase] at N5
      show LeaveK h₀ L m g (back Q E) _ _
      refine leaveK_ F5 N5 fun F8 N8 => ret _ 0 [_, _, _] _ _ _ ?_ F8 N8 (Newer.cons (by walk_at "my lt") (Newer.cons (by walk_at "my lt") (Newer.one (by walk_at "my lt")))) (.head _)
      simp only [dueOf]
      rw [hinb, hsp]
      rfl
  · obtain rfl : kind = 5 := hk
    k_steps
    rename Fr g L' _ _ => F5
    rename News g L' _ _ => N5
    refine cut_int (z := spotOf xs.length stop) F5 N5 ?cut3 ?core3
    case cut3 =>
      intro Q' hQ'
      rcases Int.lt_or_le stop 0 with h0 | h0
      · rw [spot_neg h0] at hQ'
        walk_at "my all"
        rename Fr g L' _ _ => F2
        rename News g L' _ _ => N2
        exact hQ' _ _ _ F2 N2
      · rw [spot_pos h0] at hQ'
        walk_at "my all"
        rename Fr g L' _ _ => F2
        rename News g L' _ _ => N2
        exact hQ' _ _ _ F2 N2
    intro tk6 h6 tk7 F6 N6
    have hlo := low_is (n := xs.length) hsp
    have hhi := low_is (n := xs.length) (x := stop) rfl
    generalize spotOf xs.length stop = spot2 at *
    have e1 := pick_take (xs := xs) (k := lowOf xs.length place) low_le
    rw [← hlo] at e1
    have e2 := pick_drop (xs := xs) (k := max (lowOf xs.length place) (lowOf xs.length stop)) (y := max (min (max spot 0) ↑xs.length) (min (max spot2 0) ↑xs.length)) (by omega)
    k_steps
    rename Fr g L' _ _ => F5
    rename News g L' _ _ => N5
    show LeaveK h₀ L m g (back Q E) _ _
    refine leaveK_ F5 N5 fun F8 N8 => ret _ 0 [_, _, _] _ _ _ rfl F8 N8 (Newer.cons (by walk_at "my lt") (Newer.cons (by walk_at "my lt") (Newer.one (by walk_at "my lt")))) (.head _)
  · obtain rfl : kind = 6 := hk
    walk_at "my all"
    rename Fr g L' _ _ => F5
    rename News g L' _ _ => N5
    have hany := any_at (a := a) (xs := xs)
    cases hka : kf_at a xs with
    | none =>
      rw [hka] at hany
      refine kf_notin (b := true) N5 hl (by simpa using hi) (by simpa using hany) ?_
      walk_at "my all"
      show LeaveK h₀ L m g (back Q E) _ _
      refine leaveK_ F5 N5 fun F8 N8 => err _ _ _ _ ?_ F8 N8
      simp only [dueOf]
      rw [hka]
    | some j =>
      rw [hka] at hany
      obtain ⟨hj, _⟩ := kf_at_spec hka
      refine kf_notin (b := false) N5 hl (by simpa using hi) (by simpa using hany) ?_
      walk_at "my all"
      refine kf_index N5 hl (by simpa using hi) (by simpa using hka) rfl (by rw [sizeLine_eq]; simp; omega) ?_
      have e1 := pick_take (xs := xs) (k := j) (by omega)
      have e2 := pick_drop (xs := xs) (k := j + 1) (y := (j : Int) + 1) (by omega)
      walk_at "my all"
      rename Fr g L' _ _ => F6
      rename News g L' _ _ => N6
      rw [take_erase] at N6
      show LeaveK h₀ L m g (back Q E) _ _
      refine leaveK_ F6 N6 fun F8 N8 => ret _ 0 [_, _, _] _ _ _ ?_ F8 N8 (Newer.cons (by walk_at "my lt") (Newer.cons (by walk_at "my lt") (Newer.one (by walk_at "my lt")))) (.head _)
      simp only [dueOf]
      rw [hka]
  · obtain rfl : kind = 7 := hk
    by_cases hst : step = 0
    · walk_at "my all"
      rename Fr g L' _ _ => F5
      rename News g L' _ _ => N5
      show LeaveK h₀ L m g (back Q E) _ _
      exact leaveK_ F5 N5 fun F8 N8 => err _ _ _ _ (if_pos hst) F8 N8
    · have hst' : some step ≠ some 0 := by simpa using hst
      walk_at "my all"
      rename Fr g L' _ _ => F5
      rename News g L' _ _ => N5
      show LeaveK h₀ L m g (back Q E) _ _
      exact leaveK_ F5 N5 fun F8 N8 => ret _ 0 [_] _ _ _ (if_neg hst) F8 N8 (Newer.one (by walk_at "my lt")) (.head _)
  · obtain rfl : kind = 8 := hk
    walk_at "my all"
    rename Fr g L' _ _ => F5
    rename News g L' _ _ => N5
    refine mull_list F5 N5 (N5 _ hl).1 (by omega) (by omega) (by omega) fun D h9 F9 N9 l9 => ?_
    rw [show (max times 0).toNat = times.toNat by omega] at N9
    k_steps
    show LeaveK h₀ L m g (back Q E) _ _
    exact leaveK_ F9 N9 fun F8 N8 => ret _ 0 [_] _ _ _ rfl F8 N8 (Newer.one l9) (.head _)
  · obtain rfl : kind = 9 := hk
    walk_at "my all"
    rename Fr g L' _ _ => F5
    rename News g L' _ _ => N5
    refine mull_list F5 N5 (N5 _ hl).1 (by omega) (by omega) (by omega) fun D h9 F9 N9 l9 => ?_
    rw [show (max times 0).toNat = times.toNat by omega] at N9
    k_steps
    show LeaveK h₀ L m g (back Q E) _ _
    exact leaveK_ F9 N9 fun F8 N8 => ret _ 0 [_] _ _ _ rfl F8 N8 (Newer.one l9) (.head _)
  · obtain rfl : kind = 10 := hk
    have e1 := pick_all (xs := xs)
    walk_at "my all"
    rename Fr g L' _ _ => F5
    rename News g L' _ _ => N5
    show LeaveK h₀ L m g (back Q E) _ _
    exact leaveK_ F5 N5 fun F8 N8 => ret _ 0 [_] _ _ _ rfl F8 N8 (Newer.one (by walk_at "my lt")) (.head _)
  · obtain rfl : kind = 11 := hk
    cases inb
    · walk_at "my all"
      rename Fr g L' _ _ => F5
      rename News g L' _ _ => N5
      show LeaveK h₀ L m g (back Q E) _ _
      refine leaveK_ F5 N5 fun F8 N8 => err _ _ _ _ ?_ F8 N8
      simp only [dueOf]
      rw [hinb]
      rfl
    · have hin' := hin.symm
      simp only [Bool.and_eq_true, decide_eq_true_eq] at hin'
      obtain ⟨j, rfl⟩ : ∃ j : Nat, spot = j := ⟨spot.toNat, by omega⟩
      have e1 : xs[j]? = some (xs[j]'(by omega)) := by simp
      generalize xs[j]'(by omega) = xj at e1
      walk_at "my all"
      rename Fr g L' _ _ => F5
      rename News g L' _ _ => N5
      show LeaveK h₀ L m g (back Q E) _ _
      refine leaveK_ F5 N5 fun F8 N8 => ret _ 0 [_, _] _ _ _ ?_ F8 N8 (Newer.cons (by walk_at "my lt") (Newer.one (by walk_at "my lt"))) (.head _)
      simp only [dueOf]
      rw [hinb, hsp]
      simp [e1]
end

theorem int_mul_vec (a : Int) (t : Tok) (x dx : Addr) (c r sh tt o : Value) :
    Meets (Builtin.«int.__mul__» ⟨[.int a t, .ref x], []⟩) (fun _ R s => s.heap.get? x = some (vecObj dx c r sh tt o) ∧ R (.ok (.ret Value.notImplemented)) s) :=
  .of_wp fun prog w A R s h => by obtain ⟨hp, g, d, tk, os⟩ := s; obtain ⟨hl, h⟩ := h; wp_walk; exact ⟨_, rfl, h⟩
theorem noAdd_list : fillsNumberSlot (.type "list") "add" = pure false := by kernel_rfl
theorem noAdd_tuple : fillsNumberSlot (.type "tuple") "add" = pure false := by kernel_rfl
section
variable {prog : Program} {w : World} {A : Around} {E : Value → Shared → Prop} {s : Shared} {x L f : Addr} {h₀ : Heap} {m : Str → Option Value} {dx : Addr} {c r sh tt o : Value} {od : Option Obj} {Q : Value → Shared → Prop}
theorem first303 : ∃ cd rest, clsIn (hd.heap_39 w.params) 303 = some cd ∧ cd.mro = .ref 303 :: rest := ksp_first (by k_is)
/-- a vector plus a list or a tuple -/
theorem add_own {b : Value} {T : String} (F : Fr h₀ L s.heap m) (X₀ : (hd.heap_39 w.params).In h₀) (I : InstAt s.heap x (vecObj dx c r sh tt o) 303 od) (hb : s.TypeIs b T)
    (hn : fillsNumberSlot (.type T) "add" = pure false)
    (h : wpAny (model prog w) A (call (.ref 99) [.ref x, b]) (W.CmpBack Q) E s) : wpAny (model prog w) A (binaryOp .Add (.ref x) b) Q E s := by
  have X := X₀.keeps F.keep
  obtain ⟨cd, rest, hcd, hm⟩ := first303 (w := w)
  have hs : findIn (hd.heap_39 w.params) (.ref 303) (PySem.dunder "add") = some (some (.ref 99)) := by k_is
  have hf : isFn (hd.heap_39 w.params) (.ref 99) = true := by k_is
  have hne : (Value.ref 303 == Value.type T) = false := Bool.eq_false_iff.mpr fun q => by cases beq_iff_eq.mp q
  unfold binaryOp
  refine wpAny_holding (wpAny_bind ?_)
  unfold binaryOp1
  refine wpAny_bind (I.type.here (wpAny_bind (wpAny_typeOf hb (wpAny_bind ((fills_K X hcd hm hs).here ?_)))))
  refine ite_f hne ?_
  refine wpAny_bind (wpAny_of_eq hn ?_)
  repeat (first | refine ite_f rfl ?_ | refine ite_t rfl ?_ | refine wpAny_bind (wpAny_pure ?_))
  refine wpAny_bind (wpAny_mono (ksp_try X I hs hf h) (fun v s' hv => ?_) fun _ _ e => e)
  obtain ⟨v, rfl, hq⟩ := hv
  exact wpAny_pure (wpAny_pure hq)
/-- a number times a vector -/
theorem rmul_own {k : Int} {u : Tok} (F : Fr h₀ L s.heap m) (X₀ : (hd.heap_39 w.params).In h₀) (I : InstAt s.heap x (vecObj dx c r sh tt o) 303 od)
    (h : wpAny (model prog w) A (call (.ref 169) [.ref x, .int k u]) (W.CmpBack Q) E s) : wpAny (model prog w) A (binaryOp .Mult (.int k u) (.ref x)) Q E s := by
  have X := X₀.keeps F.keep
  obtain ⟨cd, rest, hcd, hm⟩ := first303 (w := w)
  have hs : findIn (hd.heap_39 w.params) (.ref 303) (PySem.dunder "mul") = some (some (.ref 169)) := by k_is
  have hr : findIn (hd.heap_39 w.params) (.ref 303) (dunderR "mul") = some (some (.ref 169)) := by k_is
  have hf : isFn (hd.heap_39 w.params) (.ref 169) = true := by k_is
  have hne : (Value.type "int" == Value.ref 303) = false := rfl
  have L5 : Looks (model prog w) s.heap (isSubtype (.ref 303) (.type "int")) false := looks_subIn X (by k_is)
  unfold binaryOp
  refine wpAny_holding (wpAny_bind ?_)
  unfold binaryOp1
  refine wpAny_bind (wpAny_typeOf (typeIs_int s k u) (wpAny_bind (I.type.here (wpAny_bind (wpAny_of_eq PySem.F.fills_int_mul ?_)))))
  refine ite_f hne ?_
  refine wpAny_bind ((fills_K X hcd hm hs).here ?_)
  repeat (first | refine ite_f rfl ?_ | refine ite_t rfl ?_ | refine wpAny_bind (wpAny_pure ?_))
  refine wpAny_bind (L5.here ?_)
  repeat (first | refine ite_f rfl ?_ | refine ite_t rfl ?_ | refine wpAny_bind (wpAny_pure ?_))
  repeat (first | refine ite_f rfl ?_ | refine ite_t rfl ?_ | refine wpAny_bind (wpAny_pure ?_))
  have hc : wpAny (model prog w) A (call (.builtin "int.__mul__") [.int k u, .ref x]) (fun v s' => v = .notImplemented ∧ s' = s) E s :=
    call_meets PySem.F.slot_int_mul (typeIs_int s k u) PySem.F.entry_int_mul (PySem.F.args_int_mul_2 _ _) (int_mul_vec k u x dx c r sh tt o) ⟨I.1, rfl, rfl⟩
  have hc2 : wpAny (model prog w) A (call (.builtin "int.__mul__") [.int k u, .ref x]) (fun v s' => v = .notImplemented ∧ (none : Option Value) = none ∧ s' = s) E s := wpAny_mono hc (fun v s' q => ⟨q.1, rfl, q.2⟩) fun _ _ e => e
  have ht1 := @wpAny_tryMethod_declines (model prog w) A E s (.int k u) (.ref x) "int" (PySem.dunder "mul") "int.__mul__" (fun (v : Option Value) s' => v = none ∧ s' = s) (typeIs_int s k u) PySem.F.slot_int_mul
  have ht := ht1 hc2
  have ht2 := ksp_try X I hr hf h
  repeat (first | refine ite_f rfl ?_ | refine ite_t rfl ?_ | refine wpAny_bind (wpAny_pure ?_))
  refine wpAny_bind (wpAny_mono ht (fun v s' hv => ?_) fun _ _ e => e)
  obtain ⟨rfl, rfl⟩ := hv
  repeat (first | refine ite_f rfl ?_ | refine ite_t rfl ?_ | refine wpAny_bind (wpAny_pure ?_))
  refine wpAny_bind (wpAny_mono ht2 (fun v s' hv => ?_) fun _ _ e => e)
  obtain ⟨v, rfl, hq⟩ := hv
  exact wpAny_bind (wpAny_rule (wpAny_pure (wpAny_pure hq)))
end

theorem seqIndex_is {i : Int} {n : Nat} : seqIndex? i n = if insideOf n i then some (spotOf n i).toNat else none := by
  unfold seqIndex? insideOf spotOf
  simp only [Bool.and_eq_true, decide_eq_true_eq]
theorem kms_low {n : Nat} {x : Int} : kms_lo (some x) n = lowOf n x := by
  unfold lowOf spotOf kms_lo
  rcases Int.lt_or_le x 0 with h | h
  · simp only [if_pos h]
    rw [Int.min_eq_left (Int.max_le.mpr ⟨by omega, by omega⟩)]
    omega
  · simp only [if_neg (Int.not_lt.mpr h)]
    rw [Int.max_eq_left h]
    omega
theorem kms_high {n : Nat} {x : Int} : kms_hi (some x) n = lowOf n x := kms_low
theorem del_is {xs : List Value} {i j : Int} : delPick xs (sliceBounds (some i) (some j) none xs.length).1 (sliceBounds (some i) (some j) none xs.length).2.1 (sliceBounds (some i) (some j) none xs.length).2.2 = xs.take (lowOf xs.length i) ++ xs.drop (max (lowOf xs.length i) (lowOf xs.length j)) := by
  rw [kms_bounds, kms_low, kms_high]
  exact delPick_one _ _ _
theorem due_set {xs ys : List Value} {place stop step times a : Int} {ta : Tok} {j : Nat} (h1 : place < 0 → (j : Int) = place + xs.length) (h2 : 0 ≤ place → (j : Int) = place) (h3 : j ≤ xs.length) :
    dueOf 1 xs ys place stop step times a ta = .ok (if j < xs.length then xs.set j (.int a ta) else xs ++ [.int a ta]) := by
  have hsp : spotOf xs.length place = j := by unfold spotOf; split <;> omega
  simp only [dueOf]
  by_cases hn : place = xs.length
  · rw [if_pos hn, if_neg (by omega)]
  · have hin : insideOf xs.length place = true := by unfold insideOf; rw [hsp]; simp only [Bool.and_eq_true, decide_eq_true_eq]; omega
    rw [if_neg hn, hin, if_pos rfl, hsp, if_pos (by omega)]
    rfl
theorem inside_out {n : Nat} {place : Int} (h : place < -n ∨ (n : Int) ≤ place) : insideOf n place = false := by
  unfold insideOf spotOf
  simp only [Bool.and_eq_false_iff, decide_eq_false_iff_not]
  split <;> omega
theorem due_set_out {xs ys : List Value} {place stop step times a : Int} {ta : Tok} (h : place < -xs.length ∨ (xs.length : Int) < place) : dueOf 1 xs ys place stop step times a ta = .error "IndexError" := by
  simp only [dueOf]
  rw [if_neg (by omega), inside_out (by omega)]
  rfl
theorem due_del {xs ys : List Value} {place stop step times a : Int} {ta : Tok} {j : Nat} (h : seqIndex? place xs.length = some j) : dueOf 4 xs ys place stop step times a ta = .ok (xs.eraseIdx j) := by
  rw [seqIndex_is] at h
  simp only [dueOf]
  split at h
  · cases h; rename_i q; rw [q]; rfl
  · cases h
theorem due_del_out {xs ys : List Value} {place stop step times a : Int} {ta : Tok} (h : seqIndex? place xs.length = none) : dueOf 4 xs ys place stop step times a ta = .error "IndexError" := by
  rw [seqIndex_is] at h
  simp only [dueOf]
  split at h
  · cases h
  · rename_i q; rw [if_neg q]
theorem due_item {xs ys : List Value} {place stop step times a : Int} {ta : Tok} {j : Nat} {v : Value} (h1 : place < 0 → (j : Int) = place + xs.length) (h2 : 0 ≤ place → (j : Int) = place) (h3 : xs[j]? = some v) :
    dueOf 11 xs ys place stop step times a ta = .ok (xs ++ [v]) := by
  have hj : j < xs.length := by
    rcases Nat.lt_or_ge j xs.length with q | q
    · exact q
    · rw [List.getElem?_eq_none q] at h3; cases h3
  have hsp : spotOf xs.length place = j := by unfold spotOf; split <;> omega
  have hin : insideOf xs.length place = true := by unfold insideOf; rw [hsp]; simp only [Bool.and_eq_true, decide_eq_true_eq]; omega
  simp only [dueOf]
  rw [hin, hsp, show (j : Int).toNat = j by omega, h3]
  rfl
theorem due_item_out {xs ys : List Value} {place stop step times a : Int} {ta : Tok} (h : place < -xs.length ∨ (xs.length : Int) ≤ place) : dueOf 11 xs ys place stop step times a ta = .error "IndexError" := by
  simp only [dueOf]
  rw [inside_out h]
  rfl
theorem PV.ref {w : World} {Z : List (Addr × Obj)} {v : Value} {xs : List Value} (h : PV w Z v xs) : ∃ a, v = .ref a := by obtain ⟨x, _, _, _, _, _, _, _, _, _, _, rfl, _⟩ := h; exact ⟨x, rfl⟩
theorem SeqLike.ref {w : World} {Z : List (Addr × Obj)} {v : Value} {xs : List Value} (h : SeqLike w Z v xs) : ∃ a, v = .ref a := by
  rcases h with ⟨a, n, rfl, _⟩ | ⟨a, n, rfl, _⟩ | h
  · exact ⟨a, rfl⟩
  · exact ⟨a, rfl⟩
  · exact h.ref
section
variable {w : World} {p : Program} {loose : List Str} {mean : ExcName → Option Value} {mg mb : Str → Option Value} {A₀ A : Around} {base h₀ : Heap} {L : Addr}
  {m : Str → Option Value} {news Z : List (Addr × Obj)} {s : Shared} {Q E : Value → Shared → Prop} {prog : Program} {cn : Str} {cs : Scope} {ca : Addr} {ccd : Value}
/-- enters a def that may catch, from the frame at the bottom -/
theorem enterS {D U : Nat} {name qual : Str} {params : Arguments} {body : List Stmt} {scope : Scope} {dV kV doc pm cdv ct oc : Value} {an od : Option Addr} {osl : Array (Option Value)} {f : Addr} {args : List Value} (binds : List (Str × Value))
    (C : Cx w p loose mean mg mb D U A₀ A base h₀ [] (envOf cn cs L ca ccd) L) (F : Fr h₀ L s.heap m) (N : News h₀ L s.heap news)
    (ho : (hd.heap_39 w.params).lookup f = some ⟨oc, od, .func (fnOf name qual params body scope dV kV doc pm an cdv ct), osl⟩) (hcd : codeIn (hd.heap_39 w.params) cdv qual = true) (hroom : D < recursionLimit)
    (hbind : BindsTo s (fnOf name qual params body scope dV kV doc pm an cdv ct) ⟨args, []⟩ binds) (hloc : ∀ y ∈ binds, scope.names.lookup y.1 = some .local)
    (h : ∀ g L' h₁, Fr h₀ L g m → Fr g L' h₁ (fun y => binds.reverse.lookup y) → News g L' h₁ news → Below (topA D U A.guards (envOf cn cs L ca ccd) []) base [envOf cn cs L ca ccd] g → (hd.heap_39 w.params).In g → Top p loose mean mg mb g →
      KtsDicts ([envOf cn cs L ca ccd].filterMap (·.frame)) g →
      wpAny (model prog w) ((topA D U A.guards (envOf cn cs L ca ccd) []).deeper (envOf qual scope L' f cdv)) (execs body (envOf qual scope L' f cdv))
        (fun fl s' => LeaveS0 ([envOf cn cs L ca ccd].filterMap (·.frame)) h₀ L m g (back Q E) (match fl with | .ret v => v | _ => .none) s')
        (fun e s' => wpAny (model prog w) ((topA D U A.guards (envOf cn cs L ca ccd) []).deeper (envOf qual scope L' f cdv)) (leaving (envOf qual scope L' f cdv) e) (fun _ s'' => E e s'') E s')
        { s with heap := h₁, toks := s.toks + binds.length })
    (hco : scope.isCoroutine = false) (hgen : scope.isGenerator = false) (hk : scope.kind = .function)
    (hcell : ∀ x ∈ scope.names, x.2 ≠ .cell) : wpAny (model prog w) A (call (.ref f) args) Q E s := by
  refine weaken (A' := topA D U A.guards (envOf cn cs L ca ccd) []) C.hh C.hA rfl C.hd C.hu ?_
  refine wpAny_call ?_
  exact code_defS0 (R := back Q E) C.B F C.X N C.T rfl ho hcd hroom hbind hloc h C.hke hco hgen hk hcell
local macro_rules | `(tactic| walk_at "binaryOp Add ref ref") => `(tactic| (with_reducible refine st_k ?_))
local macro_rules | `(tactic| walk_at "binaryOp Mult int ref") => `(tactic| (with_reducible refine st_l ?_))
local macro_rules | `(tactic| walk_at "subscriptTail Name Slice ref ref") => `(tactic| (with_reducible refine st_m ?_))
set_option maxHeartbeats 0 in
theorem done_spec {kind : Int} {k : Nat} {tk ta t1 t2 t3 t4 : Tok} {v hv : Value} {xs ys : List Value} {place stop step times a : Int} (C : Cx w p loose mean mg mb 700 6000 A₀ A base h₀ [] (envOf cn cs L ca ccd) L) (F : Fr h₀ L s.heap m) (N : News h₀ L s.heap news)
    (XB : (hd.heap_39 w.params).In base) (TB : Top p loose mean mg mb base) (hz : ∀ p ∈ Z, p ∈ news) (P : PV w Z v xs) (ho : SeqLike w news hv ys)
    (hk : kind = k) (hk2 : k < 12) (hx : xs.length ≤ 5000) (hy : ys.length ≤ 5000) (hi : kf_ints xs = true) (hp1 : -6000 ≤ place) (hp2 : place ≤ 6000) (ht : times ≤ 10)
    (ret : ∀ r tl zs h' tk', dueOf k xs ys place stop step times a ta = .ok zs → Fr h₀ L h' m → News h₀ L h' (tl ++ news) → Newer news tl → PV w (tl ++ Z) r zs → Q r { s with heap := h', toks := tk' })
    (err : ∀ e tk h' tk', dueOf k xs ys place stop step times a ta = .error e → Fr h₀ L h' m → News h₀ L h' news → Q (.str (Str.ofString e) tk) { s with heap := h', toks := tk' }) :
    wpAny (model prog w) A (call (.ref 362) [.int kind tk, v, hv, .int place t1, .int stop t2, .int step t3, .int times t4, .int a ta]) Q E s := by
  have P' := P
  obtain ⟨x, dx, t, e, n, tc, ts, to, root, ls, vs, rfl, ⟨po, pd, pt, pl, plen, pe⟩, hfl⟩ := P
  obtain ⟨ah, rfl⟩ := ho.ref
  refine enterS [("kind", .int kind tk), ("vector", .ref x), ("handed", .ref ah), ("place", .int place t1), ("stop", .int stop t2), ("step", .int step t3), ("times", .int times t4), ("value", .int a ta)] C F N (by k_is) (by k_is) (by decide) (BindsTo.of_eq rfl) (locs rfl) ?_ rfl rfl rfl (by decide)
  intro g L' h₁ FG F' N' B' X' T' D'
  try k_fold
  obtain rfl | rfl | rfl | rfl | rfl | rfl | rfl | rfl | rfl | rfl | rfl | rfl := lt12 hk2
  · obtain rfl : kind = 0 := hk
    k_steps
    rename Fr g L' _ _ => F1
    rename News g L' _ _ => N1
    refine append_pv ⟨B', X', T', rfl, rfl, rfl, rfl, Nat.le_of_ble_eq_true rfl, Nat.le_of_ble_eq_true rfl⟩ F1 N1 hz P' (by omega) ?_
    intro r tl h' tk' F9 N9 l9 P9
    k_steps
    show LeaveS0 _ h₀ L m g (back Q E) _ _
    exact leaveS0_ F9 N9 KtsTurn.refl fun F8 N8 => ret _ _ _ _ _ (rfl) F8 N8 l9 P9
  · obtain rfl : kind = 1 := hk
    k_steps
    rename Fr g L' _ _ => F1
    rename News g L' _ _ => N1
    refine set_spec ⟨B', X', T', rfl, rfl, rfl, rfl, Nat.le_of_ble_eq_true rfl, Nat.le_of_ble_eq_true rfl⟩ F1 N1 hz P' (by omega) (by omega) (by omega) ?_ ?_
    · intro r j tl h' tk' hj1 hj2 hj3 F9 N9 l9 P9
      k_steps
      show LeaveS0 _ h₀ L m g (back Q E) _ _
      exact leaveS0_ F9 N9 KtsTurn.refl fun F8 N8 => ret _ _ _ _ _ (due_set hj1 hj2 hj3) F8 N8 l9 P9
    · intro hbad e9 s9 R9
      obtain ⟨G, xa, h9, tk9, rfl, rfl, FX, RX, UX⟩ := R9
      k_steps
      rename Fr _ L' _ _ => F5
      rename News _ L' _ _ => N5
      show LeaveS0 _ h₀ L m g (back Q E) _ _
      exact leaveS0_ F5 N5 (by assumption) fun F8 N8 => err _ _ _ _ (due_set_out hbad) F8 N8
  · obtain rfl : kind = 2 := hk
    k_steps
    rename Fr g L' _ _ => F1
    rename News g L' _ _ => N1
    refine extend_pv ⟨B', X', T', rfl, rfl, rfl, rfl, Nat.le_of_ble_eq_true rfl, Nat.le_of_ble_eq_true rfl⟩ F1 N1 hz P' ho (by omega) ?_
    intro r tl h' tk' F9 N9 l9 P9
    k_steps
    show LeaveS0 _ h₀ L m g (back Q E) _ _
    exact leaveS0_ F9 N9 KtsTurn.refl fun F8 N8 => ret _ _ _ _ _ (rfl) F8 N8 l9 P9
  · obtain rfl : kind = 3 := hk
    k_steps
    rename Fr g L' _ _ => F1
    rename News g L' _ _ => N1
    have I1 := inst_has po pd X' F1 N1 hz
    have hadd : ∀ (Q' : Value → Shared → Prop) (E' : Value → Shared → Prop) (A' : Around) (s' : Shared), s'.heap = h₁ → wpAny (model prog w) A' (call (.ref 99) [.ref x, .ref ah]) (W.CmpBack Q') E' s' → wpAny (model prog w) A' (binaryOp .Add (.ref x) (.ref ah)) Q' E' s' := by
      intro Q' E' A' s' es h
      obtain ⟨hp, ga, da, ta', oa⟩ := s'
      obtain rfl : hp = h₁ := es
      rcases ho with ⟨a', na, e1, ha⟩ | ⟨a', na, e1, ha⟩ | hpv
      · cases e1
        exact add_own F1 X' I1 ⟨_, ha.get X' F1 N1 sub_refl, rfl⟩ noAdd_list h
      · cases e1
        exact add_own F1 X' I1 ⟨_, ha.get X' F1 N1 sub_refl, rfl⟩ noAdd_tuple h
      · obtain ⟨x2, dx2, t2, e2, n2, tc2, ts2, to2, root2, ls2, vs2, e1, ⟨po2, pd2, _, _, _, _⟩, _⟩ := hpv
        cases e1
        exact binop_K F1 X' I1 (inst_has po2 pd2 X' F1 N1 sub_refl).type (by k_is) (by k_is) (by k_is) h
    refine hadd _ _ _ _ rfl ?_
    refine add_spec ⟨B', X', T', rfl, rfl, rfl, rfl, Nat.le_of_ble_eq_true rfl, Nat.le_of_ble_eq_true rfl⟩ F1 N1 hz P' ho (by omega) ?_
    intro r tl h' tk' F9 N9 l9 P9
    obtain ⟨ar, rfl⟩ := P9.ref
    k_steps
    show LeaveS0 _ h₀ L m g (back Q E) _ _
    exact leaveS0_ F9 N9 KtsTurn.refl fun F8 N8 => ret _ _ _ _ _ rfl F8 N8 l9 P9
  · obtain rfl : kind = 4 := hk
    k_steps
    rename Fr g L' _ _ => F1
    rename News g L' _ _ => N1
    refine delete1_spec ⟨B', X', T', rfl, rfl, rfl, rfl, Nat.le_of_ble_eq_true rfl, Nat.le_of_ble_eq_true rfl⟩ F1 N1 hz P' (by omega) (by omega) (by omega) ?_ ?_
    · intro j r tl h' tk' hj F9 N9 l9 P9
      k_steps
      show LeaveS0 _ h₀ L m g (back Q E) _ _
      exact leaveS0_ F9 N9 KtsTurn.refl fun F8 N8 => ret _ _ _ _ _ (due_del hj) F8 N8 l9 P9
    · intro hbad e9 s9 R9
      obtain ⟨G, xa, h9, tk9, rfl, rfl, FX, RX, UX⟩ := R9
      k_steps
      rename Fr _ L' _ _ => F5
      rename News _ L' _ _ => N5
      show LeaveS0 _ h₀ L m g (back Q E) _ _
      exact leaveS0_ F5 N5 (by assumption) fun F8 N8 => err _ _ _ _ (due_del_out hbad) F8 N8
  · obtain rfl : kind = 5 := hk
    k_steps
    rename Fr g L' _ _ => F1
    rename News g L' _ _ => N1
    refine delete2_spec ⟨B', X', T', rfl, rfl, rfl, rfl, Nat.le_of_ble_eq_true rfl, Nat.le_of_ble_eq_true rfl⟩ F1 N1 hz P' (by omega) ?_
    intro r tl h' tk' F9 N9 l9 P9
    rw [del_is] at P9
    k_steps
    show LeaveS0 _ h₀ L m g (back Q E) _ _
    exact leaveS0_ F9 N9 KtsTurn.refl fun F8 N8 => ret _ _ _ _ _ rfl F8 N8 l9 P9
  · obtain rfl : kind = 6 := hk
    k_steps
    rename Fr g L' _ _ => F1
    rename News g L' _ _ => N1
    refine remove_spec ⟨B', X', T', rfl, rfl, rfl, rfl, Nat.le_of_ble_eq_true rfl, Nat.le_of_ble_eq_true rfl⟩ F1 N1 hz P' (by omega) hi ?_ ?_
    · intro j r tl h' tk' hj F9 N9 l9 P9
      k_steps
      show LeaveS0 _ h₀ L m g (back Q E) _ _
      exact leaveS0_ F9 N9 KtsTurn.refl fun F8 N8 => ret _ _ _ _ _ (by simp only [dueOf]; rw [hj]) F8 N8 l9 P9
    · intro hbad e9 s9 R9
      obtain ⟨G, xa, h9, tk9, rfl, rfl, FX, RX, UX⟩ := R9
      k_steps
      rename Fr _ L' _ _ => F5
      rename News _ L' _ _ => N5
      show LeaveS0 _ h₀ L m g (back Q E) _ _
      exact leaveS0_ F5 N5 (by assumption) fun F8 N8 => err _ _ _ _ (by simp only [dueOf]; rw [hbad]) F8 N8
  · obtain rfl : kind = 7 := hk
    k_steps
    rename Fr g L' _ _ => F1
    rename News g L' _ _ => N1
    have N2 := N1.push F1 (sliceOf (.int place t1) (.int stop t2) (.int step t3))
    have F2 := F1.push (sliceOf (.int place t1) (.int stop t2) (.int step t3))
    refine sub_K F2 X' (inst_has po pd X' F2 N2 (sub_cons hz)) (by k_is) (by k_is) (by k_is) ?_
    refine getslice_spec ⟨B', X', T', rfl, rfl, rfl, rfl, Nat.le_of_ble_eq_true rfl, Nat.le_of_ble_eq_true rfl⟩ F2 N2 (sub_cons hz) P' (by omega) (.head _) ?_ ?_
    · intro hst r tl h' tk' F9 N9 l9 P9
      k_steps
      show LeaveS0 _ h₀ L m g (back Q E) _ _
      exact leaveS0_ F9 N9 KtsTurn.refl fun F8 N8 => ret _ tl _ _ _ (if_neg hst) F8 (news_sub N8 sub_mid) (fun q hq p hp => l9 q (.tail _ hq) p hp) P9
    · intro hbad e9 s9 R9
      obtain ⟨G, xa, h9, tk9, rfl, rfl, FX, RX, UX⟩ := R9
      k_steps
      rename Fr _ L' _ _ => F5
      rename News _ L' _ _ => N5
      show LeaveS0 _ h₀ L m g (back Q E) _ _
      exact leaveS0_ F5 N5 (by assumption) fun F8 N8 => err _ _ _ _ (if_pos hbad) F8 (news_sub N8 (sub_cons sub_refl))
  · obtain rfl : kind = 8 := hk
    k_steps
    rename Fr g L' _ _ => F1
    rename News g L' _ _ => N1
    refine mul_spec ⟨B', X', T', rfl, rfl, rfl, rfl, Nat.le_of_ble_eq_true rfl, Nat.le_of_ble_eq_true rfl⟩ F1 N1 hz P' hx ht ?_
    intro r tl h' tk' F9 N9 l9 P9
    obtain ⟨ar, rfl⟩ := P9.ref
    k_steps
    show LeaveS0 _ h₀ L m g (back Q E) _ _
    exact leaveS0_ F9 N9 KtsTurn.refl fun F8 N8 => ret _ _ _ _ _ rfl F8 N8 l9 P9
  · obtain rfl : kind = 9 := hk
    k_steps
    rename Fr g L' _ _ => F1
    rename News g L' _ _ => N1
    refine rmul_own F1 X' (inst_has po pd X' F1 N1 hz) ?_
    refine mul_spec ⟨B', X', T', rfl, rfl, rfl, rfl, Nat.le_of_ble_eq_true rfl, Nat.le_of_ble_eq_true rfl⟩ F1 N1 hz P' hx ht ?_
    intro r tl h' tk' F9 N9 l9 P9
    obtain ⟨ar, rfl⟩ := P9.ref
    k_steps
    show LeaveS0 _ h₀ L m g (back Q E) _ _
    exact leaveS0_ F9 N9 KtsTurn.refl fun F8 N8 => ret _ _ _ _ _ rfl F8 N8 l9 P9
  · obtain rfl : kind = 10 := hk
    k_steps
    rename Fr g L' _ _ => F1
    rename News g L' _ _ => N1
    refine pvec_spec ⟨B', X', T', rfl, rfl, rfl, rfl, Nat.le_of_ble_eq_true rfl, Nat.le_of_ble_eq_true rfl⟩ F1 N1 (.inr (.inr (P'.mono hz))) (by omega) ?_
    intro r tl h' tk' F9 N9 l9 P9
    k_steps
    show LeaveS0 _ h₀ L m g (back Q E) _ _
    exact leaveS0_ F9 N9 KtsTurn.refl fun F8 N8 => ret _ _ _ _ _ rfl F8 N8 l9 (P9.mono (sub_appl sub_refl))
  · obtain rfl : kind = 11 := hk
    k_steps
    rename Fr g L' _ _ => F1
    rename News g L' _ _ => N1
    refine getint_spec ⟨B', X', T', rfl, rfl, rfl, rfl, Nat.le_of_ble_eq_true rfl, Nat.le_of_ble_eq_true rfl⟩ F1 N1 hz P' (by omega) (by omega) (by omega) ?_ ?_
    · intro v j h' tk' hj1 hj2 hj3 F9 N9
      k_steps
      refine append_pv ⟨B', X', T', rfl, rfl, rfl, rfl, Nat.le_of_ble_eq_true rfl, Nat.le_of_ble_eq_true rfl⟩ F9 N9 hz P' (by omega) ?_
      intro r tl h' tk' F9 N9 l9 P9
      k_steps
      show LeaveS0 _ h₀ L m g (back Q E) _ _
      exact leaveS0_ F9 N9 KtsTurn.refl fun F8 N8 => ret _ _ _ _ _ (due_item hj1 hj2 hj3) F8 N8 l9 P9
    · intro hbad e9 s9 R9
      obtain ⟨G, xa, h9, tk9, rfl, rfl, FX, RX, UX⟩ := R9
      k_steps
      rename Fr _ L' _ _ => F5
      rename News _ L' _ _ => N5
      show LeaveS0 _ h₀ L m g (back Q E) _ _
      exact leaveS0_ F5 N5 (by assumption) fun F8 N8 => err _ _ _ _ (due_item_out hbad) F8 N8
end

section
variable {prog : Program} {w : World} {A : Around} {E : Value → Shared → Prop} {s : Shared} {env : Env} {x : Str} {body : List Stmt} {Q : Flow → Shared → Prop}
/-- a loop that stands before its first turn -/
def LoopG (prog : Program) (w : World) (A : Around) (env : Env) (x : Str) (body : List Stmt) (Q : Flow → Shared → Prop) (E : Value → Shared → Prop) (it : Value) (s₂ : Shared) : Prop :=
  ∀ px : Pos, codeAny (model prog w) A (.forLoop (.Name x px) it body [] env) (fun r s' => match r with | .ok f => Q f s' | .error e => cameBackBy (model prog w) A env E e s') s₂
theorem For_G {px pos : Pos} {iter : PySem.Expr} (h : wpAny (model prog w) A (eval iter env) (fun xv s₁ => wpAny (model prog w) A (pyIter xv) (fun it s₂ => LoopG prog w A env x body Q E it s₂) E s₁) E s)
    (hs : ∀ x, foldedSetIterable iter env x = pure x := by intro _; rfl) : wpAny (model prog w) A (exec (.For (.Name x px) iter body [] pos) env) Q E s :=
  wpAny_For (wpAny_mono h (fun _ _ h₁ => wpAny_mono h₁ (fun _ _ h₂ => h₂ px) fun _ _ e => e) fun _ _ e => e) hs
/-- where a turn ends -/
def EndG (L : Addr) (J : Heap → (Str → Option Value) → List (Addr × Obj) → Prop) (own : List (Addr × Obj)) (I : Addr) (s s₂ : Shared) : Prop :=
  ∃ h' tk' g' m' news', s₂ = { s with heap := h', toks := tk' } ∧ Fr g' L h' m' ∧ News g' L h' (own ++ news') ∧ (∀ p ∈ news', p.1 ≠ I) ∧ J g' m' news'
def PostG (L : Addr) (J : Heap → (Str → Option Value) → List (Addr × Obj) → Prop) (own : List (Addr × Obj)) (I : Addr) (s : Shared) (Q : Flow → Shared → Prop) (f : Flow) (s₂ : Shared) : Prop := match f with
  | .ret v => Q (.ret v) s₂
  | .brk => Q .next s₂
  | _ => EndG L J own I s s₂
/-- a for over a list of the ledger's that stands still; the ground may turn -/
theorem iter_G {l : Addr} {us : List Value} {nl : Nat} {g₀ : Heap} {news₀ : List (Addr × Obj)} {m₀ : Str → Option Value} (J : Nat → Heap → (Str → Option Value) → List (Addr × Obj) → Prop)
    (hh : A.handled = none) (F : Fr g₀ env.locals s.heap m₀) (N : News g₀ env.locals s.heap ((l, W.listOf us.toArray nl) :: news₀)) (h0 : J 0 g₀ m₀ news₀)
    (turn : ∀ i v g m₁ news₁ h tk I oI, us[i]? = some v → J i g m₁ news₁ → Fr g env.locals h (fun y => if y = x then some v else m₁ y) → News g env.locals h ([(I, oI), (l, W.listOf us.toArray nl)] ++ news₁) → (∀ p ∈ (l, W.listOf us.toArray nl) :: news₁, p.1 ≠ I) →
      wpAny (model prog w) A (execs body env) (PostG env.locals (J (i + 1)) [(I, oI), (l, W.listOf us.toArray nl)] I s Q) E { s with heap := h, toks := tk })
    (done : ∀ g m₁ news₁ h tk, J us.length g m₁ news₁ → Fr g env.locals h m₁ → News g env.locals h ((l, W.listOf us.toArray nl) :: news₁) → Q .next { s with heap := h, toks := tk })
    (hx : env.kindOf x = some .local := by rfl) (hp : (env.scope.kind == .class || (env.scope.kind == .module && env.locals != env.globals)) = false := by rfl) (hE : PassesOwn (model prog w) A env E := by passes_own) :
    wpAny (model prog w) A (pyIter (.ref l)) (fun it s₂ => LoopG prog w A env x body Q E it s₂) E s := by
  have hls : s.heap.IsList l us.toArray := News.isList N (.head _)
  refine wpAny_pyIter_list hls ?_
  generalize hI : s.heap.objs.size = I
  have nI : ∀ p ∈ (l, W.listOf us.toArray nl) :: news₀, p.1 ≠ I := fun p hp => hI ▸ Nat.ne_of_lt (Heap.lt_size (N p hp).1)
  have hlI : l ≠ I := nI _ (.head _)
  have WK := Walks.list (prog := prog) (w := w) hh I l hlI us.toArray
  have LI : env.locals ≠ I := hI ▸ Nat.ne_of_lt F.ns.lt
  have gI : g₀.get? I = none := hI ▸ next_is_new F
  intro px
  refine codeAny_forLoop (fun k s' => ∃ h' tk g m' news' i, s' = { s with heap := h', toks := tk } ∧ h'.IsListIter I l i ∧ Fr g env.locals h' m' ∧ News g env.locals h' ((l, W.listOf us.toArray nl) :: news') ∧ (∀ p ∈ (l, W.listOf us.toArray nl) :: news', p.1 ≠ I) ∧ g.get? I = none ∧ J i g m' news' ∧ i ≤ us.length ∧ k = us.length + 1 - i)
    ?_ (us.length + 1) ⟨_, s.toks, g₀, m₀, news₀, 0, rfl, ?_, F.push _, (fun p hp => ⟨Heap.get?_push_of_some _ (N p hp).1, (N p hp).2⟩), nI, gI, h0, Nat.zero_le _, rfl⟩
  · rintro k s' ⟨h', tk, g, m', news', i, rfl, hit, F', N', hne, gI', hJ, hi, rfl⟩
    have next : ∀ h₁ : Heap, (∀ b o, b ∉ [I] → h'.get? b = some o → h₁.get? b = some o) → Fr g env.locals h₁ m' ∧ News g env.locals h₁ ((l, W.listOf us.toArray nl) :: news') := fun h₁ hk₁ =>
      ⟨⟨F'.ns.at' fun o e => hk₁ _ o (fun q => LI (List.mem_singleton.mp q)) e, fun b o e => hk₁ b o (fun q => by rw [List.mem_singleton.mp q, gI'] at e; cases e) (F'.keep b o e), F'.above⟩,
        fun p hp => ⟨hk₁ _ _ (fun q => hne p hp (List.mem_singleton.mp q)) (N' p hp).1, (N' p hp).2⟩⟩
    have hl' : h'.IsList l us.toArray := News.isList N' (.head _)
    by_cases hlt : i < us.length
    · refine WK.item i { s with heap := h', toks := tk } _ _ (by simpa using hlt) ⟨hit, hl'⟩ fun v h₁ tk₁ hP hst₁ hk₁ => ?_
      obtain ⟨F₁, N₁⟩ := next h₁ hk₁
      refine wpAny_assign_Name (wpAny_storeName_local hx F₁.ns (fun h₂ hn₂ hs₂ => ?_) hp)
      have F₂ := F₁.set hn₂ hs₂
      have N₂ := N₁.set hs₂
      have hit₂ : h₂.IsListIter I l (i + 1) := hst₁.1.at fun o e => (hs₂.2 I fun q => LI q.symm).trans e
      obtain ⟨oI, hoI, _⟩ := id hit₂
      have N₃ : News g env.locals h₂ ((I, oI) :: (l, W.listOf us.toArray nl) :: news') := fun p hp => by
        rcases List.mem_cons.mp hp with rfl | hp
        · exact ⟨hoI, Ne.symm LI, gI'⟩
        · exact N₂ p hp
      refine wpAny_passesOwn hE (wpAny_mono (turn i v g m' news' h₂ (tk₁ + 1) I oI (by simpa using hP) hJ F₂ N₃ hne) (fun f s₃ h₃ => ?_) fun _ _ e => e)
      have fin : EndG env.locals (J (i + 1)) [(I, oI), (l, W.listOf us.toArray nl)] I s s₃ → ∃ m, m < us.length + 1 - i ∧ ∃ h' tk g m' news' i, s₃ = { s with heap := h', toks := tk } ∧ h'.IsListIter I l i ∧ Fr g env.locals h' m' ∧ News g env.locals h' ((l, W.listOf us.toArray nl) :: news') ∧ (∀ p ∈ (l, W.listOf us.toArray nl) :: news', p.1 ≠ I) ∧ g.get? I = none ∧ J i g m' news' ∧ i ≤ us.length ∧ m = us.length + 1 - i := by
        rintro ⟨h₃', tk₃, g₃, m₃, news₃, rfl, F₃, N₃', hne₃, hJ₃⟩
        have z := N₃' (I, oI) (.head _)
        refine ⟨us.length + 1 - (i + 1), by omega, h₃', tk₃, g₃, m₃, news₃, i + 1, rfl, ?_, F₃, fun p hp => N₃' p (.tail _ hp), fun p hp => ?_, z.2.2, hJ₃, hlt, rfl⟩
        · exact hit₂.at fun o e => by rw [hoI] at e; cases e; exact z.1
        · rcases List.mem_cons.mp hp with rfl | hp
          · exact hlI
          · exact hne₃ p hp
      cases f with
      | ret v => exact h₃
      | brk => exact h₃
      | next => exact fin h₃
      | cont => exact fin h₃
    · have hin : i = us.length := by omega
      subst hin
      refine WK.done { s with heap := h', toks := tk } _ _ ⟨by simpa using hit, hl'⟩ fun h₁ tk₁ hk₁ => wpAny_execs_nil ?_
      obtain ⟨F₁, N₁⟩ := next h₁ hk₁
      exact done g m' news' h₁ tk₁ hJ F₁ N₁
  · subst hI
    exact ⟨_, Heap.get?_push_size _ rfl, rfl, rfl⟩
end

theorem ints_of : ∀ {vs : List Value}, kf_ints vs = true → ∃ ns, IntsAre vs ns
  | [], _ => ⟨[], .nil⟩
  | .int n t :: r, h => by
    obtain ⟨ns, hn⟩ := ints_of (vs := r) h
    exact ⟨n :: ns, .cons n t hn⟩
section
variable {w : World} {p : Program} {loose : List Str} {mean : ExcName → Option Value} {mg mb : Str → Option Value} {A₀ A : Around} {base h₀ : Heap} {L : Addr}
  {m : Str → Option Value} {news Z : List (Addr × Obj)} {s : Shared} {Q E : Value → Shared → Prop} {prog : Program} {cn : Str} {cs : Scope} {ca : Addr} {ccd : Value}
local macro_rules | `(tactic| walk_at "compareOp NotEq ref ref") => `(tactic| (with_reducible refine st_n ?_))
theorem list_rangeN {r : Addr} {a b c : Int} {t u v : Tok} {k : Nat} (hh : A.handled = none) (F : Fr h₀ L s.heap m) (N : News h₀ L s.heap news) (hr : IsRange s.heap r a b c t u v) (hsmall : Builtin.Range.small a b c = true) (hn : Builtin.Range.rangeSize a b c = (k : Int)) (hz : k ≤ 2 ^ 24)
    (h : ∀ D us c' h' tk, Fr h₀ L h' m → News h₀ L h' ((D, W.listOf (List.toArray us) c') :: news) → AllLt D news → us.length = k → (∀ (j : Nat) (v : Value), us[j]? = some v → ∃ t : Tok, v = Value.int (a + j * c) t) → Q (.ref D) { s with heap := h', toks := tk }) :
    wpAny (model prog w) A (call (.type "list") [.ref r]) Q E s := by
  refine call_list_range hh hr hsmall hn hz fun h' tk acc c' hk hD hI => ?_
  have hD' : h'.get? s.heap.objs.size = some (W.listOf (List.toArray acc.toList) c') := by rw [Array.toArray_toList]; exact hD
  exact h _ acc.toList c' h' tk (F.keeps hk) (news_pushed F N hk hD' rfl) (allLt_of fun p hp => Heap.lt_size (N p hp).1) (by rw [Array.length_toList]; exact hI.1) fun j v hj => hI.2 j v (by rw [← hj, Array.getElem?_toList])
theorem fits_long {a : Int} (h : -100000 ≤ a) (h2 : a ≤ 100000) : Builtin.Range.rangeFitsLong a = true := by
  unfold Builtin.Range.rangeFitsLong
  simp only [Bool.and_eq_true, decide_eq_true_eq]
  omega
theorem range_211 {k : Nat} (hk : k ≤ 5000) : Builtin.Range.small 5 (k : Int) 211 = true ∧ ∃ j : Nat, Builtin.Range.rangeSize 5 (k : Int) 211 = (j : Int) ∧ j ≤ 100 ∧ ∀ i : Nat, i < j → 5 + (i : Int) * 211 < k := by
  obtain ⟨j, e, hj, hi⟩ : ∃ j : Nat, Builtin.Range.rangeSize 5 (k : Int) 211 = (j : Int) ∧ j ≤ 100 ∧ ∀ i : Nat, i < j → 5 + (i : Int) * 211 < k := by
    refine ⟨(Builtin.Range.rangeSize 5 (k : Int) 211).toNat, ?_⟩
    unfold Builtin.Range.rangeSize
    simp only [show (211 : Int) > 0 by decide, if_true]
    split <;> refine ⟨by omega, by omega, fun i hi => by omega⟩
  refine ⟨?_, j, e, hj, hi⟩
  unfold Builtin.Range.small
  rw [e, fits_long (by omega) (by omega), fits_long (by omega) (by omega), fits_long (by omega) (by omega), fits_long (by omega) (by omega), if_pos (by decide), fits_long (by omega) (by omega), Bool.or_true]
  rfl
/-- an item of a list, counted from either end -/
theorem item_spot {value slice : PySem.Expr} {a : Addr} {l : List Value} {k : Int} {j : Nat} {u : Tok} {x : Value} (hl : s.heap.IsList a l.toArray) (hn : l.length ≤ 5000) (h1 : k < 0 → (j : Int) = k + l.length) (h2 : 0 ≤ k → (j : Int) = k) (hx : l[j]? = some x) (h : Q x s)
    (hs : subscripted slice false (.ref a) (.int k u) = operate [.ref a, .int k u] (getItem (.ref a) (.int k u)) := by with_unfolding_all rfl) (hg : ∀ r, letTemporaryGo value (.ref a) r = pure () := by intro _; with_unfolding_all rfl) :
    wpAny (model prog w) A (subscriptTail value slice (.ref a) (.int k u)) Q E s := by
  have hj : j < l.length := by
    rcases Nat.lt_or_ge j l.length with q | q
    · exact q
    · rw [List.getElem?_eq_none q] at hx; cases hx
  rcases Int.lt_or_le k 0 with h0 | h0
  · have e := h1 h0
    refine tail_any hl.typeIs slot_list_getitem.lookup (wpAny_getItem_list_neg hl h0 (by rw [List.size_toArray]; omega) (by omega) ?_ h) hs
    rw [List.size_toArray, ← e]
    simpa using hx
  · have e := h2 h0
    exact item_listL hl h0 (by omega) (by rw [← e]; simpa using hx) h hs hg
theorem abs_list {G : Prop} {l : Addr} {us : List Value} {nl : Nat} {g h : Heap} {L : Addr} {news : List (Addr × Obj)} (ok : Value → Prop) (N : News g L h ((l, W.listOf us.toArray nl) :: news)) (hok : ∀ v ∈ us, ok v)
    (k : ∀ (us' : List Value), (∀ v ∈ us', ok v) → News g L h ((l, W.listOf us'.toArray nl) :: news) → G) : G := k us hok N
theorem abs_tok {G : Prop} {g h : Heap} {L : Addr} {x : Str} {n : Int} {t : Tok} {M : Str → Option Value} (F : Fr g L h (fun y => if y = x then some (.int n t) else M y)) (k : ∀ t' : Tok, Fr g L h (fun y => if y = x then some (.int n t') else M y) → G) : G := k t F
theorem sub_drop3 {a b c d : Addr × Obj} {l : List (Addr × Obj)} : ∀ p ∈ a :: l, p ∈ a :: b :: c :: d :: l := fun p hp => by
  rcases List.mem_cons.mp hp with rfl | hp
  · exact .head _
  · exact .tail _ (.tail _ (.tail _ (.tail _ hp)))
/-- what stands of the ground behind a catch -/
structure GOk (w : World) (p : Program) (loose : List Str) (mean : ExcName → Option Value) (mg mb : Str → Option Value) (A₁ : Around) (base : Heap) (l : List Env) (g g' : Heap) : Prop where
  T : KtsTurn (l.filterMap (·.frame)) g g'
  B : Below A₁ base l g'
  X : (hd.heap_39 w.params).In g'
  P : Top p loose mean mg mb g'
  D : KtsDicts (l.filterMap (·.frame)) g'
theorem ints_at {xs : List Value} (h : kf_ints xs = true) {j : Nat} {v : Value} (hv : xs[j]? = some v) : ∃ n t, v = .int n t := by
  induction xs generalizing j with
  | nil => simp at hv
  | cons x r ih =>
    cases x with
    | int n t =>
      cases j with
      | zero => cases hv; exact ⟨n, t, rfl⟩
      | succ j => exact ih h (by simpa using hv)
    | _ => cases h
local macro_rules | `(tactic| walk_at "call type:list") => `(tactic| (with_reducible refine st_o ?_))
local macro_rules | `(tactic| walk_at "subscriptTail") => `(tactic| (with_reducible refine st_p ?_))
local macro_rules | `(tactic| walk_at "exec For") => `(tactic| ((with_reducible show wpAny _ _ (PySem.exec (PySem.Stmt.For (PySem.Expr.Name _ _) _ _ [] _) _) _ _ _); (with_unfolding_all refine' For_G ?_ ?k2; (case k2 => intro _; exact rfl); k_whole)))
set_option maxHeartbeats 0 in
theorem holds_spec {v : Value} {l : Addr} {nl : Nat} {xs : List Value} (C : Cx w p loose mean mg mb 700 6000 A₀ A base h₀ [] (envOf cn cs L ca ccd) L) (F : Fr h₀ L s.heap m) (N : News h₀ L s.heap news)
    (XB : (hd.heap_39 w.params).In base) (TB : Top p loose mean mg mb base) (hz : ∀ p ∈ Z, p ∈ news) (P : PV w Z v xs) (hl : (l, W.listOf xs.toArray nl) ∈ news)
    (hx : xs.length ≤ 5000) (hi : kf_ints xs = true)
    (ret : ∀ h' tk', Fr h₀ L h' m → News h₀ L h' news → Q (.bool true) { s with heap := h', toks := tk' }) :
    wpAny (model prog w) A (call (.ref 369) [v, .ref l]) Q E s := by
  have P' := P
  obtain ⟨x, dx, t, e, n, tc, ts, to, root, ls, vs, rfl, PA, hfl⟩ := P
  obtain ⟨po, pd, pt, pl, plen, pe⟩ := id PA
  have hlen : xs.length = 32 * ls.length + vs.length := by rw [hfl, List.length_append, flat_len pt.leaf]
  refine enterS [("vector", .ref x), ("row", .ref l)] C F N (by k_is) (by k_is) (by decide) (BindsTo.of_eq rfl) (locs rfl) ?_ rfl rfl rfl (by decide)
  intro g L' h₁ FG F' N' B' X' T' D'
  try k_fold
  obtain ⟨ns, hns⟩ := ints_of hi
  have hl' : Has w news l (W.listOf xs.toArray nl) := .inr hl
  k_steps
  rename Fr g L' _ _ => F1
  rename News g L' _ _ => N1
  refine tolist_spec ⟨B', X', T', rfl, rfl, rfl, rfl, Nat.le_of_ble_eq_true rfl, Nat.le_of_ble_eq_true rfl⟩ F1 N1 hz PA (by omega) ?_
  intro lt nlt h' tk' F9 N9 l9
  rw [← hfl] at N9
  k_steps
  rename Fr g L' _ _ => F1
  rename News g L' _ _ => N1
  refine ke_ne_ints (xs := xs) (ys := xs) (News.isList N1 (.head _)) (News.isList N1 (.tail _ hl)) hns hns (Nat.le_of_ble_eq_true rfl) ?_
  rw [decide_eq_true rfl, Bool.not_true]
  k_steps
  rename Fr g L' _ _ => F1
  rename News g L' _ _ => N1
  refine len_spec ⟨B', X', T', rfl, rfl, rfl, rfl, Nat.le_of_ble_eq_true rfl, Nat.le_of_ble_eq_true rfl⟩ F1 N1 (sub_cons hz) P' ?_
  intro h2 tk2 tk3 F2 N2
  refine ⟨⟨by omega, by omega⟩, ?_⟩
  rw [List.size_toArray] at F2
  k_steps
  show ite _ _ _
  refine ite_neg (by simp) ?_
  k_steps
  rename IsRange _ _ _ _ _ _ _ _ => hR
  rename Fr g L' _ _ => F3
  rename News g L' _ _ => N3
  obtain ⟨hsm, j, hrs, hj, hjv⟩ := range_211 hx
  refine list_rangeN rfl F3 N3 hR hsm hrs (by omega) ?_
  intro D us c' h4 tk4 F4 N4 l4 hus husv
  have hus' : us.length ≤ 5000 := by omega
  k_steps
  rename Fr g L' _ _ => F5
  rename News g L' _ _ => N5
  rename_i lf hf5 l5
  refine abs_list (fun v => ∃ i t, v = .int i t ∧ -6000 ≤ i ∧ i ≤ 6000) (news_sub N5 sub_drop3) ?_ ?_
  · intro v hv
    rcases List.mem_append.mp hv with hv | hv
    · simp only [List.mem_cons, List.not_mem_nil, or_false] at hv
      rcases hv with rfl | rfl | rfl | rfl | rfl | rfl | rfl | rfl | rfl | rfl | rfl | rfl <;> exact ⟨_, _, rfl, by omega, by omega⟩
    · obtain ⟨i, hi9, e9⟩ := List.mem_iff_getElem.mp hv
      obtain ⟨t9, e8⟩ := husv i v (by rw [← e9]; simp)
      have := hjv i (by omega)
      exact ⟨_, _, e8, by omega, by omega⟩
  clear N5
  intro full hfull N5
  refine abs_tok F5 ?_
  clear F5
  intro tkc F5
  refine iter_G (fun _ g' m' news' => news = news' ∧ GOk w p loose mean mg mb (topA 700 6000 A.guards (envOf cn cs L ca ccd) []) base [envOf cn cs L ca ccd] g g' ∧
    ∃ r u, m' = fun y : Str => if y = "read" then r else if y = "place" then u else if y = "count" then some (Value.int (↑xs.length) tkc) else if y = "told" then some (Value.ref lt) else List.lookup y ([("vector", Value.ref x), ("row", Value.ref l)] : List (Str × Value)).reverse) rfl F5 N5 ?_ ?_ ?_
  · refine ⟨rfl, ⟨KtsTurn.refl, B', X', T', D'⟩, none, none, ?_⟩
    funext y
    by_cases h1 : y = "read"
    · subst h1; rfl
    · by_cases h2 : y = "place"
      · subst h2; rfl
      · rw [if_neg h1, if_neg h2]
  · rintro i v g' m₁ news₁ h tk5 I oI hv ⟨rfl, ⟨T2, B2, X2, P2, D2⟩, r, u, rfl⟩ F6 N6 hI
    obtain ⟨pi, pt5, rfl, hp1, hp2⟩ := hfull v (List.mem_of_getElem? hv)
    clear B' X' T' D' F5 N5
    have F7 : Fr g' L' h (fun y : Str => if y = "place" then some (Value.int pi pt5) else if y = "read" then r else if y = "place" then u else if y = "count" then some (Value.int (↑xs.length) tkc) else if y = "told" then some (Value.ref lt) else List.lookup y ([("vector", Value.ref x), ("row", Value.ref l)] : List (Str × Value)).reverse) := F6
    have N7 : News g' L' h ((I, oI) :: (lf, W.listOf full.toArray 0) :: news) := N6
    clear F6 N6
    k_steps
    refine getint_spec ⟨B2, X2, P2, rfl, rfl, rfl, rfl, Nat.le_of_ble_eq_true rfl, Nat.le_of_ble_eq_true rfl⟩ F7 N7 (sub_cons (sub_cons hz)) P' (by omega) (by omega) (by omega) ?_ ?_
    · intro xv jv h8 tk8 hj1 hj2 hxv F8 N8
      have hjn : jv < xs.length := by
        rcases Nat.lt_or_ge jv xs.length with q | q
        · exact q
        · rw [List.getElem?_eq_none q] at hxv; cases hxv
      obtain ⟨nv, tv, rfl⟩ := ints_at hi hxv
      walk_at "my all"
      rename Fr g' L' _ _ => F1
      rename News g' L' _ _ => N1
      refine item_spot (l := xs) (News.isList N1 (.tail _ (.tail _ (.tail _ hl)))) hx hj1 hj2 hxv ?_
      k_steps
      rename Fr g' L' _ _ => F1
      rename News g' L' _ _ => N1
      refine ke_ne_ints (xs := [.int nv tv]) (ys := [.int nv tv]) (News.isList N1 (.tail _ (.head _))) (News.isList N1 (.head _)) (.cons nv tv .nil) (.cons nv tv .nil) (Nat.le_of_ble_eq_true rfl) ?_
      rw [decide_eq_true rfl, Bool.not_true]
      k_steps
      rename Fr g' L' _ _ => F1
      rename News g' L' _ _ => N1
      show EndG L' _ _ _ _ _
      refine ⟨_, _, g', _, news, rfl, F1, news_sub N1 (sub_cons (sub_cons sub_refl)), fun p hp => hI p (.tail _ hp), rfl, ⟨T2, B2, X2, P2, D2⟩, _, _, set2⟩
    · intro hbad e9 s9 R9
      obtain ⟨G, xa, h9, tk9, rfl, rfl, FX, RX, UX⟩ := R9
      rcases hbad with hbad | hbad
      all_goals
        walk_at "my all"
        rename Fr _ L' _ _ => F1
        rename News _ L' _ _ => N1
        refine ke_ne_ints (xs := []) (ys := []) (News.isList N1 (.tail _ (.head _))) (News.isList N1 (.head _)) .nil .nil (Nat.le_of_ble_eq_true rfl) ?_
        rw [decide_eq_true rfl, Bool.not_true]
        k_steps
        rename Fr _ L' _ _ => F1
        rename News _ L' _ _ => N1
        show EndG L' _ _ _ _ _
        refine ⟨_, _, _, _, news, rfl, F1, news_sub N1 (sub_cons (sub_cons sub_refl)), fun p hp => hI p (.tail _ hp), rfl, ⟨?_, ?_, ?_, ?_, ?_⟩, _, _, set2⟩ <;> assumption
  · rintro g' m₁ news₁ h tk5 ⟨rfl, ⟨T2, B2, X2, P2, D2⟩, r, u, rfl⟩ F6 N6
    have F7 : Fr g' L' h (fun y : Str => if y = "read" then r else if y = "place" then u else if y = "count" then some (Value.int (↑xs.length) tkc) else if y = "told" then some (Value.ref lt) else List.lookup y ([("vector", Value.ref x), ("row", Value.ref l)] : List (Str × Value)).reverse) := F6
    have N7 : News g' L' h ((lf, W.listOf full.toArray 0) :: news) := N6
    clear F6 N6
    k_steps
    show LeaveS0 _ h₀ L m g (back Q E) _ _
    exact leaveS0_ F7 N7 T2 fun F8 N8 => ret _ _ F8 (news_sub N8 (sub_cons sub_refl))
end

section
variable {prog : Program} {w : World} {A : Around} {E : Value → Shared → Prop} {s : Shared} {env : Env} {h₀ : Heap} {xi xc : Str} {body : List Stmt} {Q : Flow → Shared → Prop} {m : Str → Option Value} {news : List (Addr × Obj)}
def ZipPost (h₀ : Heap) (L : Addr) (m' : Str → Option Value) (news' : List (Addr × Obj)) (s : Shared) (Q : Flow → Shared → Prop) (f : Flow) (s₂ : Shared) : Prop := match f with
  | .ret v => Q (.ret v) s₂
  | .brk => Q .next s₂
  | _ => ∃ h' tk', s₂ = { s with heap := h', toks := tk' } ∧ Fr h₀ L h' m' ∧ News h₀ L h' news'
/-- for a, b in zip(l1, l2): nothing that the ledger has is changed -/
theorem zip_pairs {l1 l2 : Addr} {n1 n2 : Nat} {xs ys : List Value} (hh : A.handled = none) (F : Fr h₀ env.locals s.heap m) (N : News h₀ env.locals s.heap news) (h1 : (l1, W.listOf xs.toArray n1) ∈ news) (h2 : (l2, W.listOf ys.toArray n2) ∈ news) (hne : xi ≠ xc)
    (turn : ∀ (i : Nat) v0 v1 u0 u1 h tk own, xs[i]? = some v0 → ys[i]? = some v1 → Fr h₀ env.locals h (fun y => if y = xc then some v1 else if y = xi then some v0 else if y = xc then u1 else if y = xi then u0 else m y) → News h₀ env.locals h (own ++ news) →
      wpAny (model prog w) A (execs body env) (ZipPost h₀ env.locals (fun y => if y = xc then some v1 else if y = xi then some v0 else if y = xc then u1 else if y = xi then u0 else m y) (own ++ news) s Q) E { s with heap := h, toks := tk })
    (done : ∀ u0 u1 h tk, Fr h₀ env.locals h (fun y => if y = xc then u1 else if y = xi then u0 else m y) → News h₀ env.locals h news → Q .next { s with heap := h, toks := tk }) :
    wpAny (model prog w) A (call (.type "zip") [.ref l1, .ref l2]) (fun xv s₁ => wpAny (model prog w) A (pyIter xv) (fun it s₂ => PairAt3 prog w A h₀ env xi xc body Q E it s₂) E s₁) E s := by
  have hls1 := News.isList N h1
  have hls2 := News.isList N h2
  have lt1 : @LT.lt Nat _ l1 s.heap.objs.size := Heap.lt_size (N _ h1).1
  have lt2 : @LT.lt Nat _ l2 s.heap.objs.size := Heap.lt_size (N _ h2).1
  have ltL : @LT.lt Nat _ env.locals s.heap.objs.size := F.ns.lt
  have neL1 : @Ne Nat l1 env.locals := (N _ h1).2.1
  have neL2 : @Ne Nat l2 env.locals := (N _ h2).2.1
  have fresh : ∀ b : Addr, @LE.le Nat _ s.heap.objs.size b → h₀.get? b = none := fun b hb => by
    cases q : h₀.get? b with
    | none => rfl
    | some o => exact absurd (Heap.lt_size (F.keep b o q)) (Nat.not_lt.mpr hb)
  refine call_zip_2 hls1 hls2 fun h' z1 p1 p2 i1 i2 _ hk => ?_
  refine wpAny_pyIter_zip z1 ?_
  generalize hS : s.heap.objs.size = S at *
  have D : ZipApart (S + 4) (S + 2) (S + 3) S (S + 1) l1 l2 := by constructor <;> (refine (?_ : @Ne Nat _ _); omega)
  refine ⟨_, _, _, _, _, _, _, fun i v0 v1 => xs[i]? = some v0 ∧ ys[i]? = some v1, m, news, fun _ m' news' => news' = news ∧ ∃ u0 u1, m' = fun y => if y = xc then u1 else if y = xi then u0 else m y, rfl, WalksT.zip2 hh (S + 4) (S + 2) (S + 3) S (S + 1) l1 l2 D xs.toArray ys.toArray, ?_, ?_, ?_, ?_, ?_, F.keeps hk, (fun p hp => ⟨hk _ _ (N p hp).1, (N p hp).2⟩), ⟨rfl, m xi, m xc, ?_⟩, ?_, ?_⟩
  · rintro i vals ⟨x, y, hx, hy, rfl⟩
    exact ⟨x, y, rfl, by simpa using hx, by simpa using hy⟩
  · intro hm
    simp only [List.mem_cons, List.not_mem_nil, or_false] at hm
    rcases hm with q | q | q | q | q | q | q
    all_goals (have q' : @Eq Nat _ _ := q; omega)
  · intro b hb
    simp only [List.mem_cons, List.not_mem_nil, or_false] at hb
    rcases hb with q | q | q | q
    all_goals (have q' : @Eq Nat _ _ := q; exact fresh b (by omega))
  · intro p hp hb
    have lt9 : @LT.lt Nat _ p.1 S := hS ▸ Heap.lt_size (N p hp).1
    simp only [List.mem_cons, List.not_mem_nil, or_false] at hb
    rcases hb with q | q | q | q
    all_goals (have q' : @Eq Nat _ _ := q; omega)
  · exact ⟨z1, p1, ⟨_, _, p2⟩, i1, i2, hls1.at fun o e => hk _ o e, hls2.at fun o e => hk _ o e⟩
  · funext y
    by_cases hy : y = xc <;> by_cases hy2 : y = xi <;> simp_all
  · rintro i v0 v1 m₁ news₁ s₁ own ⟨h9, tk9, rfl⟩ _ ⟨hx, hy⟩ ⟨rfl, u0, u1, rfl⟩ _ _ F₁ N₁
    refine wpAny_mono (turn i v0 v1 u0 u1 h9 tk9 own hx hy F₁ N₁) (fun f s₂ p => ?_) fun _ _ e => e
    have e : (fun y => if y = xc then some v1 else if y = xi then some v0 else if y = xc then u1 else if y = xi then u0 else m y) = fun y => if y = xc then some v1 else if y = xi then some v0 else m y := set2
    cases f with
    | ret v => exact p
    | brk => exact p
    | next => obtain ⟨h', tk, rfl, F', N'⟩ := p; exact ⟨rfl, h', tk, _, _, rfl, F', N', rfl, rfl, some v0, some v1, e⟩
    | cont => obtain ⟨h', tk, rfl, F', N'⟩ := p; exact ⟨rfl, h', tk, _, _, rfl, F', N', rfl, rfl, some v0, some v1, e⟩
  · rintro h' tk m' news' F' N' _ ⟨rfl, u0, u1, rfl⟩
    exact done u0 u1 h' tk F' N'
end

section
variable {w : World} {p : Program} {loose : List Str} {mean : ExcName → Option Value} {mg mb : Str → Option Value} {A₀ A : Around} {base h₀ : Heap} {outer : List Env} {env : Env} {L : Addr}
  {m : Str → Option Value} {news Z : List (Addr × Obj)} {s : Shared} {Q E : Value → Shared → Prop} {prog : Program}
theorem call_iter {l : Addr} {xs : List Value} {n : Nat} (F : Fr h₀ L s.heap m) (N : News h₀ L s.heap news) (hl : (l, W.listOf xs.toArray n) ∈ news)
    (h : ∀ I oI h', Fr h₀ L h' m → News h₀ L h' ((I, oI) :: news) → AllLt I news → h'.IsListIter I l 0 → Q (.ref I) { s with heap := h' }) : wpAny (model prog w) A (call (.builtin "iter") [.ref l]) Q E s := by
  refine call_function_entry (by decide +kernel) (by decide +kernel) kdk_entry_iter (kdk_args_iter _) ?_
  unfold Builtin.«iter»
  refine wpAny_bind (m := someArgs "iter" 1 2 _) (wpAny_of_eq (a := [Value.ref l]) (by first | rfl | kernel_rfl!) ?_)
  show wpAny _ _ (pyIter (.ref l) >>= _) _ _ _
  refine wpAny_bind (wpAny_pyIter_list (News.isList N hl) ?_)
  exact wpAny_pure ⟨_, rfl, h _ _ _ (F.push _) (News.push F N _ rfl) (allLt_of fun q hq => Heap.lt_size (N q hq).1) ⟨_, Heap.get?_push_size _ rfl, rfl, rfl⟩⟩
set_option maxHeartbeats 400000 in
theorem iter_spec {v : Value} {xs : List Value} (C : Cx w p loose mean mg mb 800 7000 A₀ A base h₀ outer env L) (F : Fr h₀ L s.heap m) (N : News h₀ L s.heap news) (hz : ∀ p ∈ Z, p ∈ news) (P : PV w Z v xs) (hx : xs.length ≤ 5000)
    (ret : ∀ I l oI n h' tk', Fr h₀ L h' m → News h₀ L h' ((I, oI) :: (l, W.listOf xs.toArray n) :: news) → AllLt I ((l, W.listOf xs.toArray n) :: news) → AllLt l news → h'.IsListIter I l 0 → Q (.ref I) { s with heap := h', toks := tk' }) :
    wpAny (model prog w) A (call (.ref 120) [v]) Q E s := by
  obtain ⟨x, dx, t, e, n, tc, ts, to, root, ls, vs, rfl, PA, hfl⟩ := P
  obtain ⟨po, pd, pt, pl, plen, pe⟩ := id PA
  have hlen : xs.length = 32 * ls.length + vs.length := by rw [hfl, List.length_append, flat_len pt.leaf]
  refine enter [("self", .ref x)] C F N (by k_is) (by k_is) (by decide) (BindsTo.of_eq rfl) (locs rfl) ?_ rfl rfl rfl (by decide)
  intro g L' h₁ FG F' N' B' X' T' lt
  try k_fold
  k_steps
  refine tolist_spec ⟨B', X', T', rfl, rfl, rfl, rfl, Nat.le_of_ble_eq_true rfl, Nat.le_of_ble_eq_true rfl⟩ F' N' hz PA (by omega) ?_
  intro l nl h' tk' F9 N9 l9
  rw [← hfl] at N9
  k_steps
  refine call_iter F9 N9 (.head _) fun I oI h2 F2 N2 l2 hit => ?_
  k_steps
  show LeaveK h₀ L m g (back Q E) _ _
  exact leaveK_ F2 N2 fun F8 N8 => ret I l oI nl _ _ F8 N8 l2 l9 hit
theorem ext_vec {x S : Addr} {xs : List Value} {c₀ : Nat} {R : Result → Shared → Prop} {res : Value} (C : Cx w p loose mean mg mb 790 6900 A₀ A.in1 base h₀ outer env L) (F : Fr h₀ L s.heap m) (N : News h₀ L s.heap ((S, W.listOf #[] c₀) :: news)) (hS : ∀ p ∈ news, p.1 ≠ S) (hz : ∀ p ∈ Z, p ∈ news) (P : PV w Z (.ref x) xs) (hx : xs.length ≤ 5000)
    (hR : ∀ h' tk c', Fr h₀ L h' m → News h₀ L h' ((S, W.listOf xs.toArray c') :: news) → R (.ok (.ret res)) { s with heap := h', toks := tk }) :
    wpAny (model prog w) A.in1 (Builtin.List.listExtendWith (.ref S) (.ref x) res)
      (fun fin s' => match fin with | .done f => R (.ok f) s' | .again c' => c'.quiet = true ∧ codeAny (model prog w) A c' R s') (fun e s' => R (.error e) s') s := by
  have P' := P
  obtain ⟨x, dx, t, e, n, tc, ts, to, root, ls, vs, ex, PA, hfl⟩ := P
  cases ex
  obtain ⟨po, pd, pt, pl, plen, pe⟩ := id PA
  have I1 := inst_has po pd C.X F N (sub_cons hz)
  have hSx : S ≠ x := by
    rintro rfl
    rcases po with q | q
    · have := (N _ (.head _)).2.2; rw [C.X _ _ q] at this; cases this
    · exact hS _ (hz _ q) rfl
  have h1 : Builtin.List.listSameRef (.ref S) (.ref x) = false := by simp [Builtin.List.listSameRef, hSx]
  have h2 : (Value.ref 303 == Value.type "list") = false := rfl
  have h3 : (Value.ref 303 == Value.type "tuple") = false := rfl
  unfold Builtin.List.listExtendWith
  refine wpAny_bind (I1.type.here ?_)
  simp only [h1, h2, h3, Bool.or_false, Bool.false_eq_true, if_false]
  refine wpAny_bind (owit_iter F C.X I1 (f := 120) (by k_is) (by k_is) ?_)
  refine iter_spec ⟨C.B, C.X, C.T, C.hh, C.hA, C.hf, C.hke, Nat.le_trans C.hd (by decide), Nat.le_trans C.hu (by decide)⟩ F N (sub_cons hz) P' hx ?_
  intro I l oI nl h4 tk4 F4 N4 l4 l40 hit
  show wpAny (model prog w) A.in1 (specialOf (.ref I) "__next__") _ _ _
  refine wpAny_specialOf (name := Str.ofString "__next__") hit.typeIs slot_listiter_next.lookup ?_
  dsimp only
  have I4 := inst_has po pd C.X F4 N4 (fun p hp => .tail _ (.tail _ (.tail _ (hz p hp))))
  refine wpAny_bind (wpAny_holding ?_)
  unfold Builtin.List.listLengthHint specialOf
  refine wpAny_bind (wpAny_bind (I4.type.here ((looks_findIn (C.X.keeps F4.keep) (show findIn (hd.heap_39 w.params) (.ref 303) "__len__" = some (some (.ref 85)) by k_is)).here ?_)))
  dsimp only
  refine wpAny_ite_split (fun q => absurd (show false = true from q) Bool.false_ne_true) (fun _ => ?_)
  dsimp only [Option.isSome]
  rw [if_pos rfl]
  refine wpAny_bind (wpAny_rule (wpAny_bind (wpAny_attempt ?_)))
  refine W.len_K F4 C.X I4 (f := 85) (by k_is) (by k_is) ?_
  refine len_spec ⟨C.B, C.X, C.T, C.hh, C.hA, C.hf, C.hke, Nat.le_trans C.hd (by decide), (by have := C.hu; rw [units_in1]; omega)⟩ F4 N4 (fun p hp => .tail _ (.tail _ (.tail _ (hz p hp)))) P' ?_
  intro h5 tk5 tk6 F5 N5
  refine ⟨⟨by omega, by omega⟩, ?_⟩
  dsimp only
  have zI := N5 (I, oI) (.head _)
  have zl := N5 (l, W.listOf xs.toArray nl) (.tail _ (.head _))
  have zS := N5 (S, W.listOf #[] c₀) (.tail _ (.tail _ (.head _)))
  have hlI : l ≠ I := Nat.ne_of_lt l4.1
  have hSI : S ≠ I := Nat.ne_of_lt l4.2.1
  have hSl : S ≠ l := Nat.ne_of_lt l40.1
  have key : ∀ (h : Heap) (c₁ tk : Nat), (∀ b o, b ≠ S → h5.get? b = some o → h.get? b = some o) → h.get? S = some (W.listOf #[] c₁) → codeAny (model prog w) A (.builtin "list.extend.loop" ⟨[.ref S, .ref I, res], []⟩) R { s with heap := h, toks := tk } := by
    intro h c₁ tk hk hS₁
    have hit5 : h5.IsListIter I l 0 := by
      obtain ⟨oJ, e1, r⟩ := id hit
      have : oJ = oI := by have q := (N4 (I, oI) (.head _)).1; rw [e1] at q; exact Option.some.inj q
      subst this
      exact ⟨_, zI.1, r⟩
    have hit1 : h.IsListIter I l 0 := hit5.at fun o e => hk I o (Ne.symm hSI) e
    have hl1 : h.IsList l xs.toArray := (News.isList N5 (.tail _ (.head _))).at fun o e => hk l o (Ne.symm hSl) e
    have WK := (Walks.list (prog := prog) (w := w) (A := A.in1) C.hh I l hlI xs.toArray).toS
    refine codeAny_extend_loopS WK (by rw [sizeLine_eq, List.size_toArray]; omega) S (by simp [hSI, hSl]) res xs.toArray.size 0 _ #[] c₁ rfl (Nat.zero_le _) ⟨hit1, hl1⟩ hS₁ (ItemsOf.nil _) fun s' acc' c' hm hS' hacc => ?_
    rw [Moved.eq_with hm]
    have eacc : acc' = xs.toArray := by
      apply Array.ext
      · exact hacc.1
      · intro i h1 h2
        have q : xs.toArray[i]? = some acc'[i] := hacc.2 i acc'[i] (by simp)
        rw [Array.getElem?_eq_getElem h2] at q
        exact (Option.some.inj q).symm
    subst eacc
    have kp : ∀ b o, b ≠ S → b ≠ I → h5.get? b = some o → s'.heap.get? b = some o := fun b o e1 e2 q => hm.heap b o (fun hmem => by
      rcases List.mem_cons.mp hmem with z | z
      · exact e1 z
      · exact e2 (List.mem_singleton.mp z)) (hk b o e1 q)
    refine hR s'.heap s'.toks c' ⟨F5.ns.at' fun o q => kp _ o (Ne.symm zS.2.1) (Ne.symm zI.2.1) q, fun b o q => kp b o (fun z => ?_) (fun z => ?_) (F5.keep b o q), F5.above⟩ fun q hq => ?_
    · rw [z, zS.2.2] at q; cases q
    · rw [z, zI.2.2] at q; cases q
    · rcases List.mem_cons.mp hq with rfl | hq
      · exact ⟨hS', zS.2⟩
      · have zq := N5 q (.tail _ (.tail _ (.tail _ hq)))
        exact ⟨kp _ _ (hS q hq) (Nat.ne_of_lt (tb_ltOf l4 q (.tail _ (.tail _ hq)))) zq.1, zq.2⟩
  refine wpAny_bind (wpAny_pure ?_)
  dsimp only
  rw [if_neg (by rw [notTooLong (by omega)]; exact Bool.false_ne_true)]
  refine wpAny_pure ?_
  refine wpAny_ite_split (fun _ => ?_) (fun _ => wpAny_pure ⟨plainId_quiet PySem.F.plain_extend_loop _, key _ c₀ _ (fun b o _ q => q) zS.1⟩)
  refine wpAny_bind (wpAny_rule ?_)
  refine wpAny_bind ?_
  show wpAny _ _ (updateSeq S (·.push .none) >>= fun _ => updateSeq S (·.pop)) _ _ _
  refine wpAny_bind (wpAny_updateSeq zS.1 rfl ?_)
  have hS₂ := Heap.get?_update_self (Obj.mapSeq (·.push Value.none)) zS.1 rfl
  refine wpAny_updateSeq (hz := by seq_fits) hS₂ rfl ?_
  have hS₃ := Heap.get?_update_self (Obj.mapSeq (·.pop)) hS₂ rfl
  refine wpAny_pure ⟨plainId_quiet PySem.F.plain_extend_loop _, key _ _ _ (fun b o hb q => ?_) hS₃⟩
  exact (Heap.get?_update_other _ _ (Ne.symm hb)).trans ((Heap.get?_update_other _ _ (Ne.symm hb)).trans q)
/-- list(v) of a vector -/
theorem list_vec {x : Addr} {xs : List Value} (C : Cx w p loose mean mg mb 780 6800 A₀ A base h₀ outer env L) (F : Fr h₀ L s.heap m) (N : News h₀ L s.heap news) (hz : ∀ p ∈ Z, p ∈ news) (P : PV w Z (.ref x) xs) (hx : xs.length ≤ 5000)
    (h : ∀ S c' h' tk, Fr h₀ L h' m → News h₀ L h' ((S, W.listOf xs.toArray c') :: news) → AllLt S news → Q (.ref S) { s with heap := h', toks := tk }) :
    wpAny (model prog w) A (call (.type "list") [.ref x]) Q E s := by
  refine callType_codes (Q₁ := fun obj s₁ => obj = .ref s.heap.objs.size ∧ s₁ = { s with heap := s.heap.push { cls := .type "list", data := .seq #[] } }) PySem.F.called_list (PySem.F.typeCall_list_1 _) PySem.F.entry_list_init
    (code_list_new _ ⟨rfl, rfl⟩) fun obj s₁ h₁ => ?_
  obtain ⟨rfl, rfl⟩ := h₁
  have F1 := F.push (W.listOf #[] 0)
  have N1 := N.push F (W.listOf #[] 0)
  have lS : AllLt s.heap.objs.size news := allLt_of fun p hp => Heap.lt_size (N p hp).1
  have zS := N1 _ (.head _)
  refine ⟨⟨_, zS.1, rfl⟩, PySem.F.args_list_init_2 _ _, ?_⟩
  show wpAny _ _ (do let old ← Builtin.List.listItems (.ref s.heap.objs.size); Builtin.List.listUpdate (.ref s.heap.objs.size) (fun _ => #[]); letGo old.toList.reverse; Builtin.List.listExtendWith (.ref s.heap.objs.size) (.ref x) .none) _ _ _
  refine wpAny_bind ?_
  unfold Builtin.List.listItems
  refine wpAny_bind (wpAny_seqItems zS.1 rfl (wpAny_pure ?_))
  show wpAny _ _ (updateSeq s.heap.objs.size (fun _ => #[]) >>= fun _ => letGo (#[] : Array Value).toList.reverse >>= fun _ => Builtin.List.listExtendWith (.ref s.heap.objs.size) (.ref x) .none) _ _ _
  refine wpAny_bind (wpAny_updateSeq zS.1 rfl ?_)
  refine wpAny_bind (wpAny_letGo ?_)
  have F2 := F1.change (Heap.SameBut.update (s.heap.push (W.listOf #[] 0)) s.heap.objs.size (Obj.mapSeq (fun _ => (#[] : Array Value)))) zS.2.1 zS.2.2
  have N2 := kl_turn0 (pre := []) (fun _ => (#[] : Array Value)) N1 (fun _ h => nomatch h) (tbn_neAll lS) (by rfl) (by rfl)
  refine ext_vec (A := A.in1) (R := wants (fun r s₂ => r = .none ∧ Q (.ref s.heap.objs.size) s₂) E) ⟨C.B, C.X, C.T, C.hh, C.hA, C.hf, C.hke, Nat.le_trans C.hd (by decide), (by have := C.hu; rw [units_in1, units_in1]; omega)⟩ F2 N2 (tbn_neAll lS) hz P hx fun h' tk c' F9 N9 => ?_
  exact ⟨rfl, h _ c' h' tk F9 N9 lS⟩
end

theorem ints_kf {vs : List Value} {ns : List Int} (h : IntsAre vs ns) : kf_ints vs = true := by
  induction h with
  | nil => rfl
  | cons n t _ ih => exact ih
theorem kf_app : ∀ {xs ys : List Value}, kf_ints xs = true → kf_ints ys = true → kf_ints (xs ++ ys) = true
  | [], _, _, h => h
  | .int _ _ :: r, _, h, h2 => kf_app (xs := r) h h2
theorem kf_sub {xs ys : List Value} (h : kf_ints xs = true) (hs : ∀ v ∈ ys, v ∈ xs) : kf_ints ys = true := by
  induction ys with
  | nil => rfl
  | cons y r ih =>
    obtain ⟨i, hi, e⟩ := List.mem_iff_getElem.mp (hs y (.head _))
    obtain ⟨n, t, rfl⟩ := ints_at h (j := i) (v := y) (by rw [← e]; simp)
    exact ih fun v hv => hs v (.tail _ hv)
theorem abs_num {G : Prop} {D g h L} {news : List (Addr × Obj)} {lits : List Value} {n c : Nat} {y : Int} (N : News g L h ((D, W.listOf (kms_pick lits.toArray.toList (some y) none).toArray c) :: news)) (hy : y = n) (hk : kf_ints lits = true)
    (k : ∀ rs : List Value, kf_ints rs = true → rs.length = lits.length - n → News g L h ((D, W.listOf rs.toArray c) :: news) → G) : G := by
  rw [pick_drop hy] at N
  exact k _ (kf_sub hk fun v hv => List.mem_of_mem_drop hv) (List.length_drop ..) N
theorem range_1000 {z : Int} (h0 : 0 ≤ z) (h1 : z ≤ 1060) : Builtin.Range.small 1000 (1000 + z) 1 = true ∧ Builtin.Range.rangeSize 1000 (1000 + z) 1 = ((z.toNat : Nat) : Int) := by
  have e : Builtin.Range.rangeSize 1000 (1000 + z) 1 = ((z.toNat : Nat) : Int) := by
    unfold Builtin.Range.rangeSize
    simp only [show (1 : Int) > 0 by decide, if_true]
    split <;> omega
  refine ⟨?_, e⟩
  unfold Builtin.Range.small
  rw [e, fits_long (by omega) (by omega), fits_long (by omega) (by omega), fits_long (by omega) (by omega), fits_long (by omega) (by omega), if_pos (by decide), fits_long (by omega) (by omega), Bool.or_true]
  rfl
theorem kf_range {us : List Value} {a c : Int} (h : ∀ (j : Nat) (v : Value), us[j]? = some v → ∃ t : Tok, v = Value.int (a + j * c) t) : kf_ints us = true := by
  induction us generalizing a with
  | nil => rfl
  | cons u r ih =>
    obtain ⟨t, rfl⟩ := h 0 u rfl
    refine ih (a := a + c) fun j v hv => ?_
    obtain ⟨t, rfl⟩ := h (j + 1) v (by simpa using hv)
    exact ⟨t, by congr 1; push_cast; rw [Int.add_mul]; omega⟩
section
variable {prog : Program} {w : World} {A : Around} {E : Value → Shared → Prop} {s : Shared} {h₀ : Heap} {L D : Addr} {m : Str → Option Value} {rest : List (Addr × Obj)} {vs : List Value} {n : Nat}
theorem app_list {v : Value} {Q : Value → Shared → Prop} (F : Fr h₀ L s.heap m) (N : News h₀ L s.heap ((D, W.listOf vs.toArray n) :: rest)) (hne : ∀ p ∈ rest, p.1 ≠ D) (hz : vs.length ≤ 1000000)
    (h : ∀ h', Fr h₀ L h' m → News h₀ L h' ((D, W.listOf (vs ++ [v]).toArray (n + 1)) :: rest) → Q .none { s with heap := h' }) : wpAny (model prog w) A (call (.builtin "list.append") [.ref D, v]) Q E s := by
  refine append_K F N (Upd.head hne) (fun h' F' N' => h h' F' ?_) (by rw [sizeLine_eq, List.size_toArray]; omega)
  rwa [List.push_toArray] at N'
theorem rev_list {Q : Value → Shared → Prop} (F : Fr h₀ L s.heap m) (N : News h₀ L s.heap ((D, W.listOf vs.toArray n) :: rest)) (hne : ∀ p ∈ rest, p.1 ≠ D) (hz : vs.length ≤ 1000000)
    (h : ∀ h', Fr h₀ L h' m → News h₀ L h' rest → Q .none { s with heap := h' }) : wpAny (model prog w) A (call (.builtin "list.reverse") [.ref D]) Q E s := by
  have z := N (D, W.listOf vs.toArray n) (.head _)
  refine call_meets PySem.F.slot_list_reverse ⟨_, z.1, rfl⟩ PySem.F.entry_list_reverse (PySem.F.args_list_reverse_1 _) (PySem.AutoSeq1.list_reverse_list_0 D vs.toArray n (by rw [sizeLine_eq, List.size_toArray]; omega)) ⟨z.1, ?_⟩
  exact h _ (F.change (Heap.SameBut.update ..) z.2.1 z.2.2) fun p hp => ⟨(Heap.get?_update_other _ _ (Ne.symm (hne p hp))).trans (N p (.tail _ hp)).1, (N p (.tail _ hp)).2⟩
end
local macro_rules | `(tactic| walk_at "call builtin:list.append") => `(tactic| (with_reducible refine st_q ?_))
local macro_rules | `(tactic| walk_at "call builtin:list.reverse") => `(tactic| (with_reducible refine st_o ?_))
local macro_rules | `(tactic| walk_at "subscriptTail List cons Slice ref ref") => `(tactic| (with_reducible refine st_r ?_))
local macro_rules | `(tactic| walk_at "subscriptTail Subscript Name BinOp Slice ref ref") => `(tactic| (with_reducible refine st_s ?_))
local macro_rules | `(tactic| walk_at "subscriptTail") => `(tactic| (with_reducible refine st_t ?_))
local macro_rules | `(tactic| walk_at "call type:list") => `(tactic| (with_reducible refine st_o ?_))
local macro_rules | `(tactic| walk_at "exec For") => `(tactic| ((with_reducible show wpAny _ _ (PySem.exec (PySem.Stmt.For (PySem.Expr.Name _ _) _ _ [] _) _) _ _ _); (with_unfolding_all refine' For_G ?_ ?k2; (case k2 => intro _; exact rfl); k_whole)))
theorem mem_perm13 {a b c d : Addr × Obj} {l : List (Addr × Obj)} : ∀ p ∈ d :: a :: b :: c :: l, p ∈ a :: b :: c :: d :: l := fun p hp => by
  simp only [List.mem_cons] at hp ⊢
  rcases hp with h | h | h | h | h <;> simp [h]
/-- what holds of the versions behind k deeds -/
structure LawInv (w : World) (k : Nat) (Zs : List (Addr × Obj)) (mv pv : List Value) : Prop where
  len : mv.length = pv.length
  pos : 1 ≤ mv.length
  most : mv.length ≤ k + 1
  row : ∀ (j : Nat) (v r : Value), mv[j]? = some v → pv[j]? = some r → ∃ (xs : List Value) (a : Addr) (n : Nat), r = .ref a ∧ (a, W.listOf xs.toArray n) ∈ Zs ∧ PV w Zs v xs ∧ kf_ints xs = true ∧ xs.length ≤ 1060 + 40 * k
theorem frame2 {m : Str → Option Value} {am ap : Addr} (h1 : m "made" = some (.ref am)) (h2 : m "plain" = some (.ref ap)) : m = fun y : Str => if y = "made" then some (Value.ref am) else if y = "plain" then some (Value.ref ap) else m y := by
  funext y
  by_cases q : y = "made"
  · rw [if_pos q, q, h1]
  · by_cases q2 : y = "plain"
    · rw [if_neg q, if_pos q2, q2, h2]
    · rw [if_neg q, if_neg q2]
theorem abs_tok4 {G : Prop} {g h : Heap} {L : Addr} {a b c d : Str} {n1 n2 n3 n4 : Int} {t1 t2 t3 t4 : Tok} {M : Str → Option Value} (F : Fr g L h (fun y => if y = a then some (.int n1 t1) else if y = b then some (.int n2 t2) else if y = c then some (.int n3 t3) else if y = d then some (.int n4 t4) else M y))
    (k : ∀ t1 t2 t3 t4 : Tok, Fr g L h (fun y => if y = a then some (.int n1 t1) else if y = b then some (.int n2 t2) else if y = c then some (.int n3 t3) else if y = d then some (.int n4 t4) else M y) → G) : G := k _ _ _ _ F
theorem fmod_nat {a : Int} {n : Nat} (h : 1 ≤ n) : ∃ k : Nat, a.fmod (n : Int) = (k : Int) ∧ k < n := by
  have h0 := Int.fmod_nonneg_of_pos a (show (0 : Int) < n by omega)
  have h1 := Int.fmod_lt_of_pos a (show (0 : Int) < n by omega)
  exact ⟨(a.fmod n).toNat, by omega, by omega⟩
theorem pick_take_any {xs : List Value} {k : Nat} {y : Int} (hy : y = k) : kms_pick xs.toArray.toList none (some y) = xs.take k := by
  subst hy
  rcases Nat.le_total k xs.length with h | h
  · exact pick_take h
  · simp only [kms_pick, kms_lo, kms_hi, List.drop_zero, Nat.sub_zero, if_neg (show ¬ (k : Int) < 0 by omega)]
    rw [show (k : Int).toNat = k by omega, Nat.min_eq_right h, List.take_of_length_le (Nat.le_refl _), List.take_of_length_le h]
theorem cut_any {M : Model} {A : Around} {E Q : Value → Shared → Prop} {s : Shared} {h₀ : Heap} {L : Addr} {m : Str → Option Value} {news : List (Addr × Obj)} {t : Sem Value} (_F : Fr h₀ L s.heap m) (_N : News h₀ L s.heap news)
    (h : ∀ Q' : Value → Shared → Prop, (∀ a ta h' tk', Fr h₀ L h' m → News h₀ L h' news → Q' (.int a ta) { s with heap := h', toks := tk' }) → wpAny M A t Q' E s)
    (core : ∀ a ta h' tk', Fr h₀ L h' m → News h₀ L h' news → Q (.int a ta) { s with heap := h', toks := tk' }) : Stop (wpAny M A t Q E s) := h Q core

/-- the law's statements, its turn's, the turn's from 'due' on, and from the test of 'handed' on -/
noncomputable def lawAst : { b : List Stmt // ∀ w : World, ∃ name qual params scope dV kV doc pm an cdv ct oc od osl, (hd.heap_39 w.params).lookup 376 = some ⟨oc, od, .func (fnOf name qual params b scope dV kV doc pm an cdv ct), osl⟩ } :=
  ⟨_, fun w => ⟨_, _, _, _, _, _, _, _, _, _, _, _, _, _, by k_is⟩⟩
noncomputable def lawScope : { b : Scope // ∀ w : World, ∃ name qual params body dV kV doc pm an cdv ct oc od osl, (hd.heap_39 w.params).lookup 376 = some ⟨oc, od, .func (fnOf name qual params body b dV kV doc pm an cdv ct), osl⟩ } :=
  ⟨_, fun w => ⟨_, _, _, _, _, _, _, _, _, _, _, _, _, _, by k_is⟩⟩
noncomputable def turnA : { b : List Stmt // ∃ s0 s1 s2 s3 s4 s5 s6 a i p s8 s9, lawAst.1 = [s0, s1, s2, s3, s4, s5, s6, .For a i b [] p, s8, s9] } := ⟨_, _, _, _, _, _, _, _, _, _, _, _, _, rfl⟩
noncomputable def turnB : { b : List Stmt // ∃ s0 s1 s2 s3 s4 s5 s6 s7 s8 s9 s10 s11, turnA.1 = s0 :: s1 :: s2 :: s3 :: s4 :: s5 :: s6 :: s7 :: s8 :: s9 :: s10 :: s11 :: b } := ⟨_, _, _, _, _, _, _, _, _, _, _, _, _, rfl⟩
noncomputable def turnC : { b : List Stmt // ∃ s0 s1 s2, turnB.1 = s0 :: s1 :: s2 :: b } := ⟨_, _, _, _, rfl⟩
noncomputable def turnD : { b : List Stmt // ∃ s0 s1, turnC.1 = s0 :: s1 :: b } := ⟨_, _, _, rfl⟩
noncomputable def lawEnd : { b : List Stmt // ∃ s0 s1 s2 s3 s4 s5 s6 s7, lawAst.1 = s0 :: s1 :: s2 :: s3 :: s4 :: s5 :: s6 :: s7 :: b } := ⟨_, _, _, _, _, _, _, _, _, rfl⟩

theorem frame1 {m : Str → Option Value} {x : Str} {v : Value} (h1 : m x = some v) : m = fun y : Str => if y = x then some v else m y := by
  funext y
  by_cases q : y = x
  · rw [if_pos q, q, h1]
  · rw [if_neg q]
theorem frame22 {m : Str → Option Value} {a b : Str} {v u : Value} (h1 : m a = some v) (h2 : m b = some u) : m = fun y : Str => if y = a then some v else if y = b then some u else m y := by
  funext y
  by_cases q : y = a
  · rw [if_pos q, q, h1]
  · rw [if_neg q]
    exact congrFun (frame1 h2) y
theorem frame4 {m : Str → Option Value} {a b c d : Str} {v u x y : Value} (h1 : m a = some v) (h2 : m b = some u) (h3 : m c = some x) (h4 : m d = some y) : m = fun z : Str => if z = a then some v else if z = b then some u else if z = c then some x else if z = d then some y else m z := by
  funext z
  by_cases q : z = a
  · rw [if_pos q, q, h1]
  · rw [if_neg q]
    by_cases q : z = b
    · rw [if_pos q, q, h2]
    · rw [if_neg q]
      exact congrFun (frame22 h3 h4) z
/-- isinstance of a vector: its class has slots, no dict of its own -/
theorem kitx_vec {w : World} {x : Addr} {ox od : Obj} : KitX (hd.heap_39 w.params) (.ref x) (.ref 303) (fun h => InstAt h x ox 303 (some od)) := by
  have hg : plainGet (hd.heap_39 w.params) 303 "__class__" = true := by k_is
  have ha : findIn (hd.heap_39 w.params) (.ref 303) "__class__" = some (some (.builtin "object.__class__")) := by k_is
  have hn : specialIn (hd.heap_39 w.params) (.builtin "object.__class__") "__get__" = some (some (.builtin "getset_descriptor.__get__")) := by k_is
  have htk : takesIn (hd.heap_39 w.params) (.builtin "object.__class__") = some true := by k_is
  have hm : mroIn (hd.heap_39 w.params) 303 (.type "object") = some true := by k_is
  obtain ⟨cd, hcD, _⟩ := Option.bind_eq_some_iff.mp hm
  refine ⟨fun _ _ _ I => I.type, fun _ _ X _ => ?_, fun h tp dd its n sl X htp => ?_, fun X I k => ?_⟩
  · unfold clsIn at hcD
    split at hcD
    · rename_i ho
      intro A' Q' E' s' k q
      unfold isType loadHead
      exact wpAny_bind (wpAny_loadPart (k _ _ (X _ _ ho)) (wpAny_pure q))
    · cases hcD
  · refine Bool.eq_false_iff.mpr fun q => ?_
    have e : 303 = tp := Value.ref.inj (beq_iff_eq.mp q)
    subst e
    unfold clsIn at hcD
    split at hcD
    · rename_i ho
      have z := (X _ _ ho).symm.trans htp
      cases z
    · cases hcD
  · have hf : findObj (hd.heap_39 w.params) 303 (some od) "__class__" = some (.bind (.builtin "getset_descriptor.__get__") (.builtin "object.__class__")) := findObj_data (by rw [hcD]; rfl) ha hn htk
    exact kin_open X I (plainGet_of hg).1 (kin_hooked X I hf (plainGet_of hg).2 (wpAny_call (class_get (ox := ox) (od := some od) X I hm (handed_on rfl k))))
noncomputable abbrev lawEnv (L fa : Addr) (cd : Value) : Env := envOf "law" lawScope.1 L fa cd
local macro_rules | `(tactic| walk_at "call builtin:isinstance") => `(tactic| (with_reducible refine st_u ?_))
local macro_rules | `(tactic| walk_at "compareOp NotEq ref ref") => `(tactic| (with_reducible refine st_n ?_))
section
variable {w : World} {p : Program} {loose : List Str} {mean : ExcName → Option Value} {mg mb : Str → Option Value} {g : Heap} {L fa : Addr} {cd : Value}
  {m : Str → Option Value} {rest : List (Addr × Obj)} {s : Shared} {R : Flow → Shared → Prop} {E : Value → Shared → Prop} {prog : Program}
set_option maxHeartbeats 0 in
theorem turnC_spec {Da : Addr} {ys : List Value} {nD : Nat} {hv : Value} (K1 : Below callerA g [] g) (KX : (hd.heap_39 w.params).In g) (TT : Top p loose mean mg mb g)
    (F : Fr g L s.heap m) (N : News g L s.heap ((Da, W.listOf ys.toArray nD) :: rest)) (hne : ∀ p ∈ rest, p.1 ≠ Da)
    (h1 : m "handed" = some hv) (h2 : m "added" = some (.ref Da)) (ho : SeqLike w ((Da, W.listOf ys.toArray nD) :: rest) hv ys) (hk : kf_ints ys = true) (hl : ys.length ≤ 5000)
    (next : ∀ h' tk' ys' n', Fr g L h' m → News g L h' ((Da, W.listOf ys' n') :: rest) → wpAny (model prog w) (callerA.deeper (lawEnv L fa cd)) (execs turnD.1 (lawEnv L fa cd)) R E { s with heap := h', toks := tk' }) :
    wpAny (model prog w) (callerA.deeper (lawEnv L fa cd)) (execs turnC.1 (lawEnv L fa cd)) R E s := by
  have em := frame22 h1 h2
  have F1 : Fr g L s.heap (fun y : Str => if y = "handed" then some hv else if y = "added" then some (.ref Da) else m y) := em ▸ F
  clear F
  unfold lawEnv lawScope turnC turnD at *
  dsimp only at *
  obtain ⟨ns, hns⟩ := ints_of hk
  rcases ho with ⟨a, na, rfl, ha⟩ | ⟨a, na, rfl, ha⟩ | ⟨x2, dx2, t2, e2, n2, tc2, ts2, to2, root2, ls2, vs2, rfl, P2, rfl⟩
  · k_steps
    rename Fr g L _ _ => F2
    rename News g L _ _ => N2
    refine kia_tup kitx_list (KX.keeps F2.keep) ⟨_, ha.get KX F2 N2 (sub_cons sub_refl), rfl⟩ (N2 _ (.head _)).1 (by kit_is) (by intro q; cases q) fun tk2 => ?_
    k_steps
    rename Fr g L _ _ => F3
    rename News g L _ _ => N3
    refine app_list F3 (news_sub N3 (sub_cons sub_refl)) hne (by omega) fun h4 F4 N4 => ?_
    exact next _ _ _ _ (em ▸ F4) N4
  · k_steps
    rename Fr g L _ _ => F2
    rename News g L _ _ => N2
    refine kia_tup kitx_tuple (KX.keeps F2.keep) ⟨_, ha.get KX F2 N2 (sub_cons sub_refl), rfl⟩ (N2 _ (.head _)).1 (by kit_is) (by intro q; cases q) fun tk2 => ?_
    k_steps
    rename Fr g L _ _ => F3
    rename News g L _ _ => N3
    refine app_list F3 (news_sub N3 (sub_cons sub_refl)) hne (by omega) fun h4 F4 N4 => ?_
    exact next _ _ _ _ (em ▸ F4) N4
  · obtain ⟨po2, pd2, pt2, pl2, plen2, pe2⟩ := id P2
    have hfl := flat_len pt2.leaf
    have hl2 := hl
    rw [List.length_append, hfl] at hl
    k_steps
    rename Fr g L _ _ => F2
    rename News g L _ _ => N2
    refine kia_tup kitx_vec (KX.keeps F2.keep) (inst_has po2 pd2 KX F2 N2 (sub_cons sub_refl)) (N2 _ (.head _)).1 (by kit_is) (by intro q; cases q) fun tk2 => ?_
    k_steps
    refine tolist_spec ⟨K1, KX, TT, rfl, rfl, rfl, rfl, Nat.le_of_ble_eq_true rfl, Nat.le_of_ble_eq_true rfl⟩ F2 N2 (sub_cons sub_refl) P2 (by omega) ?_
    intro lt nlt h' tk' F9 N9 l9
    k_steps
    rename Fr g L _ _ => F1
    rename News g L _ _ => N1
    refine ke_ne_ints (News.isList N1 (.head _)) (News.isList N1 (.tail _ (.tail _ (.head _)))) hns hns (Nat.le_of_ble_eq_true rfl) ?_
    rw [decide_eq_true rfl, Bool.not_true]
    k_steps
    rename Fr g L _ _ => F3
    rename News g L _ _ => N3
    refine app_list F3 (news_sub N3 (sub_cons (sub_cons sub_refl))) hne (by omega) fun h4 F4 N4 => ?_
    exact next _ _ _ _ (em ▸ F4) N4
end

theorem mem_swap2 {a b : Addr × Obj} {l : List (Addr × Obj)} : ∀ p ∈ b :: a :: l, p ∈ a :: b :: l := fun p hp => by
  simp only [List.mem_cons] at hp ⊢
  rcases hp with h | h | h <;> simp [h]
section
variable {w : World} {p : Program} {loose : List Str} {mean : ExcName → Option Value} {mg mb : Str → Option Value} {g : Heap} {L fa : Addr} {cd : Value}
  {m : Str → Option Value} {rest Z : List (Addr × Obj)} {s : Shared} {R : Flow → Shared → Prop} {E : Value → Shared → Prop} {prog : Program}
set_option maxHeartbeats 0 in
theorem turnD_err {e : String} {t1 t2 : Tok} (he : e = "IndexError" ∨ e = "ValueError") (KX : (hd.heap_39 w.params).In g) (TT : Top p loose mean mg mb g)
    (F : Fr g L s.heap m) (N : News g L s.heap rest) (h1 : m "due" = some (.str (Str.ofString e) t1)) (h2 : m "got" = some (.str (Str.ofString e) t2))
    (next : ∀ h' tk', Fr g L h' m → News g L h' rest → R .cont { s with heap := h', toks := tk' }) :
    wpAny (model prog w) (callerA.deeper (lawEnv L fa cd)) (execs turnD.1 (lawEnv L fa cd)) R E s := by
  have em := frame22 h1 h2
  have F1 : Fr g L s.heap (fun y : Str => if y = "due" then some (.str (Str.ofString e) t1) else if y = "got" then some (.str (Str.ofString e) t2) else m y) := em ▸ F
  clear F
  unfold lawEnv lawScope turnD at *
  dsimp only at *
  rcases he with rfl | rfl
  all_goals
    k_steps
    rename Fr g L _ _ => F2
    refine kia_one kitx_str (KX.keeps F2.keep) trivial (by kit_is) (by intro q; cases q) fun tk2 => ?_
    k_steps
    rename Fr g L _ _ => F2
    refine kia_one kitx_str (KX.keeps F2.keep) trivial (by kit_is) (by intro q; cases q) fun tk2 => ?_
    k_steps
    rename Fr g L _ _ => F3
    rename News g L _ _ => N3
    exact next _ _ (em ▸ F3) N3
set_option maxHeartbeats 0 in
theorem turnD_ok {am ap Dd : Addr} {mv pv zs : List Value} {n1 n2 nd : Nat} {got : Value} (KX : (hd.heap_39 w.params).In g) (TT : Top p loose mean mg mb g)
    (F : Fr g L s.heap m) (N : News g L s.heap ((am, W.listOf mv.toArray n1) :: (ap, W.listOf pv.toArray n2) :: rest)) (hne : am ≠ ap) (hne2 : ∀ p ∈ rest, p.1 ≠ am ∧ p.1 ≠ ap)
    (h1 : m "due" = some (.ref Dd)) (h2 : m "got" = some got) (h3 : m "made" = some (.ref am)) (h4 : m "plain" = some (.ref ap)) (hD : (Dd, W.listOf zs.toArray nd) ∈ rest) (P : PV w Z got zs) (hz : ∀ p ∈ Z, p ∈ rest) (hm : mv.length ≤ 100) (hp : pv.length ≤ 100)
    (next : ∀ h' tk' n1 n2, Fr g L h' m → News g L h' ((am, W.listOf (mv ++ [got]).toArray n1) :: (ap, W.listOf (pv ++ [Value.ref Dd]).toArray n2) :: rest) → R .next { s with heap := h', toks := tk' }) :
    wpAny (model prog w) (callerA.deeper (lawEnv L fa cd)) (execs turnD.1 (lawEnv L fa cd)) R E s := by
  obtain ⟨x, dx, t, e, n, tc, ts, to, root, ls, vs, rfl, ⟨po, pd, pt, pl, plen, pe⟩, hfl⟩ := P
  have em := frame4 h1 h2 h3 h4
  have F1 : Fr g L s.heap (fun y : Str => if y = "due" then some (.ref Dd) else if y = "got" then some (.ref x) else if y = "made" then some (.ref am) else if y = "plain" then some (.ref ap) else m y) := em ▸ F
  clear F
  unfold lawEnv lawScope turnD at *
  dsimp only at *
  k_steps
  rename Fr g L _ _ => F2
  rename News g L _ _ => N2
  refine kia_one kitx_list (KX.keeps F2.keep) ⟨_, (N2 _ (.tail _ (.tail _ hD))).1, rfl⟩ (by kit_is) (by intro q; cases q) fun tk2 => ?_
  k_steps
  rename Fr g L _ _ => F2
  rename News g L _ _ => N2
  refine kia_one kitx_vec (KX.keeps F2.keep) (inst_has po pd KX F2 N2 (sub_cons (sub_cons hz))) (by kit_is) (by intro q; cases q) fun tk2 => ?_
  k_steps
  rename Fr g L _ _ => F3
  rename News g L _ _ => N3
  refine app_list F3 N3 (fun p hp => by
    rcases List.mem_cons.mp hp with rfl | hp
    · exact Ne.symm hne
    · exact (hne2 p hp).1) (by omega) fun h5 F5 N5 => ?_
  clear F3 N3
  k_steps
  refine app_list F5 (news_sub N5 mem_swap2) (fun p hp => by
    rcases List.mem_cons.mp hp with rfl | hp
    · exact hne
    · exact (hne2 p hp).2) (by omega) fun h6 F6 N6 => ?_
  k_steps
  exact next _ _ _ _ (em ▸ F6) (news_sub N6 mem_swap2)
end

theorem due_err {k : Nat} {xs ys : List Value} {place stop step times a : Int} {ta : Tok} {e : String} (h : dueOf k xs ys place stop step times a ta = .error e) : e = "IndexError" ∨ e = "ValueError" := by
  unfold dueOf at h
  split at h
  · cases h
  · split at h
    · cases h
    · split at h
      · cases h
      · cases h; exact .inl rfl
  · cases h
  · cases h
  · split at h
    · cases h
    · cases h; exact .inl rfl
  · cases h
  · split at h
    · cases h
    · cases h; exact .inr rfl
  · split at h
    · cases h; exact .inr rfl
    · cases h
  · cases h
  · cases h
  · cases h
  · split at h
    · cases h
    · cases h; exact .inl rfl
theorem kf_one {a : Int} {ta : Tok} : kf_ints [Value.int a ta] = true := rfl
theorem kf_all {xs : List Value} (h : ∀ v ∈ xs, ∃ n t, v = Value.int n t) : kf_ints xs = true := by
  induction xs with
  | nil => rfl
  | cons x r ih =>
    obtain ⟨n, t, rfl⟩ := h x (.head _)
    exact ih fun v hv => h v (.tail _ hv)
theorem kf_mem {xs : List Value} (h : kf_ints xs = true) {v : Value} (hv : v ∈ xs) : ∃ n t, v = Value.int n t := by
  obtain ⟨i, hi, e⟩ := List.mem_iff_getElem.mp hv
  exact ints_at h (j := i) (by rw [← e]; simp)
theorem due_kf {k : Nat} {xs ys : List Value} {place stop step times a : Int} {ta : Tok} {zs : List Value} (h : dueOf k xs ys place stop step times a ta = .ok zs) (hx : kf_ints xs = true) (hy : kf_ints ys = true) : kf_ints zs = true := by
  unfold dueOf at h
  split at h
  · cases h; exact kf_app hx kf_one
  · split at h
    · cases h; exact kf_app hx kf_one
    · split at h
      · cases h
        refine kf_all fun v hv => ?_
        rcases List.mem_or_eq_of_mem_set hv with q | rfl
        · exact kf_mem hx q
        · exact ⟨_, _, rfl⟩
      · cases h
  · cases h; exact kf_app hx hy
  · cases h; exact kf_app hx hy
  · split at h
    · cases h; exact kf_sub hx fun v hv => List.mem_of_mem_eraseIdx hv
    · cases h
  · cases h; exact kf_app (kf_sub hx fun v hv => List.mem_of_mem_take hv) (kf_sub hx fun v hv => List.mem_of_mem_drop hv)
  · split at h
    · cases h; exact kf_sub hx fun v hv => List.mem_of_mem_eraseIdx hv
    · cases h
  · split at h
    · cases h
    · cases h
      obtain ⟨ns, hn⟩ := ints_of hx
      exact ints_kf (hn.pick _ _ _)
  · cases h
    refine kf_sub hx fun v hv => ?_
    obtain ⟨l, hl, hv⟩ := List.mem_flatten.mp hv
    rwa [(List.mem_replicate.mp hl).2] at hv
  · cases h
    refine kf_sub hx fun v hv => ?_
    obtain ⟨l, hl, hv⟩ := List.mem_flatten.mp hv
    rwa [(List.mem_replicate.mp hl).2] at hv
  · cases h; exact hx
  · split at h
    · cases h
      refine kf_app hx (kf_sub hx fun v hv => ?_)
      exact List.mem_of_getElem? (Option.mem_toList.mp hv)
    · cases h
theorem rep_most {xs : List Value} {times : Int} {B : Nat} (hb : xs.length ≤ B) (hB : 280 ≤ B) (h1 : times ≤ 4) (h2 : 70 < xs.length → times ≤ 1) : (List.replicate times.toNat xs).flatten.length ≤ B := by
  rw [List.length_flatten, List.map_replicate, List.sum_replicate_nat]
  rcases Nat.lt_or_ge 70 xs.length with q | q
  · have := h2 q
    have : times.toNat ≤ 1 := by omega
    calc times.toNat * xs.length ≤ 1 * xs.length := Nat.mul_le_mul_right _ this
      _ ≤ B := by omega
  · have : times.toNat ≤ 4 := by omega
    calc times.toNat * xs.length ≤ 4 * 70 := Nat.mul_le_mul this q
      _ ≤ B := hB
theorem due_len {k : Nat} {xs ys : List Value} {place stop step times a : Int} {ta : Tok} {zs : List Value} {B : Nat} (h : dueOf k xs ys place stop step times a ta = .ok zs) (hb : xs.length + 40 ≤ B) (hB : 280 ≤ B) (hy : ys.length ≤ 40) (h1 : times ≤ 4) (h2 : 70 < xs.length → times ≤ 1) : zs.length ≤ B := by
  unfold dueOf at h
  split at h
  · cases h; rw [List.length_append, List.length_singleton]; omega
  · split at h
    · cases h; rw [List.length_append, List.length_singleton]; omega
    · split at h
      · cases h; rw [List.length_set]; omega
      · cases h
  · cases h; rw [List.length_append]; omega
  · cases h; rw [List.length_append]; omega
  · split at h
    · cases h; have := List.length_eraseIdx_le (l := xs) (i := (spotOf xs.length place).toNat); omega
    · cases h
  · cases h; rw [List.length_append, List.length_take, List.length_drop]; omega
  · split at h
    · cases h; rename_i j _; have := List.length_eraseIdx_le (l := xs) (i := j); omega
    · cases h
  · split at h
    · cases h
    · cases h
      have := slicePick_size_le xs.toArray (some place) (some stop) (some step)
      have e : xs.toArray.size = xs.length := List.size_toArray ..
      rw [Array.length_toList]; omega
  · cases h; exact rep_most (by omega) hB h1 h2
  · cases h; exact rep_most (by omega) hB h1 h2
  · cases h; omega
  · split at h
    · cases h
      rw [List.length_append]
      have : ((xs[(spotOf xs.length place).toNat]?).toList).length ≤ 1 := by cases xs[(spotOf xs.length place).toNat]? <;> simp
      omega
    · cases h
theorem LawInv.step {w : World} {i : Nat} {Zs : List (Addr × Obj)} {mv pv : List Value} (H : LawInv w i Zs mv pv) : LawInv w (i + 1) Zs mv pv :=
  ⟨H.len, H.pos, Nat.le_succ_of_le H.most, fun j v r h1 h2 => by
    obtain ⟨xs, a, n, e, h3, h4, h5, h6⟩ := H.row j v r h1 h2
    exact ⟨xs, a, n, e, h3, h4, h5, by omega⟩⟩
theorem LawInv.more {w : World} {i : Nat} {Zs Zs' : List (Addr × Obj)} {mv pv zs : List Value} {got : Value} {Dd : Addr} {nd : Nat} (H : LawInv w i Zs mv pv) (hs : ∀ p ∈ Zs, p ∈ Zs') (hD : (Dd, W.listOf zs.toArray nd) ∈ Zs') (P : PV w Zs' got zs) (hk : kf_ints zs = true)
    (hl : zs.length ≤ 1060 + 40 * (i + 1)) : LawInv w (i + 1) Zs' (mv ++ [got]) (pv ++ [.ref Dd]) := by
  refine ⟨by rw [List.length_append, List.length_append, H.len]; rfl, by rw [List.length_append]; exact Nat.le_add_left _ _, by rw [List.length_append, List.length_singleton]; exact Nat.succ_le_succ H.most, fun j v r h1 h2 => ?_⟩
  rcases Nat.lt_or_ge j mv.length with q | q
  · rw [List.getElem?_append_left q] at h1
    rw [List.getElem?_append_left (H.len ▸ q)] at h2
    obtain ⟨xs, a, n, e, h3, h4, h5, h6⟩ := H.row j v r h1 h2
    exact ⟨xs, a, n, e, hs _ h3, h4.mono hs, h5, by omega⟩
  · rw [List.getElem?_append_right q] at h1
    rw [List.getElem?_append_right (H.len ▸ q), ← H.len] at h2
    cases hj : j - mv.length with
    | zero =>
      rw [hj] at h1 h2
      cases h1; cases h2
      exact ⟨zs, Dd, nd, rfl, hD, P, hk, hl⟩
    | succ n => rw [hj] at h1; simp at h1

theorem SeqLike.mono {w : World} {Z Z' : List (Addr × Obj)} {v : Value} {xs : List Value} (h : SeqLike w Z v xs) (hz : ∀ p ∈ Z, p ∈ Z') : SeqLike w Z' v xs := by
  rcases h with ⟨a, n, e, h⟩ | ⟨a, n, e, h⟩ | h
  · exact .inl ⟨a, n, e, h.mono hz⟩
  · exact .inr (.inl ⟨a, n, e, h.mono hz⟩)
  · exact .inr (.inr (h.mono hz))
theorem frame_if {m n : Str → Option Value} {a : Str} {v : Value} (h : m a = some v) (e : m = n) : m = fun z : Str => if z = a then some v else n z := by
  subst e
  exact frame1 h
/-- what holds between two turns of the law -/
structure LawJ (w : World) (g : Heap) (am ap : Addr) (i : Nat) (g' : Heap) (m' : Str → Option Value) (news' : List (Addr × Obj)) : Prop where
  ground : g = g'
  made : m' "made" = some (.ref am)
  plain : m' "plain" = some (.ref ap)
  led : ∃ Zs mv pv n1 n2, news' = (am, W.listOf (List.toArray mv) n1) :: (ap, W.listOf (List.toArray pv) n2) :: Zs ∧ (∀ p ∈ Zs, p.1 ≠ am ∧ p.1 ≠ ap) ∧ LawInv w i Zs mv pv
theorem mem_out3 {d : Addr × Obj} {a b c l : List (Addr × Obj)} : ∀ p ∈ d :: (a ++ (b ++ (c ++ l))), p ∈ a ++ (b ++ (c ++ d :: l)) := fun p hp => by
  simp only [List.mem_cons, List.mem_append] at hp ⊢
  rcases hp with h | h | h | h | h <;> simp [h]
theorem mem_out1 {d : Addr × Obj} {a l : List (Addr × Obj)} : ∀ p ∈ d :: (a ++ l), p ∈ a ++ d :: l := fun p hp => by
  simp only [List.mem_cons, List.mem_append] at hp ⊢
  rcases hp with h | h | h <;> simp [h]
theorem mem_front {d x u y z : Addr × Obj} {a b c l : List (Addr × Obj)} : ∀ p ∈ y :: z :: d :: x :: u :: (a ++ (b ++ (c ++ l))), p ∈ d :: (a ++ (b ++ (c ++ x :: u :: y :: z :: l))) := fun p hp => by
  simp only [List.mem_cons, List.mem_append] at hp ⊢
  rcases hp with h | h | h | h | h | h | h | h | h <;> simp [h]
theorem mem_last {d x u y z : Addr × Obj} {l : List (Addr × Obj)} : ∀ p ∈ [x, u] ++ y :: z :: l, p ∈ y :: z :: d :: x :: u :: l := fun p hp => by
  simp only [List.mem_cons, List.mem_append, List.not_mem_nil, or_false] at hp ⊢
  rcases hp with (h | h) | h | h | h <;> simp [h]
theorem mem_last1 {d x u y z : Addr × Obj} {a l : List (Addr × Obj)} : ∀ p ∈ [x, u] ++ y :: z :: l, p ∈ d :: (a ++ x :: u :: y :: z :: l) := fun p hp => by
  simp only [List.mem_cons, List.mem_append, List.not_mem_nil, or_false] at hp ⊢
  rcases hp with (h | h) | h | h | h <;> simp [h]
theorem mem_sh {d : Addr × Obj} {a b c l : List (Addr × Obj)} : ∀ p ∈ b ++ (c ++ d :: l), p ∈ d :: (a ++ (b ++ (c ++ l))) := fun p hp => by
  simp only [List.mem_cons, List.mem_append] at hp ⊢
  rcases hp with h | h | h | h <;> simp [h]
theorem mem_sh1 {d : Addr × Obj} {b l : List (Addr × Obj)} : ∀ p ∈ b ++ d :: l, p ∈ d :: (b ++ l) := fun p hp => by
  simp only [List.mem_cons, List.mem_append] at hp ⊢
  rcases hp with h | h | h <;> simp [h]
theorem mem_ends {a b c l : List (Addr × Obj)} : ∀ p ∈ a ++ l, p ∈ a ++ (b ++ (c ++ l)) := fun p hp => by
  simp only [List.mem_append] at hp ⊢
  rcases hp with h | h <;> simp [h]
theorem all_app3 {P : Addr × Obj → Prop} {a b c l : List (Addr × Obj)} (h1 : ∀ p ∈ a, P p) (h2 : ∀ p ∈ b, P p) (h3 : ∀ p ∈ c, P p) (h4 : ∀ p ∈ l, P p) : ∀ p ∈ a ++ (b ++ (c ++ l)), P p := fun p hp => by
  rcases List.mem_append.mp hp with q | hp
  · exact h1 p q
  rcases List.mem_append.mp hp with q | hp
  · exact h2 p q
  rcases List.mem_append.mp hp with q | q
  · exact h3 p q
  · exact h4 p q
theorem all_cons {P : Addr × Obj → Prop} {a : Addr × Obj} {l : List (Addr × Obj)} (h1 : P a) (h2 : ∀ p ∈ l, P p) : ∀ p ∈ a :: l, P p := fun p hp => by
  rcases List.mem_cons.mp hp with rfl | hp
  · exact h1
  · exact h2 p hp
theorem store_go {M : Model} {A : Around} {E : Value → Shared → Prop} {Q : Unit → Shared → Prop} {s : Shared} {g : Heap} {env : Env} {L : Addr} {m : Str → Option Value} {news : List (Addr × Obj)} {x : Str} {v : Value} (F : Fr g L s.heap m) (N : News g L s.heap news)
    (h : ∀ h', Fr g L h' (fun y => if y = x then some v else m y) → News g L h' news → Q () { s with heap := h', toks := s.toks + 1 }) (hl : env.locals = L) (hk : env.kindOf x = some .local)
    (hp : (env.scope.kind == .class || (env.scope.kind == .module && env.locals != env.globals)) = false) : wpAny M A (storeName env x v) Q E s := by
  subst hl
  exact wpAny_storeName_local hk F.ns (fun h₂ hn₂ hs₂ => h h₂ (F.set hn₂ hs₂) (N.set hs₂)) hp
section
variable {w : World} {p : Program} {loose : List Str} {mean : ExcName → Option Value} {mg mb : Str → Option Value} {g : Heap} {L fa : Addr} {cd : Value}
  {m : Str → Option Value} {Zs : List (Addr × Obj)} {s₀ : Shared} {Q : Flow → Shared → Prop} {E : Value → Shared → Prop} {prog : Program}
set_option maxHeartbeats 0 in
theorem turnB_spec {am ap Da Du I ra : Addr} {oI : Obj} {us mv pv xs ys : List Value} {n1 n2 nD rn i wh k tk : Nat} {h : Heap} {kind place stop step times va rest : Int} {t1 t2 t3 t4 t5 t6 t7 t8 : Tok} {v0 : Value}
    (K1 : Below callerA g [] g) (KX : (hd.heap_39 w.params).In g) (TT : Top p loose mean mg mb g) (F : Fr g L h m) (N : News g L h ((Da, W.listOf ys.toArray nD) :: (I, oI) :: (Du, W.listOf us.toArray 0) :: (am, W.listOf mv.toArray n1) :: (ap, W.listOf pv.toArray n2) :: Zs))
    (m1 : m "kind" = some (.int kind t1)) (m2 : m "row" = some (.ref ra)) (m3 : m "added" = some (.ref Da)) (m4 : m "place" = some (.int place t2)) (m5 : m "stop" = some (.int stop t3)) (m6 : m "step" = some (.int step t4)) (m7 : m "times" = some (.int times t5)) (m8 : m "value" = some (.int va t6))
    (m9 : m "rest" = some (.int rest t7)) (m10 : m "made" = some (.ref am)) (m11 : m "which" = some (.int wh t8)) (m12 : m "plain" = some (.ref ap))
    (hk : kind = k) (hk2 : k < 12) (LI : LawInv w i Zs mv pv) (hi : i ≤ 8) (hmv : mv[wh]? = some v0) (hra : (ra, W.listOf xs.toArray rn) ∈ Zs) (PX : PV w Zs v0 xs) (hxk : kf_ints xs = true) (hxl : xs.length ≤ 1060 + 40 * i) (hyk : kf_ints ys = true) (hyl : ys.length ≤ 40)
    (hp1 : -6000 ≤ place) (hp2 : place ≤ 6000) (hp3 : -6000 ≤ stop) (hp4 : stop ≤ 6000) (ht1 : -1 ≤ times) (ht : times ≤ 4) (ht2 : 70 < xs.length → times ≤ 1)
    (hDa : ∀ p ∈ (I, oI) :: (Du, W.listOf us.toArray 0) :: (am, W.listOf mv.toArray n1) :: (ap, W.listOf pv.toArray n2) :: Zs, p.1 ≠ Da) (hI : ∀ p ∈ (Du, W.listOf us.toArray 0) :: (am, W.listOf mv.toArray n1) :: (ap, W.listOf pv.toArray n2) :: Zs, p.1 ≠ I) (hap : am ≠ ap) (hDu : Du ≠ am ∧ Du ≠ ap)
    (hZ : ∀ p ∈ Zs, p.1 ≠ am ∧ p.1 ≠ ap) :
    wpAny (model prog w) (callerA.deeper (lawEnv L fa cd)) (execs turnB.1 (lawEnv L fa cd)) (PostG L (LawJ w g am ap (i + 1)) [(I, oI), (Du, W.listOf us.toArray 0)] I s₀ Q) E { s₀ with heap := h, toks := tk } := by
  have hm1 := LI.most
  have hm2 := LI.len
  have hwl : wh < mv.length := by
    rcases Nat.lt_or_ge wh mv.length with q | q
    · exact q
    · rw [List.getElem?_eq_none q] at hmv; cases hmv
  have b1 : xs.length ≤ 5000 := by omega
  have b2 : ys.length ≤ 5000 := by omega
  have b3 : times ≤ 10 := by omega
  have b4 : -10 ≤ times := by omega
  have em := frame_if m1 (frame_if m2 (frame_if m3 (frame_if m4 (frame_if m5 (frame_if m6 (frame_if m7 (frame_if m8 (frame_if m9 (frame_if m10 (frame_if m11 (frame_if m12 rfl)))))))))))
  try dsimp only at em
  have F1 := F
  rw [em] at F1
  unfold lawEnv lawScope turnB at *
  dsimp only at *
  k_steps
  refine due_spec (k := k) (l := ra) (b := Da) (n := rn) (nb := nD) (xs := xs) (ys := ys) ⟨K1, KX, TT, rfl, rfl, rfl, rfl, Nat.le_of_ble_eq_true rfl, Nat.le_of_ble_eq_true rfl⟩ F1 N hk hk2 (.tail _ (.tail _ (.tail _ (.tail _ (.tail _ hra))))) (.head _) b1 b2 hxk hp1 hp2 hp3 hp4 b3 b4 ?_ ?_
  · intro Dd nd tl1 zs h1 tk1 hdue F2 N2 l1 hDd
    clear F1 N
    k_steps
    rename Fr g L _ _ => F3
    rename News g L _ _ => N3
    refine handed_spec (xs := ys) (n := nD) ⟨K1, KX, TT, rfl, rfl, rfl, rfl, Nat.le_of_ble_eq_true rfl, Nat.le_of_ble_eq_true rfl⟩ F3 N3 (List.mem_append_right _ (.head _)) b2 ?_
    intro hv tl2 h4 tk4 F4 N4 l4 SH
    clear F3 N3
    k_steps
    rename Fr g L _ _ => F5
    rename News g L _ _ => N5
    refine item_any (News.isList N5 (List.mem_append_right _ (List.mem_append_right _ (.tail _ (.tail _ (.tail _ (.head _))))))) (by omega) (by omega) (by simpa using hmv) ?_
    k_steps
    refine done_spec (k := k) (Z := Zs) (xs := xs) (ys := ys) ⟨K1, KX, TT, rfl, rfl, rfl, rfl, Nat.le_of_ble_eq_true rfl, Nat.le_of_ble_eq_true rfl⟩ F5 N5 KX TT (fun p hp => List.mem_append_right _ (List.mem_append_right _ (.tail _ (.tail _ (.tail _ (.tail _ (.tail _ hp))))))) PX SH hk hk2 b1 b2 hxk hp1 hp2 b3 ?_ ?_
    · intro got tl3 zs' h6 tk6 hdue' F6 N6 l6 P6
      clear F5 N5
      obtain rfl : zs = zs' := Except.ok.inj (hdue.symm.trans hdue')
      refine store_go F6 N6 ?_ rfl rfl rfl
      intro h7 F7 N7
      have g1 : ∀ q ∈ (Da, W.listOf ys.toArray nD) :: (I, oI) :: (Du, W.listOf us.toArray 0) :: (am, W.listOf mv.toArray n1) :: (ap, W.listOf pv.toArray n2) :: Zs, ∀ p ∈ tl1, p.1 ≠ q.1 := fun q hq p hp => Nat.ne_of_gt (l1 q hq p hp)
      have g2 : ∀ q ∈ (Da, W.listOf ys.toArray nD) :: (I, oI) :: (Du, W.listOf us.toArray 0) :: (am, W.listOf mv.toArray n1) :: (ap, W.listOf pv.toArray n2) :: Zs, ∀ p ∈ tl2, p.1 ≠ q.1 := fun q hq p hp => Nat.ne_of_gt (l4 q (List.mem_append_right _ hq) p hp)
      have g3 : ∀ q ∈ (Da, W.listOf ys.toArray nD) :: (I, oI) :: (Du, W.listOf us.toArray 0) :: (am, W.listOf mv.toArray n1) :: (ap, W.listOf pv.toArray n2) :: Zs, ∀ p ∈ tl3, p.1 ≠ q.1 := fun q hq p hp => Nat.ne_of_gt (l6 q (List.mem_append_right _ (List.mem_append_right _ hq)) p hp)
      have im : (am, W.listOf mv.toArray n1) ∈ (Da, W.listOf ys.toArray nD) :: (I, oI) :: (Du, W.listOf us.toArray 0) :: (am, W.listOf mv.toArray n1) :: (ap, W.listOf pv.toArray n2) :: Zs := .tail _ (.tail _ (.tail _ (.head _)))
      have ip : (ap, W.listOf pv.toArray n2) ∈ (Da, W.listOf ys.toArray nD) :: (I, oI) :: (Du, W.listOf us.toArray 0) :: (am, W.listOf mv.toArray n1) :: (ap, W.listOf pv.toArray n2) :: Zs := .tail _ (.tail _ (.tail _ (.tail _ (.head _))))
      have iI : (I, oI) ∈ (Da, W.listOf ys.toArray nD) :: (I, oI) :: (Du, W.listOf us.toArray 0) :: (am, W.listOf mv.toArray n1) :: (ap, W.listOf pv.toArray n2) :: Zs := .tail _ (.head _)
      have hZ' : ∀ p ∈ tl3 ++ (tl2 ++ (tl1 ++ Zs)), p.1 ≠ am ∧ p.1 ≠ ap := all_app3 (fun p hp => ⟨g3 _ im p hp, g3 _ ip p hp⟩) (fun p hp => ⟨g2 _ im p hp, g2 _ ip p hp⟩) (fun p hp => ⟨g1 _ im p hp, g1 _ ip p hp⟩) hZ
      have hD' : (Dd, W.listOf zs.toArray nd) ∈ tl3 ++ (tl2 ++ (tl1 ++ Zs)) := List.mem_append_right _ (List.mem_append_right _ (List.mem_append_left _ hDd))
      refine turnC_spec (hv := hv) K1 KX TT F7 (news_sub N7 mem_out3) (all_app3 (g3 _ (.head _)) (g2 _ (.head _)) (g1 _ (.head _)) hDa) rfl rfl (SH.mono mem_sh) hyk b2 ?_
      intro h8 tk8 ys' n8 F8 N8
      refine turnD_ok (Z := tl3 ++ Zs) (zs := zs) (nd := nd) KX TT F8 (news_sub N8 mem_front) hap ?_ rfl rfl rfl rfl (.tail _ (.tail _ (.tail _ hD'))) P6 (fun p hp => .tail _ (.tail _ (.tail _ (mem_ends p hp)))) (by omega) (by omega) ?_
      · exact all_cons ⟨Ne.symm (hDa _ (.tail _ (.tail _ (.head _)))), Ne.symm (hDa _ (.tail _ (.tail _ (.tail _ (.head _)))))⟩ (all_cons ⟨Ne.symm (hI _ (.tail _ (.head _))), Ne.symm (hI _ (.tail _ (.tail _ (.head _))))⟩ (all_cons hDu hZ'))
      intro h9 tk9 n3 n4 F9 N9
      refine ⟨h9, tk9, g, _, _, rfl, F9, news_sub N9 mem_last, ?_, rfl, rfl, rfl, _, _, _, _, _, rfl, hZ', LI.more ?_ hD' (P6.mono mem_ends) (due_kf hdue hxk hyk) (due_len hdue (by omega) (by omega) hyl ht ht2)⟩
      · exact all_cons (hI (am, W.listOf mv.toArray n1) (.tail _ (.head _))) (all_cons (hI (ap, W.listOf pv.toArray n2) (.tail _ (.tail _ (.head _)))) (all_app3 (g3 _ iI) (g2 _ iI) (g1 _ iI) fun p hp => hI p (.tail _ (.tail _ (.tail _ hp)))))
      · exact fun p hp => List.mem_append_right _ (List.mem_append_right _ (List.mem_append_right _ hp))
    · intro e te h6 tk6 hdue'
      rw [hdue] at hdue'
      cases hdue'
  · intro e te h1 tk1 hdue F2 N2
    clear F1 N
    k_steps
    rename Fr g L _ _ => F3
    rename News g L _ _ => N3
    refine handed_spec (xs := ys) (n := nD) ⟨K1, KX, TT, rfl, rfl, rfl, rfl, Nat.le_of_ble_eq_true rfl, Nat.le_of_ble_eq_true rfl⟩ F3 N3 (.head _) b2 ?_
    intro hv tl2 h4 tk4 F4 N4 l4 SH
    clear F3 N3
    k_steps
    rename Fr g L _ _ => F5
    rename News g L _ _ => N5
    refine item_any (News.isList N5 (List.mem_append_right _ (.tail _ (.tail _ (.tail _ (.head _)))))) (by omega) (by omega) (by simpa using hmv) ?_
    k_steps
    refine done_spec (k := k) (Z := Zs) (xs := xs) (ys := ys) ⟨K1, KX, TT, rfl, rfl, rfl, rfl, Nat.le_of_ble_eq_true rfl, Nat.le_of_ble_eq_true rfl⟩ F5 N5 KX TT (fun p hp => List.mem_append_right _ (.tail _ (.tail _ (.tail _ (.tail _ (.tail _ hp)))))) PX SH hk hk2 b1 b2 hxk hp1 hp2 b3 ?_ ?_
    · intro got tl3 zs' h6 tk6 hdue'
      rw [hdue] at hdue'
      cases hdue'
    · intro e' te' h6 tk6 hdue' F6 N6
      clear F5 N5
      obtain rfl : e = e' := Except.error.inj (hdue.symm.trans hdue')
      refine store_go F6 N6 ?_ rfl rfl rfl
      intro h7 F7 N7
      refine turnC_spec (hv := hv) K1 KX TT F7 (news_sub N7 mem_out1) ?_ rfl rfl (SH.mono mem_sh1) hyk b2 ?_
      · intro p hp
        rcases List.mem_append.mp hp with q | q
        · exact Nat.ne_of_gt (l4 _ (.head _) p q)
        · exact hDa p q
      intro h8 tk8 ys' n8 F8 N8
      refine turnD_err (due_err hdue) KX TT F8 N8 rfl rfl ?_
      intro h9 tk9 F9 N9
      exact ⟨h9, tk9, g, _, _, rfl, F9, news_sub N9 mem_last1, fun p hp => hI p (.tail _ hp), rfl, rfl, rfl, _, _, _, _, _, rfl, hZ, LI.step⟩
end

local macro_rules | `(tactic| walk_at "binaryOp FloorDiv int int") => `(tactic| refine floordiv_int (by assumption) ?_)
section
variable {w : World} {p : Program} {loose : List Str} {mean : ExcName → Option Value} {mg mb : Str → Option Value} {g : Heap} {L fa : Addr} {cd : Value}
  {Zs : List (Addr × Obj)} {s₀ : Shared} {Q : Flow → Shared → Prop} {E : Value → Shared → Prop}
set_option maxHeartbeats 0 in
theorem turnA_spec {am ap Du I : Addr} {oI : Obj} {us mv pv : List Value} {n1 n2 i tk : Nat} {h : Heap} {num : Int} {tn : Tok} {m : Str → Option Value}
    (K1 : Below callerA g [] g) (KX : (hd.heap_39 w.params).In g) (TT : Top p loose mean mg mb g) (SE : g.NoSeer) (F : Fr g L h m) (N : News g L h ((I, oI) :: (Du, W.listOf us.toArray 0) :: (am, W.listOf mv.toArray n1) :: (ap, W.listOf pv.toArray n2) :: Zs))
    (h1 : m "number" = some (.int num tn)) (h2 : m "made" = some (.ref am)) (h3 : m "plain" = some (.ref ap)) (LI : LawInv w i Zs mv pv) (hi : i ≤ 8)
    (hI : ∀ p ∈ (Du, W.listOf us.toArray 0) :: (am, W.listOf mv.toArray n1) :: (ap, W.listOf pv.toArray n2) :: Zs, p.1 ≠ I) (hap : am ≠ ap) (hDu : Du ≠ am ∧ Du ≠ ap)
    (hZ : ∀ p ∈ Zs, p.1 ≠ am ∧ p.1 ≠ ap) :
    wpAny (model PySem.Challenge.rw_nc0016_01.row.prog w) (callerA.deeper (lawEnv L fa cd)) (execs turnA.1 (lawEnv L fa cd)) (PostG L (LawJ w g am ap (i + 1)) [(I, oI), (Du, W.listOf us.toArray 0)] I s₀ Q) E { s₀ with heap := h, toks := tk } := by
  have em := frame_if h1 (frame_if h2 (frame_if h3 rfl))
  try dsimp only at em
  have F20 := F
  rw [em] at F20
  clear F
  have hm1 := LI.pos
  have hm2 := LI.most
  have hm3 := LI.len
  have hmz : ((mv.toArray.size : Nat) : Int) ≠ 0 := by rw [List.size_toArray]; omega
  have hpz : ((pv.toArray.size : Nat) : Int) ≠ 0 := by rw [List.size_toArray]; omega
  unfold lawEnv lawScope turnA at *
  dsimp only at *
  k_steps
  rename_i F21 N21
  obtain ⟨k, hk, hk12⟩ := fmod_nat (a := num) (n := 12) (by decide)
  obtain ⟨wh, hwh, hwl⟩ := fmod_nat (a := num.fdiv 12) (n := mv.toArray.size) (by rw [List.size_toArray]; omega)
  rw [List.size_toArray] at hwl
  have hmv : mv[wh]? = some (mv[wh]'hwl) := by simp
  have hpv : pv[wh]? = some (pv[wh]'(by omega)) := by simp
  generalize mv[wh]'hwl = v0 at hmv
  generalize pv[wh]'(by omega) = r0 at hpv
  obtain ⟨xs, ra, rn, rfl, hra, PX, hxk, hxl⟩ := LI.row wh v0 r0 hmv hpv
  have hxl2 : xs.length ≤ 1500 := by omega
  generalize (num.fdiv 12).fdiv ↑mv.toArray.size = rest at *
  rw [hwh] at F21 ⊢
  refine abs_tok4 F21 ?_
  clear F21
  intro t1 t2 t3 t4 F21
  refine item_any (News.isList N21 (.tail _ (.tail _ (.tail _ (.head _))))) (by omega) (by omega) (by simpa using hpv) ?_
  have hra' : Has w Zs ra (W.listOf xs.toArray rn) := .inr hra
  k_steps
  rename_i F22 N22
  rw [List.size_toArray] at F22
  refine abs_tok F22 ?_
  clear F22
  intro tcn F22
  refine place_spec ⟨K1, KX, TT, rfl, rfl, rfl, rfl, Nat.le_of_ble_eq_true rfl, Nat.le_of_ble_eq_true rfl⟩ F22 N22 (by rw [List.size_toArray]; omega) ?_
  intro pl tp h23 tk23 hp1 hp2 F23 N23
  k_steps
  rename Fr _ _ _ _ => F24
  rename News _ _ _ _ => N24
  refine place_spec (c := xs.length) ⟨K1, KX, TT, rfl, rfl, rfl, rfl, Nat.le_of_ble_eq_true rfl, Nat.le_of_ble_eq_true rfl⟩ F24 N24 (by omega) ?_
  intro sto tst h25 tk25 hq1 hq2 F25 N25
  k_steps
  rename_i F26 N26
  refine abs_tok F26 ?_
  clear F26
  intro tse F26
  have hr6 := Int.fmod_nonneg_of_pos rest (show (0 : Int) < 6 by decide)
  have hr6' := Int.fmod_lt_of_pos rest (show (0 : Int) < 6 by decide)
  have hr3 := Int.fmod_nonneg_of_pos rest (show (0 : Int) < 3 by decide)
  have hr3' := Int.fmod_lt_of_pos rest (show (0 : Int) < 3 by decide)
  obtain ⟨tm, htm, htm1, htm2, htm3⟩ : ∃ tm : Int, ((xs.length ≤ 70 ∧ tm = rest.fmod 6 - 1) ∨ (70 < xs.length ∧ tm = rest.fmod 3 - 1)) ∧ -1 ≤ tm ∧ tm ≤ 4 ∧ (70 < xs.length → tm ≤ 1) := by
    rcases Nat.lt_or_ge 70 xs.length with q | q
    · exact ⟨_, .inr ⟨q, rfl⟩, by omega, by omega, by omega⟩
    · exact ⟨_, .inl ⟨q, rfl⟩, by omega, by omega, by omega⟩
  refine cut_int (z := tm) F26 N26 ?cut4 ?core4
  case cut4 =>
    intro Q' hQ'
    rcases htm with ⟨q, rfl⟩ | ⟨q, rfl⟩
    all_goals
      walk_at "my all"
      rename Fr _ _ _ _ => F27
      rename News _ _ _ _ => N27
      exact hQ' _ _ _ F27 N27
  intro ttm h28 tk28 F28 N28
  clear htm hr6 hr6' hr3 hr3'
  k_steps
  rename_i F29 N29
  obtain ⟨wq, hwq, hwql⟩ := fmod_nat (a := rest.fdiv 3) (n := pv.toArray.size) (by rw [List.size_toArray]; omega)
  rw [List.size_toArray] at hwql
  have hpq : pv[wq]? = some (pv[wq]'hwql) := by simp
  have hmq : mv[wq]? = some (mv[wq]'(by omega)) := by simp
  generalize mv[wq]'(by omega) = v2 at hmq
  generalize pv[wq]'hwql = r2 at hpq
  obtain ⟨qs, qa, qn, rfl, hqa, _, hqk, hql⟩ := LI.row wq v2 r2 hmq hpq
  rw [hwq]
  refine item_any (News.isList N29 (.tail _ (.tail _ (.tail _ (.head _))))) (by omega) (by omega) (by simpa using hpq) ?_
  have hqa' : Has w Zs qa (W.listOf qs.toArray qn) := .inr hqa
  k_steps
  obtain ⟨cut, hcut, hcutl⟩ := fmod_nat (a := rest) (n := 41) (by decide)
  refine kba_turn (value' := .Name (Str.ofString "x") default) (fun _ => rfl) ?_
  refine kms_slice_lit F29 N29 (News.isList N29 (.tail _ (.tail _ (.tail _ (.tail _ hqa))))) .none (.int _ _) (pick_take_any hcut) ?_ (by with_unfolding_all rfl) (by intro _; with_unfolding_all rfl) (by rw [sizeLine_eq, List.size_toArray]; omega)
  intro Da h31 F31 N31 l31
  have hys : (qs.take cut).length ≤ 40 := by rw [List.length_take]; omega
  have hyk : kf_ints (qs.take cut) = true := kf_sub hqk fun v hv => List.mem_of_mem_take hv
  generalize qs.take cut = ys at *
  k_steps
  rename_i F32 N32
  have hk' : num.fmod 12 = (k : Int) := hk
  rw [hk'] at F32
  refine cut_any F32 N32 ?cut5 ?core5
  case cut5 =>
    intro Q' hQ'
    by_cases h6 : k = 6
    · obtain rfl : k = 6 := h6
      rcases Int.lt_or_le pl (-(xs.length : Int)) with q1 | q1
      · walk_at "my all"
        exact hQ' _ _ _ _ F32 N32
      · rcases Int.lt_or_le pl xs.length with q2 | q2
        · walk_at "my all"
          obtain ⟨jp, hj1, hj2, hjl⟩ : ∃ jp : Nat, (pl < 0 → (jp : Int) = pl + xs.length) ∧ (0 ≤ pl → (jp : Int) = pl) ∧ jp < xs.length := by
            rcases Int.lt_or_le pl 0 with q | q
            · exact ⟨(pl + xs.length).toNat, by omega, by omega, by omega⟩
            · exact ⟨pl.toNat, by omega, by omega, by omega⟩
          have hjx : xs[jp]? = some (xs[jp]'hjl) := by simp
          obtain ⟨nx, tx, ex⟩ := ints_at hxk hjx
          rw [ex] at hjx
          refine item_spot (l := xs) (News.isList N32 (.tail _ (.tail _ (.tail _ (.tail _ (.tail _ hra)))))) (by omega) hj1 hj2 hjx ?_
          exact hQ' _ _ _ _ F32 N32
        · walk_at "my all"
          exact hQ' _ _ _ _ F32 N32
    · walk_at "my all"
      exact hQ' _ _ _ _ F32 N32
  intro va tva h33 tk33 F33 N33
  refine store_go F33 N33 ?_ rfl rfl rfl
  intro h34 F34 N34
  exact turnB_spec (k := k) K1 KX TT F34 N34 rfl rfl rfl rfl rfl rfl rfl rfl rfl rfl rfl rfl rfl hk12 LI hi hmv hra PX hxk hxl hyk hys hp1 hp2 hq1 hq2 htm1 htm2 htm3 (fun p hp => Nat.ne_of_lt (l31 p hp)) hI hap hDu hZ
end

local macro_rules | `(tactic| walk_at "call type:zip") => `(tactic| (with_reducible refine st_v ?_))
local macro_rules | `(tactic| walk_at "compareOp Eq ref ref") => `(tactic| (with_reducible refine st_n ?_))
section
variable {w : World} {p : Program} {loose : List Str} {mean : ExcName → Option Value} {mg mb : Str → Option Value} {g : Heap} {L fa : Addr} {cd : Value}
  {Zs : List (Addr × Obj)} {s₀ : Shared} {R : Flow → Shared → Prop} {E : Value → Shared → Prop} {prog : Program}
set_option maxHeartbeats 0 in
theorem lawEnd_spec {am ap Du : Addr} {us mv pv : List Value} {n1 n2 i tk : Nat} {h : Heap} {m : Str → Option Value}
    (K1 : Below callerA g [] g) (KX : (hd.heap_39 w.params).In g) (TT : Top p loose mean mg mb g) (F : Fr g L h m) (N : News g L h ((Du, W.listOf us.toArray 0) :: (am, W.listOf mv.toArray n1) :: (ap, W.listOf pv.toArray n2) :: Zs))
    (h2 : m "made" = some (.ref am)) (h3 : m "plain" = some (.ref ap)) (LI : LawInv w i Zs mv pv) (hi : i ≤ 8) (own : PassesOwn (model prog w) (callerA.deeper (lawEnv L fa cd)) (lawEnv L fa cd) E)
    (ret : ∀ h' tk' m', Fr g L h' m' → R (.ret (.bool true)) { s₀ with heap := h', toks := tk' }) :
    wpAny (model prog w) (callerA.deeper (lawEnv L fa cd)) (execs lawEnd.1 (lawEnv L fa cd)) R E { s₀ with heap := h, toks := tk } := by
  have em := frame_if h2 (frame_if h3 rfl)
  try dsimp only at em
  have F1 := F
  rw [em] at F1
  clear F
  have hm1 := LI.pos
  have hm2 := LI.most
  have hm3 := LI.len
  have sZ : ∀ p ∈ Zs, p ∈ (Du, W.listOf us.toArray 0) :: (am, W.listOf mv.toArray n1) :: (ap, W.listOf pv.toArray n2) :: Zs := fun p hp => .tail _ (.tail _ (.tail _ hp))
  unfold lawEnv lawScope lawEnd at *
  dsimp only at *
  k_steps
  rename Fr g L _ _ => F2
  rename News g L _ _ => N2
  refine zip_pairs (l1 := am) (l2 := ap) (n1 := n1) (n2 := n2) (xs := mv) (ys := pv) rfl F2 N2 (.tail _ (.head _)) (.tail _ (.tail _ (.head _))) (by decide) ?_ ?_
  · intro j v0 v1 u0 u1 h4 tk4 own hv0 hv1 F4 N4
    obtain ⟨xs, a, n, rfl, hra, PX, hxk, hxl⟩ := LI.row j v0 v1 hv0 hv1
    obtain ⟨x, rfl⟩ := PX.ref
    have F5 := F4
    k_steps
    refine holds_spec (xs := xs) (Z := Zs) ⟨K1, KX, TT, rfl, rfl, rfl, rfl, Nat.le_of_ble_eq_true rfl, Nat.le_of_ble_eq_true rfl⟩ F4 N4 KX TT (fun p hp => List.mem_append_right _ (sZ p hp)) PX (List.mem_append_right _ (sZ _ hra)) (by omega) hxk ?_
    intro h6 tk6 F6 N6
    k_steps
    show ZipPost _ _ _ _ _ _ _ _
    exact ⟨_, _, rfl, F6, N6⟩
  · intro u0 u1 h4 tk4 F4 N4
    clear F2 N2
    have hl1 : mv[mv.length - 1]? = some (mv[mv.length - 1]'(by omega)) := by simp
    have hl2 : pv[mv.length - 1]? = some (pv[mv.length - 1]'(by omega)) := by simp
    generalize mv[mv.length - 1]'(by omega) = v0 at hl1
    generalize pv[mv.length - 1]'(by omega) = v1 at hl2
    obtain ⟨xs, a, n, rfl, hra, PX, hxk, hxl⟩ := LI.row _ v0 v1 hl1 hl2
    obtain ⟨x, rfl⟩ := PX.ref
    obtain ⟨ns, hns⟩ := ints_of hxk
    k_steps
    refine item_spot (l := mv) (j := mv.length - 1) (News.isList N4 (.tail _ (.head _))) (by omega) (by omega) (by omega) hl1 ?_
    k_steps
    refine list_vec (Z := Zs) ⟨K1, KX, TT, rfl, rfl, rfl, rfl, Nat.le_of_ble_eq_true rfl, Nat.le_of_ble_eq_true rfl⟩ F4 N4 sZ PX (by omega) ?_
    intro S c' h5 tk5 F5 N5 l5
    k_steps
    refine item_spot (l := pv) (j := mv.length - 1) (News.isList N5 (.tail _ (.tail _ (.tail _ (.head _))))) (by omega) (by omega) (by omega) hl2 ?_
    k_steps
    refine ke_eq_ints (xs := xs) (ys := xs) (News.isList N5 (.head _)) (News.isList N5 (.tail _ (sZ _ hra))) hns hns (Nat.le_of_ble_eq_true rfl) ?_
    rw [decide_eq_true rfl]
    k_steps
    exact ret _ _ _ F5
end

local macro_rules | `(tactic| k_qdec) => `(tactic| ((try rw [PySem.W.Fast.te17448422675489707002]); (try rw [PySem.W.Fast.te2458874890965802552]); decide +kernel))
set_option maxHeartbeats 0 in
theorem said : OpenLaw.wellSaid PySem.Challenge.rw_nc0016_01 = true := by (try rw [PySem.W.Fast.te9446332074065402090]); decide +kernel
set_option maxHeartbeats 0 in
theorem main : PySem.Challenge.rw_nc0016_01.Holds := by
  refine holds_law said fun said => ?_
  refine holds_open (q := hd.view_39) (loose := [Str.ofString "BIT_MASK", Str.ofString "SHIFT", Str.ofString "PythonPVector", Str.ofString "_EMPTY_PVECTOR", Str.ofString "python_pvector"]) (Xt := xt) (XP := XL hd.view_39 [(Str.ofString "BIT_MASK", WData.int 31), (Str.ofString "SHIFT", WData.int 5)]) (Yf := hk.obs) (Ya := hk.val) (YP := hk.says) (N := 5070) left (Hook.of hk) (Hook.keeps hk) (fun s e => xl_of s (Bool.and_eq_true_iff.mp e).1) XL.keeps (by rfl) (by rfl) (by rfl) (fun s e => recFacts_of (Bool.and_eq_true_iff.mp e).2) (by rfl) (by first | assumption | decide +kernel) (by decide +kernel) ⟨rfl, rfl, rfl, rfl, rfl, by decide +kernel⟩ ?hw ?hc
  case hw => w_witness2
  clear said
  k_go0
  all_goals try k_fold
  rename Fr _ _ _ _ => F1
  rename News _ _ _ _ => N1
  rename Frag.In _ _ => KX
  rename Top _ _ _ _ _ _ => TT
  rename Below _ _ _ _ => K0
  rename IntsAre _ _ => hI
  rename Heap.IsList _ _ _ => hL
  rename ¬ _ => hlen
  rename Heap.CodeRec _ _ _ => z1
  clear z1
  rename Dflts _ _ _ _ _ _ => z2
  clear z2
  rename Ground _ _ _ _ _ _ _ _ _ => z3
  clear z3
  rename Tables _ _ _ _ => z4
  rename TopE _ _ _ _ => z5
  rename TopW _ _ _ => z6
  rename BMod _ _ _ _ _ => z7
  rename Glob _ _ _ _ _ _ _ _ => z8
  rename LooseAre _ _ _ => z9
  rename Flt.MathXP _ _ _ => z10
  rename ReadsAll _ _ _ _ => z11
  rename ReadsAllW _ _ _ _ _ _ => z12
  rename Well _ _ _ _ => z13
  rename Reads _ _ _ _ => z14
  clear z4 z5 z6 z7 z8 z9 z10 z11 z12 z13 z14
  dsimp only at F1
  dsimp only
  rename_i w s0 s1 mg mb Y fa o pm doc kV ho hg a9 a8 cd a6 ns hs hlay0 hLay hr hl2 a4 a3 sc vs a0 hcond h1
  clear Y ho hs hlay0 hLay hr hl2 hcond
  have K1 : Below callerA s1.heap [] s1.heap := K0
  clear K0
  have SE : s1.heap.NoSeer := PyProof.Rows.Top.seer TT (by decide +kernel)
  have hvl : vs.length ≤ 63 := by rw [hI.length]; omega
  k_steps
  rename Fr _ _ _ _ => F1
  rename News _ _ _ _ => N1
  refine kba_turn (value' := .Name (Str.ofString "x") default) (fun _ => rfl) ?_
  refine kms_slice_lit F1 N1 (News.isList N1 (.head _)) (.int _ _) .none rfl ?_ (by with_unfolding_all rfl) (by intro _; with_unfolding_all rfl) (by rw [sizeLine_eq]; simp)
  intro D2 h2 F2 N2 l2
  refine abs_num N2 (n := vs.length) rfl rfl ?_
  clear N1 F1 N2 l2
  intro rs hrs hrl N2
  have N3 := news_sub N2 (l' := [_]) (fun p hp => by rw [List.mem_singleton.mp hp]; exact .head _)
  clear N2
  simp only [List.length_cons, List.length_nil] at hrl
  have hkn : kf_ints (vs ++ rs) = true := kf_app (ints_kf hI) hrs
  have hnl : 5 ≤ (vs ++ rs).length := by rw [List.length_append]; omega
  have hnl2 : (vs ++ rs).length ≤ 68 := by rw [List.length_append]; omega
  k_steps
  rename_i Dn ha ln hb F4 N4
  have e0 : (vs ++ rs)[0]? = some ((vs ++ rs)[0]'(by omega)) := by simp
  obtain ⟨n0, t0, e1⟩ := ints_at hkn e0
  rw [e1] at e0
  refine item_any (News.isList N4 (.head _)) (by decide) (by decide) e0 ?_
  clear e0 e1
  k_steps
  refine size_spec ⟨K1, KX, TT, rfl, rfl, rfl, rfl, Nat.le_of_ble_eq_true rfl, Nat.le_of_ble_eq_true rfl⟩ F4 N4 ?_
  intro z tz h5 tk5 hz0 hz1 F5 N5
  k_steps
  rename IsRange _ _ _ _ _ _ _ _ => hR
  rename Fr _ _ _ _ => F6
  rename News _ _ _ _ => N6
  obtain ⟨hsm, hrs2⟩ := range_1000 hz0 hz1
  refine list_rangeN rfl F6 N6 hR hsm hrs2 (by omega) ?_
  intro Df fs cf h7 tk7 F7 N7 l7 hfl hfv
  have hfk := kf_range hfv
  have hfs : fs.length ≤ 1060 := by omega
  clear hfv hsm hrs2 hR N6 F6
  k_steps
  rename Fr _ _ _ _ => F8
  rename News _ _ _ _ => N8
  refine pvec_spec (xs := []) ⟨K1, KX, TT, rfl, rfl, rfl, rfl, Nat.le_of_ble_eq_true rfl, Nat.le_of_ble_eq_true rfl⟩ F8 N8 (.inr (.inl ⟨_, 0, rfl, .inr (.head _)⟩)) (by simp) ?_
  intro r0 tl0 h9 tk9 F9 N9 l9 P9
  have P9' := P9
  obtain ⟨x0, dx0, t9, e9, n9, tc9, ts9, to9, root9, ls9, vs9, rfl, ⟨po9, pd9, _, _, _, _⟩, _⟩ := P9
  k_steps
  refine extend_pv (Z := tl0) ⟨K1, KX, TT, rfl, rfl, rfl, rfl, Nat.le_of_ble_eq_true rfl, Nat.le_of_ble_eq_true rfl⟩ F9 N9 (sub_appl sub_refl) P9' (.inl ⟨Df, cf, rfl, .inr (List.mem_append_right _ (.tail _ (.head _)))⟩) (by simp only [List.length_nil]; omega) ?_
  intro r1 tl1 h10 tk10 F10 N10 l10 P10
  rw [List.nil_append] at P10
  obtain ⟨x1, rfl⟩ := P10.ref
  have e2 := pick_all (xs := fs)
  have N11 : News s1.heap s1.heap.objs.size h10 ((Df, W.listOf fs.toArray cf) :: (Dn, W.listOf (vs ++ rs).toArray 0) :: (tl1 ++ tl0)) := news_sub N10 fun p hp => by
    rcases List.mem_cons.mp hp with rfl | hp
    · exact List.mem_append_right _ (List.mem_append_right _ (.tail _ (.head _)))
    · rcases List.mem_cons.mp hp with rfl | hp
      · exact List.mem_append_right _ (List.mem_append_right _ (.tail _ (.tail _ (.head _))))
      · exact (List.mem_append.mp hp).elim (fun q => List.mem_append_left _ q) fun q => List.mem_append_right _ (List.mem_append_left _ q)
  have hDf : ∀ p ∈ tl1 ++ tl0, Df < p.1 := fun p hp => by
    rcases List.mem_append.mp hp with q | q
    · exact l10 _ (List.mem_append_right _ (.tail _ (.head _))) p q
    · exact l9 _ (.tail _ (.head _)) p q
  generalize tl1 ++ tl0 = Z1 at *
  clear N10 l10 l9 N9 F9 N8 F8
  k_steps
  rename_i am ha2 la hb2 tkb D0 hc2 lb ap hd2 lc he2 F12 N12
  have hne12 : ∀ p ∈ (ap, W.listOf #[Value.ref D0] 0) :: (D0, W.listOf fs.toArray 0) :: (am, W.listOf #[Value.ref x1] 0) :: (Dn, W.listOf (vs ++ rs).toArray 0) :: Z1, p.1 ≠ Df := fun p hp => by
    rcases List.mem_cons.mp hp with rfl | hp
    · exact Nat.ne_of_gt lc.2.2.1
    rcases List.mem_cons.mp hp with rfl | hp
    · exact Nat.ne_of_gt lb.2.1
    rcases List.mem_cons.mp hp with rfl | hp
    · exact Nat.ne_of_gt la.1
    rcases List.mem_cons.mp hp with rfl | hp
    · exact Nat.ne_of_lt l7.1
    · exact Nat.ne_of_gt (hDf p hp)
  refine app_list F12 (news_sub N12 mem_perm13) hne12 (by omega) fun h13 F13 N13 => ?_
  clear F12 N12
  k_steps
  refine rev_list F13 N13 hne12 (by simp; omega) fun h14 F14 N14 => ?_
  clear F13 N13 hne12
  obtain ⟨jj, hjj, hj8⟩ : ∃ jj : Nat, ((200 < z ∧ jj = 3) ∨ (z ≤ 200 ∧ jj = 8)) ∧ jj ≤ 8 := by
    rcases Int.lt_or_le 200 z with q | q
    · exact ⟨3, .inl ⟨q, rfl⟩, by decide⟩
    · exact ⟨8, .inr ⟨q, rfl⟩, by decide⟩
  have e3 : kms_pick (vs ++ rs).toArray.toList (some 1) (some ((jj : Int) + 1)) = ((vs ++ rs).drop 1).take jj := pick_run (k := 1) (by omega) (by omega)
  k_steps
  refine cut_int (z := (jj : Int) + 1) F14 N14 ?cut ?core
  case cut =>
    intro Q' hQ'
    rcases hjj with ⟨q, rfl⟩ | ⟨q, rfl⟩
    · walk_at "my all"
      exact hQ' _ _ _ F14 N14
    · walk_at "my all"
      exact hQ' _ _ _ F14 N14
  intro tk15 h15 tk16 F15 N15
  k_steps
  rename_i Du h17 F17 N17 l17
  have hku : kf_ints (((vs ++ rs).drop 1).take jj) = true := kf_sub hkn fun v hv => List.mem_of_mem_drop (List.mem_of_mem_take hv)
  have hul : (((vs ++ rs).drop 1).take jj).length ≤ 8 := by rw [List.length_take]; omega
  generalize ((vs ++ rs).drop 1).take jj = us at *
  have hap : am ≠ ap := Nat.ne_of_lt lc.2.1
  have N19 : News s1.heap s1.heap.objs.size h17 ((Du, W.listOf us.toArray 0) :: (am, W.listOf [Value.ref x1].toArray 0) :: (ap, W.listOf [Value.ref D0].toArray 0) :: (D0, W.listOf fs.toArray 0) :: Z1) := news_sub N17 (by
    intro p hp
    simp only [List.mem_cons] at hp ⊢
    rcases hp with h | h | h | h | h <;> simp [h])
  have hDu : Du ≠ am ∧ Du ≠ ap := ⟨Nat.ne_of_gt l17.2.2.1, Nat.ne_of_gt l17.1⟩
  (try clear N17); (try clear N15); (try clear F15); (try clear N14); (try clear F14); (try clear N11); (try clear N7); (try clear F7); (try clear F10); (try clear N5); (try clear F5); (try clear N4); (try clear F4); (try clear N3); (try clear F2)
  refine iter_G (LawJ w s1.heap am ap) rfl F17 N19 ?_ ?_ ?_
  · refine ⟨rfl, rfl, rfl, _, _, _, _, _, rfl, ?_, ?_⟩
    · intro p hp
      rcases List.mem_cons.mp hp with rfl | hp
      · exact ⟨Nat.ne_of_gt lb.1, Nat.ne_of_lt lc.1⟩
      · exact ⟨Nat.ne_of_lt (tb_ltOf la.2.2 p hp), Nat.ne_of_lt (tb_ltOf lc.2.2.2.2 p hp)⟩
    · refine ⟨rfl, Nat.le_refl 1, Nat.le_refl 1, ?_⟩
      intro j v r hv hr
      cases j with
      | zero => cases hv; cases hr; exact ⟨fs, D0, 0, rfl, .head _, P10.mono (sub_cons sub_refl), hfk, by omega⟩
      | succ j => simp at hv
  · rintro i v g' m₁ news₁ h tk18 I oI hv ⟨rfl, hmade, hplain, Zs, mv, pv, n1, n2, rfl, hZ, LI⟩ F18 N18 hI
    obtain ⟨num, tn, rfl⟩ := ints_at hku hv
    have hi8 : i < us.length := by
      rcases Nat.lt_or_ge i us.length with q | q
      · exact q
      · rw [List.getElem?_eq_none q] at hv; cases hv
    exact turnA_spec K1 KX TT SE F18 N18 rfl ((if_neg (by decide)).trans hmade) ((if_neg (by decide)).trans hplain) LI (by omega) hI hap hDu hZ
  · rintro g' m₁ news₁ h tk18 ⟨rfl, hmade, hplain, Zs, mv, pv, n1, n2, rfl, hZ, LI⟩ F18 N18
    refine lawEnd_spec K1 KX TT F18 N18 hmade hplain LI hul (by passes_own) ?_
    intro h19 tk19 m19 F19
    k_steps

end Mine
theorem PySem.Challenge.cw_nc0016_01_holds : PySem.Challenge.rw_nc0016_01.Holds :=
  Mine.main

