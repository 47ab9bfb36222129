import PyProof.Rows.All
import Wide.All
import OpenK.AllK
import Wide.FinOn
import PySem.Challenge.RW_ph0178_01
set_option Elab.async false
set_option maxRecDepth 100000
set_option maxHeartbeats 8000000
set_option linter.unusedVariables false
set_option linter.unusedSimpArgs false
set_option linter.defProp false
open PySem PySem.W PyProof.Rows PySem.Calls
namespace Mine
local macro_rules | `(tactic| omega) => `(tactic| lia)
section
noncomputable abbrev topL : List Stmt := PySem.Challenge.pw_ph0178_01.main.body
noncomputable abbrev noArgs : Arguments := ⟨[], [], none, [], [], none, []⟩
noncomputable def fnAt (l : List Stmt) (i : Nat) : Arguments × List Stmt × Scope := match l[i]? with
  | some (.FunctionDef _ p b _ _ _ s _ _ _) => (p, b, s)
  | _ => (noArgs, [], default)
noncomputable def clsAt (l : List Stmt) (i : Nat) : List Stmt := match l[i]? with
  | some (.ClassDef _ _ _ b _ _ _ _ _ _ _) => b
  | _ => []
noncomputable abbrev sS (s : String) : Str := Str.ofString s
noncomputable abbrev vS (s : String) (t : Nat) : Value := .str (Str.ofString s) t
noncomputable abbrev vR (a : Nat) : Value := .ref a
noncomputable abbrev vI (z : Int) (t : Nat) : Value := .int z t
noncomputable abbrev vN : Value := .none
noncomputable abbrev dE (P : PySem.Params) (s : String) (t : Nat) (v : Value) : DictEntry := ⟨PyData.keyHash P (Str.ofString s), .str (Str.ofString s) t, v⟩
noncomputable abbrev oF (f : FuncData) (l : Array (Option Value)) : Obj := ⟨.type "function", none, .func f, l⟩
noncomputable abbrev theLife : Life := Life.mk [] [] [] 0 [] [] false #[] [] 0 false false false 0 [2000, 10, 10] false 0 true [] [] 0 false
noncomputable def ob1 (P : PySem.Params) : Obj := Obj.mk (Value.type "dict") none (Data.dict #[dE P "builtins" 162 (vR 4), dE P "__main__" 163 (vR 5), dE P "_sre" 244 (vR 12)] 3) #[]
noncomputable def ob2 (P : PySem.Params) : Obj := Obj.mk vN none (Data.dict #[dE P "\x69mport.loaded._sre" 183 (Value.bool true), dE P "class._frozen_importlib.BuiltinImporter" 185 (vR 14), dE P "watched.\x69mport" 206 (vR 18), dE P "class._frozen_importlib.ModuleSpec" 216 (vR 22), dE P "sys.modules.booked-epoch" 245 (vI 3 0), dE P "\x69mport.later-laid._sre" 270 (Value.bool true), dE P "watched.library" 272 (vR 27), dE P "watched.library-objects" 0 (vS "\x0c" 0), dE P "watched.library-deep._sre" 273 (vS "\x04\x00\x00\x0b\x04\x00\x00\x0b\x04\x00\x00\x03\x04\x00\x00\x0b\x08\x04dict\x02" 0)] 9) #[]
noncomputable def ob3 (P : PySem.Params) : Obj := Obj.mk (Value.type "dict") none (Data.dict #[dE P "__name__" 165 (vS "law_ph0178_01" 728), dE P "__doc__" 166 vN, dE P "__package__" 167 vN, dE P "__loader__" 168 (Value.builtin "__main__.__loader__#opaque"), dE P "__spec__" 169 vN, dE P "__annotations__" 170 (vR 6), dE P "__builtins__" 171 (vR 4), dE P "__file__" 173 (vS "/claim/cut.py" 172), dE P "__cached__" 174 vN, dE P "_sre" 275 (vR 12), dE P "_wall" 288 (vR 38), dE P "compute_powers" 310 (vR 46), dE P "_str_to_int_inner" 321 (vR 53), dE P "int_from_string" 328 (vR 60), dE P "_DIV_LIMIT" 330 (vI 4000 329), dE P "_div2n1n" 347 (vR 67), dE P "_div3n2n" 361 (vR 74), dE P "_int2digits" 372 (vR 81), dE P "_digits2int" 383 (vR 88), dE P "_divmod_pos" 398 (vR 95), dE P "int_divmod" 408 (vR 102), dE P "insort_right" 423 (vR 111), dE P "bisect_right" 437 (vR 120), dE P "insort_left" 450 (vR 129), dE P "bisect_left" 464 (vR 138), dE P "tspecials" 500 (vR 143), dE P "_name_disallowed_re" 526 (vR 148), dE P "_value_disallowed_re" 560 (vR 153), dE P "_formatparam" 570 (vR 161), dE P "Headers" 727 (vR 282), dE P "_law_cells" 735 (vR 291), dE P "_law_table" 747 (vR 298), dE P "_law_whole" 754 (vR 305), dE P "_law_floors" 760 (vR 310), dE P "_law_plain" 766 (vR 315), dE P "_law_falls" 772 (vR 320), dE P "_law_told" 778 (vR 325), dE P "_law_strips" 784 (vR 330), dE P "_law_names_agree" 790 (vR 335), dE P "_law_ground" 798 (vR 342), dE P "_law_laid" 807 (vR 349), dE P "law" 813 (vR 354)] 42) #[]
noncomputable def ob11 (P : PySem.Params) : Obj := Obj.mk (Value.type "dict") none (Data.dict #[dE P "__name__" 247 (vS "_sre" 246), dE P "__doc__" 248 vN, dE P "__package__" 250 (vS "" 249), dE P "__loader__" 251 (Value.builtin "off-the-table:_sre.__loader__:shared#opaque"), dE P "__spec__" 252 (Value.builtin "off-the-table:_sre.__spec__:shared#opaque"), dE P "compile" 253 (Value.builtin "_sre.compile"), dE P "template" 254 (Value.builtin "off-the-table:_sre.template:shared#opaque"), dE P "getcodesize" 255 (Value.builtin "off-the-table:_sre.getcodesize:shared#opaque"), dE P "ascii_iscased" 256 (Value.builtin "off-the-table:_sre.ascii_iscased:shared#opaque"), dE P "unicode_iscased" 257 (Value.builtin "off-the-table:_sre.unicode_iscased:shared#opaque"), dE P "ascii_tolower" 258 (Value.builtin "off-the-table:_sre.ascii_tolower:shared#opaque"), dE P "unicode_tolower" 259 (Value.builtin "off-the-table:_sre.unicode_tolower:shared#opaque"), dE P "MAGIC" 261 (vI 20230612 260), dE P "CODESIZE" 263 (vI 4 262), dE P "MAXREPEAT" 265 (vI 4294967295 264), dE P "MAXGROUPS" 267 (vI 1073741823 266), dE P "copyright" 269 (vS " SRE 2.2.2 Copyright (c) 1997-2002 by Secret Labs AB " 268)] 17) #[]
noncomputable def ob12 (P : PySem.Params) : Obj := Obj.mk (Value.type "module") (some 11) Data.plain #[]
noncomputable def ob13 (P : PySem.Params) : Obj := Obj.mk (Value.type "dict") none (Data.dict #[dE P "__module__" 189 (vS "_frozen_importlib" 186), dE P "__firstlineno__" 190 (vI 971 187), dE P "__doc__" 191 (Value.builtin "_frozen_importlib.BuiltinImporter.__doc__:str#opaque"), dE P "_ORIGIN" 192 (vS "built-in" 188), dE P "find_spec" 193 (Value.builtin "_frozen_importlib.BuiltinImporter.find_spec#opaque"), dE P "create_module" 194 (Value.builtin "_frozen_importlib.BuiltinImporter.create_module#opaque"), dE P "exec_module" 195 (Value.builtin "_frozen_importlib.BuiltinImporter.exec_module#opaque"), dE P "get_code" 196 (Value.builtin "_frozen_importlib.BuiltinImporter.get_code#opaque"), dE P "get_source" 197 (Value.builtin "_frozen_importlib.BuiltinImporter.get_source#opaque"), dE P "is_package" 198 (Value.builtin "_frozen_importlib.BuiltinImporter.is_package#opaque"), dE P "load_module" 199 (Value.builtin "_frozen_importlib.BuiltinImporter.load_module#opaque"), dE P "__static_attributes__" 200 (vR 15), dE P "__dict__" 202 (vR 16), dE P "__weakref__" 204 (vR 17)] 14) #[]
noncomputable def ob14 (P : PySem.Params) : Obj := Obj.mk (Value.type "type") none (Data.cls (ClassData.mk (sS "BuiltinImporter") [Value.type "object"] [vR 14, Value.type "object"] 13 (sS "BuiltinImporter") true [] [] false none false)) #[]
noncomputable def ob15 (P : PySem.Params) : Obj := Obj.mk (Value.type "tuple") none (Data.seq #[]) #[]
noncomputable def ob16 (P : PySem.Params) : Obj := Obj.mk (Value.type "getset_descriptor") none (Data.fields #[vS "__dict__" 201, vR 14, Value.builtin "function.__dict__", Value.builtin "function.__dict__#set"]) #[]
noncomputable def ob17 (P : PySem.Params) : Obj := Obj.mk (Value.type "getset_descriptor") none (Data.fields #[vS "__weakref__" 203, vR 14, Value.builtin "ExceptionGroup.__weakref__", vN]) #[]
noncomputable def ob18 (P : PySem.Params) : Obj := ((fencedOpening treeTable PySem.Challenge.rw_ph0178_01.row.prog ⟨fun _ _ => 0, P⟩ 3856).bind fun s => s.heap.objs[18]?).getD ⟨.none, none, .plain, #[]⟩
noncomputable def ob19 (P : PySem.Params) : Obj := Obj.mk (Value.type "list") none (Data.seq #[]) #[]
noncomputable def ob20 (P : PySem.Params) : Obj := Obj.mk (Value.type "dict") none (Data.dict #[dE P "name" 208 (vS "_sre" 207), dE P "loader" 209 (vR 14), dE P "origin" 210 (vS "built-in" 184), dE P "loader_state" 211 vN, dE P "submodule_search_locations" 212 vN, dE P "_uninitialized_submodules" 213 (vR 19), dE P "_set_fileattr" 214 (Value.bool false), dE P "_cached" 215 vN, dE P "_initializing" 243 (Value.bool false)] 9) #[]
noncomputable def ob21 (P : PySem.Params) : Obj := Obj.mk (Value.type "dict") none (Data.dict #[dE P "__module__" 227 (vS "_frozen_importlib" 217), dE P "__firstlineno__" 228 (vI 562 218), dE P "__doc__" 229 (Value.builtin "_frozen_importlib.ModuleSpec.__doc__:str#opaque"), dE P "__init__" 230 (Value.builtin "_frozen_importlib.ModuleSpec.__init__#opaque"), dE P "__repr__" 231 (Value.builtin "_frozen_importlib.ModuleSpec.__repr__#opaque"), dE P "__eq__" 232 (Value.builtin "_frozen_importlib.ModuleSpec.__eq__#opaque"), dE P "cached" 233 (Value.builtin "_frozen_importlib.ModuleSpec.cached#opaque"), dE P "parent" 234 (Value.builtin "_frozen_importlib.ModuleSpec.parent#opaque"), dE P "has_location" 235 (Value.builtin "_frozen_importlib.ModuleSpec.has_location#opaque"), dE P "__static_attributes__" 236 (vR 23), dE P "__dict__" 238 (vR 24), dE P "__weakref__" 240 (vR 25), dE P "__hash__" 241 vN] 13) #[]
noncomputable def ob22 (P : PySem.Params) : Obj := Obj.mk (Value.type "type") none (Data.cls (ClassData.mk (sS "ModuleSpec") [Value.type "object"] [vR 22, Value.type "object"] 21 (sS "ModuleSpec") true [] [] false none false)) #[]
noncomputable def ob23 (P : PySem.Params) : Obj := Obj.mk (Value.type "tuple") none (Data.seq #[vS "_cached" 219, vS "_set_fileattr" 220, vS "_uninitialized_submodules" 221, vS "loader" 222, vS "loader_state" 223, vS "name" 224, vS "origin" 225, vS "submodule_search_locations" 226]) #[]
noncomputable def ob24 (P : PySem.Params) : Obj := Obj.mk (Value.type "getset_descriptor") none (Data.fields #[vS "__dict__" 237, vR 22, Value.builtin "function.__dict__", Value.builtin "function.__dict__#set"]) #[]
noncomputable def ob25 (P : PySem.Params) : Obj := Obj.mk (Value.type "getset_descriptor") none (Data.fields #[vS "__weakref__" 239, vR 22, Value.builtin "ExceptionGroup.__weakref__", vN]) #[]
noncomputable def ob26 (P : PySem.Params) : Obj := Obj.mk (vR 22) (some 20) Data.plain #[]
noncomputable def ob27 (P : PySem.Params) : Obj := Obj.mk vN none (Data.seq #[vI 11 0, Value.str (Str.mk #[6, 247, 8, 95, 95, 110, 97, 109, 101, 95, 95, 6, 246, 4, 95, 115, 114, 101, 6, 248, 7, 95, 95, 100, 111, 99, 95, 95, 0, 6, 250, 11, 95, 95, 112, 97, 99, 107, 97, 103, 101, 95, 95, 6, 249, 0, 6, 251, 10, 95, 95, 108, 111, 97, 100, 101, 114, 95, 95, 4, 0, 0, 14, 6, 252, 8, 95, 95, 115, 112, 101, 99, 95, 95, 4, 0, 0, 26, 6, 253, 7, 99, 111, 109, 112, 105, 108, 101, 9, 12, 95, 115, 114, 101, 46, 99, 111, 109, 112, 105, 108, 101, 6, 254, 8, 116, 101, 109, 112, 108, 97, 116, 101, 9, 13, 95, 115, 114, 101, 46, 116, 101, 109, 112, 108, 97, 116, 101, 6, 255, 11, 103, 101, 116, 99, 111, 100, 101, 115, 105, 122, 101, 9, 16, 95, 115, 114, 101, 46, 103, 101, 116, 99, 111, 100, 101, 115, 105, 122, 101, 6, 256, 13, 97, 115, 99, 105, 105, 95, 105, 115, 99, 97, 115, 101, 100, 9, 18, 95, 115, 114, 101, 46, 97, 115, 99, 105, 105, 95, 105, 115, 99, 97, 115, 101, 100, 6, 257, 15, 117, 110, 105, 99, 111, 100, 101, 95, 105, 115, 99, 97, 115, 101, 100, 9, 20, 95, 115, 114, 101, 46, 117, 110, 105, 99, 111, 100, 101, 95, 105, 115, 99, 97, 115, 101, 100, 6, 258, 13, 97, 115, 99, 105, 105, 95, 116, 111, 108, 111, 119, 101, 114, 9, 18, 95, 115, 114, 101, 46, 97, 115, 99, 105, 105, 95, 116, 111, 108, 111, 119, 101, 114, 6, 259, 15, 117, 110, 105, 99, 111, 100, 101, 95, 116, 111, 108, 111, 119, 101, 114, 9, 20, 95, 115, 114, 101, 46, 117, 110, 105, 99, 111, 100, 101, 95, 116, 111, 108, 111, 119, 101, 114, 6, 261, 5, 77, 65, 71, 73, 67, 4, 260, 0, 20230612, 6, 263, 8, 67, 79, 68, 69, 83, 73, 90, 69, 4, 262, 0, 4, 6, 265, 9, 77, 65, 88, 82, 69, 80, 69, 65, 84, 4, 264, 0, 4294967295, 6, 267, 9, 77, 65, 88, 71, 82, 79, 85, 80, 83, 4, 266, 0, 1073741823, 6, 269, 9, 99, 111, 112, 121, 114, 105, 103, 104, 116, 6, 268, 53, 32, 83, 82, 69, 32, 50, 46, 50, 46, 50, 32, 67, 111, 112, 121, 114, 105, 103, 104, 116, 32, 40, 99, 41, 32, 49, 57, 57, 55, 45, 50, 48, 48, 50, 32, 98, 121, 32, 83, 101, 99, 114, 101, 116, 32, 76, 97, 98, 115, 32, 65, 66, 32]) 0, Value.bool true, Value.bool false, vS "_sre" 271]) #[]
noncomputable def ob28 (P : PySem.Params) : Obj := Obj.mk (Value.type "tuple") none (Data.seq #[]) #[]
noncomputable def ob29 (P : PySem.Params) : Obj := Obj.mk vN none (Data.fields #[vI 2 0, vI 0 0, vR 37, vI 6 0, vI 0 0, vR 45, vI 47 0, vI 0 0, vR 52, vI 57 0, vI 0 0, vR 59, vI 61 0, vI 0 0, vR 66, vI 77 0, vI 0 0, vR 73, vI 87 0, vI 0 0, vR 80, vI 103 0, vI 0 0, vR 87, vI 112 0, vI 0 0, vR 94, vI 123 0, vI 0 0, vR 101, vI 135 0, vI 0 0, vR 110, vI 141 0, vI 0 0, vR 119, vI 161 0, vI 0 0, vR 128, vI 167 0, vI 0 0, vR 137, vI 191 0, vI 0 0, vR 160, vI 200 0, vI 0 0, vR 167, vI 283 0, vI 0 0, vR 290, vI 290 0, vI 0 0, vR 297, vI 300 0, vI 0 0, vR 304, vI 302 0, vI 0 0, vR 309, vI 304 0, vI 0 0, vR 314, vI 306 0, vI 0 0, vR 319, vI 309 0, vI 0 0, vR 324, vI 311 0, vI 0 0, vR 329, vI 328 0, vI 0 0, vR 334, vI 341 0, vI 0 0, vR 341, vI 346 0, vI 0 0, vR 348, vI 351 0, vI 0 0, vR 353]) #[]
noncomputable def ob30 (P : PySem.Params) : Obj := Obj.mk (Value.type "code") none (Data.fields #[vS "<module>" 277, vS "<module>" 278, vS "/claim/cut.py" 279, vI 1 0, vI 0 0, vI 0 0, vI 0 0, vI 0 0, vR 28, Value.bool false, vI 276 0, vR 29, vN, vN, vN, vN, vI 280 0, vI 1 0, vS "/claim/cut.py" 281]) #[]
noncomputable def ob31 (P : PySem.Params) : Obj := Obj.mk (Value.type "frame") none Data.plain #[some (vR 30), some (vR 3), some (vR 3), none, some (vS "__main__" 164), none, some (vR 0)]
noncomputable def ob32 (P : PySem.Params) : Obj := Obj.mk (Value.type "tuple") none (Data.seq #[]) #[]
noncomputable def ob33 (P : PySem.Params) : Obj := Obj.mk vN none (Data.fields #[]) #[]
noncomputable def ob34 (P : PySem.Params) : Obj := Obj.mk (Value.type "tuple") none (Data.seq #[vS "k" 285]) #[]
noncomputable def ob35 (P : PySem.Params) : Obj := Obj.mk (Value.type "tuple") none (Data.seq #[]) #[]
noncomputable def ob36 (P : PySem.Params) : Obj := Obj.mk vN none (Data.func (FuncData.mk (sS "_wall") (sS "_wall") (fnAt topL 1).1 (.stmts (fnAt topL 1).2.1) (fnAt topL 1).2.2 0 [] vN vN vN vN none vN vN 0)) #[]
noncomputable def ob37 (P : PySem.Params) : Obj := Obj.mk (Value.type "code") none (Data.fields #[vS "_wall" 282, vS "_wall" 283, vS "/claim/cut.py" 284, vI 2 0, vI 1 0, vI 0 0, vI 0 0, vI 3 0, vR 32, Value.bool true, vI 276 0, vR 33, vN, vR 34, vR 35, vR 36, vI 286 0, vI 2 0, vS "/claim/cut.py" 287]) #[]
noncomputable def ob38 (P : PySem.Params) : Obj := oF ((FuncData.mk (sS "_wall") (sS "_wall") (fnAt topL 1).1 (.stmts (fnAt topL 1).2.1) (fnAt topL 1).2.2 3 [] vN vN vN (vS "__main__" 164) none (vR 37) vN 0)) #[]
noncomputable def ob39 (P : PySem.Params) : Obj := Obj.mk (Value.type "tuple") none (Data.seq #[Value.bool false]) #[]
noncomputable def ob40 (P : PySem.Params) : Obj := Obj.mk (Value.type "tuple") none (Data.seq #[]) #[]
noncomputable def ob41 (P : PySem.Params) : Obj := Obj.mk vN none (Data.fields #[]) #[]
noncomputable def ob42 (P : PySem.Params) : Obj := Obj.mk (Value.type "tuple") none (Data.seq #[vS "w" 294, vS "base" 295, vS "more_than" 296, vS "show" 297, vS "seen" 298, vS "need" 299, vS "ws" 300, vS "lo" 301, vS "d" 302, vS "it" 303, vS "first" 304, vS "this" 305, vS "hi" 306, vS "sq" 307]) #[]
noncomputable def ob43 (P : PySem.Params) : Obj := Obj.mk (Value.type "tuple") none (Data.seq #[]) #[]
noncomputable def ob44 (P : PySem.Params) : Obj := Obj.mk vN none (Data.func (FuncData.mk (sS "compute_powers") (sS "compute_powers") (fnAt topL 3).1 (.stmts (fnAt topL 3).2.1) (fnAt topL 3).2.2 0 [] vN vN vN vN none vN vN 0)) #[]
noncomputable def ob45 (P : PySem.Params) : Obj := Obj.mk (Value.type "code") none (Data.fields #[vS "compute_powers" 291, vS "compute_powers" 292, vS "/claim/cut.py" 293, vI 6 0, vI 4 0, vI 0 0, vI 0 0, vI 3 0, vR 40, Value.bool true, vI 276 0, vR 41, vN, vR 42, vR 43, vR 44, vI 308 0, vI 6 0, vS "/claim/cut.py" 309]) #[]
noncomputable def ob46 (P : PySem.Params) : Obj := oF ((FuncData.mk (sS "compute_powers") (sS "compute_powers") (fnAt topL 3).1 (.stmts (fnAt topL 3).2.1) (fnAt topL 3).2.2 3 [] (vR 39) vN vN (vS "cpy313._pylong" 289) none (vR 45) vN 0)) #[]
noncomputable def ob47 (P : PySem.Params) : Obj := Obj.mk (Value.type "tuple") none (Data.seq #[]) #[]
noncomputable def ob48 (P : PySem.Params) : Obj := Obj.mk vN none (Data.fields #[]) #[]
noncomputable def ob49 (P : PySem.Params) : Obj := Obj.mk (Value.type "tuple") none (Data.seq #[vS "s" 314]) #[]
noncomputable def ob50 (P : PySem.Params) : Obj := Obj.mk (Value.type "tuple") none (Data.seq #[vS "s" 315, vS "DIGLIM" 316, vS "inner" 317, vS "w5pow" 318]) #[]
noncomputable def ob51 (P : PySem.Params) : Obj := Obj.mk vN none (Data.func (FuncData.mk (sS "_str_to_int_inner") (sS "_str_to_int_inner") (fnAt topL 4).1 (.stmts (fnAt topL 4).2.1) (fnAt topL 4).2.2 0 [] vN vN vN vN none vN vN 0)) #[]
noncomputable def ob52 (P : PySem.Params) : Obj := Obj.mk (Value.type "code") none (Data.fields #[vS "_str_to_int_inner" 311, vS "_str_to_int_inner" 312, vS "/claim/cut.py" 313, vI 47 0, vI 1 0, vI 0 0, vI 0 0, vI 3 0, vR 47, Value.bool true, vI 276 0, vR 48, vN, vR 49, vR 50, vR 51, vI 319 0, vI 47 0, vS "/claim/cut.py" 320]) #[]
noncomputable def ob53 (P : PySem.Params) : Obj := oF ((FuncData.mk (sS "_str_to_int_inner") (sS "_str_to_int_inner") (fnAt topL 4).1 (.stmts (fnAt topL 4).2.1) (fnAt topL 4).2.2 3 [] vN vN vN (vS "cpy313._pylong" 289) none (vR 52) vN 0)) #[]
noncomputable def ob54 (P : PySem.Params) : Obj := Obj.mk (Value.type "tuple") none (Data.seq #[]) #[]
noncomputable def ob55 (P : PySem.Params) : Obj := Obj.mk vN none (Data.fields #[]) #[]
noncomputable def ob56 (P : PySem.Params) : Obj := Obj.mk (Value.type "tuple") none (Data.seq #[vS "s" 325]) #[]
noncomputable def ob57 (P : PySem.Params) : Obj := Obj.mk (Value.type "tuple") none (Data.seq #[]) #[]
noncomputable def ob58 (P : PySem.Params) : Obj := Obj.mk vN none (Data.func (FuncData.mk (sS "int_from_string") (sS "int_from_string") (fnAt topL 5).1 (.stmts (fnAt topL 5).2.1) (fnAt topL 5).2.2 0 [] vN vN vN vN none vN vN 0)) #[]
noncomputable def ob59 (P : PySem.Params) : Obj := Obj.mk (Value.type "code") none (Data.fields #[vS "int_from_string" 322, vS "int_from_string" 323, vS "/claim/cut.py" 324, vI 57 0, vI 1 0, vI 0 0, vI 0 0, vI 3 0, vR 54, Value.bool true, vI 276 0, vR 55, vN, vR 56, vR 57, vR 58, vI 326 0, vI 57 0, vS "/claim/cut.py" 327]) #[]
noncomputable def ob60 (P : PySem.Params) : Obj := oF ((FuncData.mk (sS "int_from_string") (sS "int_from_string") (fnAt topL 5).1 (.stmts (fnAt topL 5).2.1) (fnAt topL 5).2.2 3 [] vN vN vN (vS "cpy313._pylong" 289) none (vR 59) vN 0)) #[]
noncomputable def ob61 (P : PySem.Params) : Obj := Obj.mk (Value.type "tuple") none (Data.seq #[]) #[]
noncomputable def ob62 (P : PySem.Params) : Obj := Obj.mk vN none (Data.fields #[]) #[]
noncomputable def ob63 (P : PySem.Params) : Obj := Obj.mk (Value.type "tuple") none (Data.seq #[vS "a" 334, vS "b" 335, vS "n" 336, vS "pad" 337, vS "half_n" 338, vS "mask" 339, vS "b1" 340, vS "b2" 341, vS "q1" 342, vS "r" 343, vS "q2" 344]) #[]
noncomputable def ob64 (P : PySem.Params) : Obj := Obj.mk (Value.type "tuple") none (Data.seq #[]) #[]
noncomputable def ob65 (P : PySem.Params) : Obj := Obj.mk vN none (Data.func (FuncData.mk (sS "_div2n1n") (sS "_div2n1n") (fnAt topL 7).1 (.stmts (fnAt topL 7).2.1) (fnAt topL 7).2.2 0 [] vN vN vN vN none vN vN 0)) #[]
noncomputable def ob66 (P : PySem.Params) : Obj := Obj.mk (Value.type "code") none (Data.fields #[vS "_div2n1n" 331, vS "_div2n1n" 332, vS "/claim/cut.py" 333, vI 61 0, vI 3 0, vI 0 0, vI 0 0, vI 3 0, vR 61, Value.bool true, vI 276 0, vR 62, vN, vR 63, vR 64, vR 65, vI 345 0, vI 61 0, vS "/claim/cut.py" 346]) #[]
noncomputable def ob67 (P : PySem.Params) : Obj := oF ((FuncData.mk (sS "_div2n1n") (sS "_div2n1n") (fnAt topL 7).1 (.stmts (fnAt topL 7).2.1) (fnAt topL 7).2.2 3 [] vN vN vN (vS "cpy313._pylong" 289) none (vR 66) vN 0)) #[]
noncomputable def ob68 (P : PySem.Params) : Obj := Obj.mk (Value.type "tuple") none (Data.seq #[]) #[]
noncomputable def ob69 (P : PySem.Params) : Obj := Obj.mk vN none (Data.fields #[]) #[]
noncomputable def ob70 (P : PySem.Params) : Obj := Obj.mk (Value.type "tuple") none (Data.seq #[vS "a12" 351, vS "a3" 352, vS "b" 353, vS "b1" 354, vS "b2" 355, vS "n" 356, vS "q" 357, vS "r" 358]) #[]
noncomputable def ob71 (P : PySem.Params) : Obj := Obj.mk (Value.type "tuple") none (Data.seq #[]) #[]
noncomputable def ob72 (P : PySem.Params) : Obj := Obj.mk vN none (Data.func (FuncData.mk (sS "_div3n2n") (sS "_div3n2n") (fnAt topL 8).1 (.stmts (fnAt topL 8).2.1) (fnAt topL 8).2.2 0 [] vN vN vN vN none vN vN 0)) #[]
noncomputable def ob73 (P : PySem.Params) : Obj := Obj.mk (Value.type "code") none (Data.fields #[vS "_div3n2n" 348, vS "_div3n2n" 349, vS "/claim/cut.py" 350, vI 77 0, vI 6 0, vI 0 0, vI 0 0, vI 3 0, vR 68, Value.bool true, vI 276 0, vR 69, vN, vR 70, vR 71, vR 72, vI 359 0, vI 77 0, vS "/claim/cut.py" 360]) #[]
noncomputable def ob74 (P : PySem.Params) : Obj := oF ((FuncData.mk (sS "_div3n2n") (sS "_div3n2n") (fnAt topL 8).1 (.stmts (fnAt topL 8).2.1) (fnAt topL 8).2.2 3 [] vN vN vN (vS "cpy313._pylong" 289) none (vR 73) vN 0)) #[]
noncomputable def ob75 (P : PySem.Params) : Obj := Obj.mk (Value.type "tuple") none (Data.seq #[]) #[]
noncomputable def ob76 (P : PySem.Params) : Obj := Obj.mk vN none (Data.fields #[]) #[]
noncomputable def ob77 (P : PySem.Params) : Obj := Obj.mk (Value.type "tuple") none (Data.seq #[vS "a" 365, vS "n" 366]) #[]
noncomputable def ob78 (P : PySem.Params) : Obj := Obj.mk (Value.type "tuple") none (Data.seq #[vS "n" 367, vS "a_digits" 368, vS "inner" 369]) #[]
noncomputable def ob79 (P : PySem.Params) : Obj := Obj.mk vN none (Data.func (FuncData.mk (sS "_int2digits") (sS "_int2digits") (fnAt topL 9).1 (.stmts (fnAt topL 9).2.1) (fnAt topL 9).2.2 0 [] vN vN vN vN none vN vN 0)) #[]
noncomputable def ob80 (P : PySem.Params) : Obj := Obj.mk (Value.type "code") none (Data.fields #[vS "_int2digits" 362, vS "_int2digits" 363, vS "/claim/cut.py" 364, vI 87 0, vI 2 0, vI 0 0, vI 0 0, vI 3 0, vR 75, Value.bool true, vI 276 0, vR 76, vN, vR 77, vR 78, vR 79, vI 370 0, vI 87 0, vS "/claim/cut.py" 371]) #[]
noncomputable def ob81 (P : PySem.Params) : Obj := oF ((FuncData.mk (sS "_int2digits") (sS "_int2digits") (fnAt topL 9).1 (.stmts (fnAt topL 9).2.1) (fnAt topL 9).2.2 3 [] vN vN vN (vS "cpy313._pylong" 289) none (vR 80) vN 0)) #[]
noncomputable def ob82 (P : PySem.Params) : Obj := Obj.mk (Value.type "tuple") none (Data.seq #[]) #[]
noncomputable def ob83 (P : PySem.Params) : Obj := Obj.mk vN none (Data.fields #[]) #[]
noncomputable def ob84 (P : PySem.Params) : Obj := Obj.mk (Value.type "tuple") none (Data.seq #[vS "digits" 376, vS "n" 377]) #[]
noncomputable def ob85 (P : PySem.Params) : Obj := Obj.mk (Value.type "tuple") none (Data.seq #[vS "digits" 378, vS "n" 379, vS "inner" 380]) #[]
noncomputable def ob86 (P : PySem.Params) : Obj := Obj.mk vN none (Data.func (FuncData.mk (sS "_digits2int") (sS "_digits2int") (fnAt topL 10).1 (.stmts (fnAt topL 10).2.1) (fnAt topL 10).2.2 0 [] vN vN vN vN none vN vN 0)) #[]
noncomputable def ob87 (P : PySem.Params) : Obj := Obj.mk (Value.type "code") none (Data.fields #[vS "_digits2int" 373, vS "_digits2int" 374, vS "/claim/cut.py" 375, vI 103 0, vI 2 0, vI 0 0, vI 0 0, vI 3 0, vR 82, Value.bool true, vI 276 0, vR 83, vN, vR 84, vR 85, vR 86, vI 381 0, vI 103 0, vS "/claim/cut.py" 382]) #[]
noncomputable def ob88 (P : PySem.Params) : Obj := oF ((FuncData.mk (sS "_digits2int") (sS "_digits2int") (fnAt topL 10).1 (.stmts (fnAt topL 10).2.1) (fnAt topL 10).2.2 3 [] vN vN vN (vS "cpy313._pylong" 289) none (vR 87) vN 0)) #[]
noncomputable def ob89 (P : PySem.Params) : Obj := Obj.mk (Value.type "tuple") none (Data.seq #[]) #[]
noncomputable def ob90 (P : PySem.Params) : Obj := Obj.mk vN none (Data.fields #[]) #[]
noncomputable def ob91 (P : PySem.Params) : Obj := Obj.mk (Value.type "tuple") none (Data.seq #[vS "a" 387, vS "b" 388, vS "n" 389, vS "a_digits" 390, vS "r" 391, vS "q_digits" 392, vS "a_digit" 393, vS "q_digit" 394, vS "q" 395]) #[]
noncomputable def ob92 (P : PySem.Params) : Obj := Obj.mk (Value.type "tuple") none (Data.seq #[]) #[]
noncomputable def ob93 (P : PySem.Params) : Obj := Obj.mk vN none (Data.func (FuncData.mk (sS "_divmod_pos") (sS "_divmod_pos") (fnAt topL 11).1 (.stmts (fnAt topL 11).2.1) (fnAt topL 11).2.2 0 [] vN vN vN vN none vN vN 0)) #[]
noncomputable def ob94 (P : PySem.Params) : Obj := Obj.mk (Value.type "code") none (Data.fields #[vS "_divmod_pos" 384, vS "_divmod_pos" 385, vS "/claim/cut.py" 386, vI 112 0, vI 2 0, vI 0 0, vI 0 0, vI 3 0, vR 89, Value.bool true, vI 276 0, vR 90, vN, vR 91, vR 92, vR 93, vI 396 0, vI 112 0, vS "/claim/cut.py" 397]) #[]
noncomputable def ob95 (P : PySem.Params) : Obj := oF ((FuncData.mk (sS "_divmod_pos") (sS "_divmod_pos") (fnAt topL 11).1 (.stmts (fnAt topL 11).2.1) (fnAt topL 11).2.2 3 [] vN vN vN (vS "cpy313._pylong" 289) none (vR 94) vN 0)) #[]
noncomputable def ob96 (P : PySem.Params) : Obj := Obj.mk (Value.type "tuple") none (Data.seq #[]) #[]
noncomputable def ob97 (P : PySem.Params) : Obj := Obj.mk vN none (Data.fields #[]) #[]
noncomputable def ob98 (P : PySem.Params) : Obj := Obj.mk (Value.type "tuple") none (Data.seq #[vS "a" 402, vS "b" 403, vS "q" 404, vS "r" 405]) #[]
noncomputable def ob99 (P : PySem.Params) : Obj := Obj.mk (Value.type "tuple") none (Data.seq #[]) #[]
noncomputable def ob100 (P : PySem.Params) : Obj := Obj.mk vN none (Data.func (FuncData.mk (sS "int_divmod") (sS "int_divmod") (fnAt topL 12).1 (.stmts (fnAt topL 12).2.1) (fnAt topL 12).2.2 0 [] vN vN vN vN none vN vN 0)) #[]
noncomputable def ob101 (P : PySem.Params) : Obj := Obj.mk (Value.type "code") none (Data.fields #[vS "int_divmod" 399, vS "int_divmod" 400, vS "/claim/cut.py" 401, vI 123 0, vI 2 0, vI 0 0, vI 0 0, vI 3 0, vR 96, Value.bool true, vI 276 0, vR 97, vN, vR 98, vR 99, vR 100, vI 406 0, vI 123 0, vS "/claim/cut.py" 407]) #[]
noncomputable def ob102 (P : PySem.Params) : Obj := oF ((FuncData.mk (sS "int_divmod") (sS "int_divmod") (fnAt topL 12).1 (.stmts (fnAt topL 12).2.1) (fnAt topL 12).2.2 3 [] vN vN vN (vS "cpy313._pylong" 289) none (vR 101) vN 0)) #[]
noncomputable def ob103 (P : PySem.Params) : Obj := Obj.mk (Value.type "tuple") none (Data.seq #[vI 0 411, vN]) #[]
noncomputable def ob104 (P : PySem.Params) : Obj := Obj.mk (Value.type "dict") none (Data.dict #[dE P "key" 412 vN] 1) #[]
noncomputable def ob105 (P : PySem.Params) : Obj := Obj.mk (Value.type "tuple") none (Data.seq #[]) #[]
noncomputable def ob106 (P : PySem.Params) : Obj := Obj.mk vN none (Data.fields #[]) #[]
noncomputable def ob107 (P : PySem.Params) : Obj := Obj.mk (Value.type "tuple") none (Data.seq #[vS "a" 416, vS "x" 417, vS "lo" 418, vS "hi" 419, vS "key" 420]) #[]
noncomputable def ob108 (P : PySem.Params) : Obj := Obj.mk (Value.type "tuple") none (Data.seq #[]) #[]
noncomputable def ob109 (P : PySem.Params) : Obj := Obj.mk vN none (Data.func (FuncData.mk (sS "insort_right") (sS "insort_right") (fnAt topL 14).1 (.stmts (fnAt topL 14).2.1) (fnAt topL 14).2.2 0 [] vN vN vN vN none vN vN 0)) #[]
noncomputable def ob110 (P : PySem.Params) : Obj := Obj.mk (Value.type "code") none (Data.fields #[vS "insort_right" 413, vS "insort_right" 414, vS "/claim/cut.py" 415, vI 135 0, vI 4 0, vI 0 0, vI 1 0, vI 3 0, vR 105, Value.bool true, vI 276 0, vR 106, vN, vR 107, vR 108, vR 109, vI 421 0, vI 135 0, vS "/claim/cut.py" 422]) #[]
noncomputable def ob111 (P : PySem.Params) : Obj := oF ((FuncData.mk (sS "insort_right") (sS "insort_right") (fnAt topL 14).1 (.stmts (fnAt topL 14).2.1) (fnAt topL 14).2.2 3 [] (vR 103) (vR 104) vN (vS "cpy313.bisect" 409) none (vR 110) vN 0)) #[]
noncomputable def ob112 (P : PySem.Params) : Obj := Obj.mk (Value.type "tuple") none (Data.seq #[vI 0 424, vN]) #[]
noncomputable def ob113 (P : PySem.Params) : Obj := Obj.mk (Value.type "dict") none (Data.dict #[dE P "key" 425 vN] 1) #[]
noncomputable def ob114 (P : PySem.Params) : Obj := Obj.mk (Value.type "tuple") none (Data.seq #[]) #[]
noncomputable def ob115 (P : PySem.Params) : Obj := Obj.mk vN none (Data.fields #[]) #[]
noncomputable def ob116 (P : PySem.Params) : Obj := Obj.mk (Value.type "tuple") none (Data.seq #[vS "a" 429, vS "x" 430, vS "lo" 431, vS "hi" 432, vS "key" 433, vS "mid" 434]) #[]
noncomputable def ob117 (P : PySem.Params) : Obj := Obj.mk (Value.type "tuple") none (Data.seq #[]) #[]
noncomputable def ob118 (P : PySem.Params) : Obj := Obj.mk vN none (Data.func (FuncData.mk (sS "bisect_right") (sS "bisect_right") (fnAt topL 15).1 (.stmts (fnAt topL 15).2.1) (fnAt topL 15).2.2 0 [] vN vN vN vN none vN vN 0)) #[]
noncomputable def ob119 (P : PySem.Params) : Obj := Obj.mk (Value.type "code") none (Data.fields #[vS "bisect_right" 426, vS "bisect_right" 427, vS "/claim/cut.py" 428, vI 141 0, vI 4 0, vI 0 0, vI 1 0, vI 3 0, vR 114, Value.bool true, vI 276 0, vR 115, vN, vR 116, vR 117, vR 118, vI 435 0, vI 141 0, vS "/claim/cut.py" 436]) #[]
noncomputable def ob120 (P : PySem.Params) : Obj := oF ((FuncData.mk (sS "bisect_right") (sS "bisect_right") (fnAt topL 15).1 (.stmts (fnAt topL 15).2.1) (fnAt topL 15).2.2 3 [] (vR 112) (vR 113) vN (vS "cpy313.bisect" 409) none (vR 119) vN 0)) #[]
noncomputable def ob121 (P : PySem.Params) : Obj := Obj.mk (Value.type "tuple") none (Data.seq #[vI 0 438, vN]) #[]
noncomputable def ob122 (P : PySem.Params) : Obj := Obj.mk (Value.type "dict") none (Data.dict #[dE P "key" 439 vN] 1) #[]
noncomputable def ob123 (P : PySem.Params) : Obj := Obj.mk (Value.type "tuple") none (Data.seq #[]) #[]
noncomputable def ob124 (P : PySem.Params) : Obj := Obj.mk vN none (Data.fields #[]) #[]
noncomputable def ob125 (P : PySem.Params) : Obj := Obj.mk (Value.type "tuple") none (Data.seq #[vS "a" 443, vS "x" 444, vS "lo" 445, vS "hi" 446, vS "key" 447]) #[]
noncomputable def ob126 (P : PySem.Params) : Obj := Obj.mk (Value.type "tuple") none (Data.seq #[]) #[]
noncomputable def ob127 (P : PySem.Params) : Obj := Obj.mk vN none (Data.func (FuncData.mk (sS "insort_left") (sS "insort_left") (fnAt topL 16).1 (.stmts (fnAt topL 16).2.1) (fnAt topL 16).2.2 0 [] vN vN vN vN none vN vN 0)) #[]
noncomputable def ob128 (P : PySem.Params) : Obj := Obj.mk (Value.type "code") none (Data.fields #[vS "insort_left" 440, vS "insort_left" 441, vS "/claim/cut.py" 442, vI 161 0, vI 4 0, vI 0 0, vI 1 0, vI 3 0, vR 123, Value.bool true, vI 276 0, vR 124, vN, vR 125, vR 126, vR 127, vI 448 0, vI 161 0, vS "/claim/cut.py" 449]) #[]
noncomputable def ob129 (P : PySem.Params) : Obj := oF ((FuncData.mk (sS "insort_left") (sS "insort_left") (fnAt topL 16).1 (.stmts (fnAt topL 16).2.1) (fnAt topL 16).2.2 3 [] (vR 121) (vR 122) vN (vS "cpy313.bisect" 409) none (vR 128) vN 0)) #[]
noncomputable def ob130 (P : PySem.Params) : Obj := Obj.mk (Value.type "tuple") none (Data.seq #[vI 0 451, vN]) #[]
noncomputable def ob131 (P : PySem.Params) : Obj := Obj.mk (Value.type "dict") none (Data.dict #[dE P "key" 452 vN] 1) #[]
noncomputable def ob132 (P : PySem.Params) : Obj := Obj.mk (Value.type "tuple") none (Data.seq #[]) #[]
noncomputable def ob133 (P : PySem.Params) : Obj := Obj.mk vN none (Data.fields #[]) #[]
noncomputable def ob134 (P : PySem.Params) : Obj := Obj.mk (Value.type "tuple") none (Data.seq #[vS "a" 456, vS "x" 457, vS "lo" 458, vS "hi" 459, vS "key" 460, vS "mid" 461]) #[]
noncomputable def ob135 (P : PySem.Params) : Obj := Obj.mk (Value.type "tuple") none (Data.seq #[]) #[]
noncomputable def ob136 (P : PySem.Params) : Obj := Obj.mk vN none (Data.func (FuncData.mk (sS "bisect_left") (sS "bisect_left") (fnAt topL 17).1 (.stmts (fnAt topL 17).2.1) (fnAt topL 17).2.2 0 [] vN vN vN vN none vN vN 0)) #[]
noncomputable def ob137 (P : PySem.Params) : Obj := Obj.mk (Value.type "code") none (Data.fields #[vS "bisect_left" 453, vS "bisect_left" 454, vS "/claim/cut.py" 455, vI 167 0, vI 4 0, vI 0 0, vI 1 0, vI 3 0, vR 132, Value.bool true, vI 276 0, vR 133, vN, vR 134, vR 135, vR 136, vI 462 0, vI 167 0, vS "/claim/cut.py" 463]) #[]
noncomputable def ob138 (P : PySem.Params) : Obj := oF ((FuncData.mk (sS "bisect_left") (sS "bisect_left") (fnAt topL 17).1 (.stmts (fnAt topL 17).2.1) (fnAt topL 17).2.2 3 [] (vR 130) (vR 131) vN (vS "cpy313.bisect" 409) none (vR 137) vN 0)) #[]
noncomputable def ob139 (P : PySem.Params) : Obj := Obj.mk (Value.type "list") none (Data.seq #[vI 14 470, vI 14 471, vI 4 472, vI 1 473, vI 1 474, vI 9 475, vI 0 476, vI 4227896069 477, vI 939524097 478, vI 0 479, vI 0 480, vI 0 481, vI 0 482, vI 0 483, vI 0 484, vI 13 485, vI 11 486, vI 9 487, vI 0 488, vI 4227896069 489, vI 939524097 490, vI 0 491, vI 0 492, vI 0 493, vI 0 494, vI 0 495, vI 0 496, vI 1 497]) #[]
noncomputable def ob140 (P : PySem.Params) : Obj := Obj.mk (Value.type "dict") none (Data.dict #[]) #[]
noncomputable def ob141 (P : PySem.Params) : Obj := Obj.mk (Value.type "tuple") none (Data.seq #[vN]) #[]
noncomputable def ob142 (P : PySem.Params) : Obj := Obj.mk (Value.type "tuple") none (Data.seq #[vI 14 0, vI 14 0, vI 4 0, vI 1 0, vI 1 0, vI 9 0, vI 0 0, vI 4227896069 0, vI 939524097 0, vI 0 0, vI 0 0, vI 0 0, vI 0 0, vI 0 0, vI 0 0, vI 13 0, vI 11 0, vI 9 0, vI 0 0, vI 4227896069 0, vI 939524097 0, vI 0 0, vI 0 0, vI 0 0, vI 0 0, vI 0 0, vI 0 0, vI 1 0]) #[]
noncomputable def ob143 (P : PySem.Params) : Obj := Obj.mk (Value.type "re.Pattern") none (Data.fields #[Value.str (sS "[ \\(\\)<>@,;:\\\\\"/\\[\\]\\?=]") 468, vI 32 499, vI 0 0, vN, vN, vR 142, vI 0 0]) #[]
noncomputable def ob144 (P : PySem.Params) : Obj := Obj.mk (Value.type "list") none (Data.seq #[vI 14 504, vI 10 505, vI 4 506, vI 1 507, vI 1 508, vI 22 509, vI 0 510, vI 31 511, vI 16 512, vI 127 513, vI 0 514, vI 13 515, vI 7 516, vI 22 517, vI 0 518, vI 31 519, vI 16 520, vI 127 521, vI 0 522, vI 1 523]) #[]
noncomputable def ob145 (P : PySem.Params) : Obj := Obj.mk (Value.type "dict") none (Data.dict #[]) #[]
noncomputable def ob146 (P : PySem.Params) : Obj := Obj.mk (Value.type "tuple") none (Data.seq #[vN]) #[]
noncomputable def ob147 (P : PySem.Params) : Obj := Obj.mk (Value.type "tuple") none (Data.seq #[vI 14 0, vI 10 0, vI 4 0, vI 1 0, vI 1 0, vI 22 0, vI 0 0, vI 31 0, vI 16 0, vI 127 0, vI 0 0, vI 13 0, vI 7 0, vI 22 0, vI 0 0, vI 31 0, vI 16 0, vI 127 0, vI 0 0, vI 1 0]) #[]
noncomputable def ob148 (P : PySem.Params) : Obj := Obj.mk (Value.type "re.Pattern") none (Data.fields #[vS "[\\x00-\\x1F\\x7F]" 502, vI 32 525, vI 0 0, vN, vN, vR 147, vI 0 0]) #[]
noncomputable def ob149 (P : PySem.Params) : Obj := Obj.mk (Value.type "list") none (Data.seq #[vI 14 530, vI 14 531, vI 4 532, vI 1 533, vI 1 534, vI 9 535, vI 4294966783 536, vI 0 537, vI 0 538, vI 2147483648 539, vI 0 540, vI 0 541, vI 0 542, vI 0 543, vI 0 544, vI 13 545, vI 11 546, vI 9 547, vI 4294966783 548, vI 0 549, vI 0 550, vI 2147483648 551, vI 0 552, vI 0 553, vI 0 554, vI 0 555, vI 0 556, vI 1 557]) #[]
noncomputable def ob150 (P : PySem.Params) : Obj := Obj.mk (Value.type "dict") none (Data.dict #[]) #[]
noncomputable def ob151 (P : PySem.Params) : Obj := Obj.mk (Value.type "tuple") none (Data.seq #[vN]) #[]
noncomputable def ob152 (P : PySem.Params) : Obj := Obj.mk (Value.type "tuple") none (Data.seq #[vI 14 0, vI 14 0, vI 4 0, vI 1 0, vI 1 0, vI 9 0, vI 4294966783 0, vI 0 0, vI 0 0, vI 2147483648 0, vI 0 0, vI 0 0, vI 0 0, vI 0 0, vI 0 0, vI 13 0, vI 11 0, vI 9 0, vI 4294966783 0, vI 0 0, vI 0 0, vI 2147483648 0, vI 0 0, vI 0 0, vI 0 0, vI 0 0, vI 0 0, vI 1 0]) #[]
noncomputable def ob153 (P : PySem.Params) : Obj := Obj.mk (Value.type "re.Pattern") none (Data.fields #[vS "[\\x00-\\x08\\x0A-\\x1F\\x7F]" 528, vI 32 559, vI 0 0, vN, vN, vR 152, vI 0 0]) #[]
noncomputable def ob154 (P : PySem.Params) : Obj := Obj.mk (Value.type "tuple") none (Data.seq #[vN, vI 1 561]) #[]
noncomputable def ob155 (P : PySem.Params) : Obj := Obj.mk (Value.type "tuple") none (Data.seq #[]) #[]
noncomputable def ob156 (P : PySem.Params) : Obj := Obj.mk vN none (Data.fields #[]) #[]
noncomputable def ob157 (P : PySem.Params) : Obj := Obj.mk (Value.type "tuple") none (Data.seq #[vS "param" 565, vS "value" 566, vS "quote" 567]) #[]
noncomputable def ob158 (P : PySem.Params) : Obj := Obj.mk (Value.type "tuple") none (Data.seq #[]) #[]
noncomputable def ob159 (P : PySem.Params) : Obj := Obj.mk vN none (Data.func (FuncData.mk (sS "_formatparam") (sS "_formatparam") (fnAt topL 22).1 (.stmts (fnAt topL 22).2.1) (fnAt topL 22).2.2 0 [] vN vN vN vN none vN vN 0)) #[]
noncomputable def ob160 (P : PySem.Params) : Obj := Obj.mk (Value.type "code") none (Data.fields #[vS "_formatparam" 562, vS "_formatparam" 563, vS "/claim/cut.py" 564, vI 191 0, vI 3 0, vI 0 0, vI 0 0, vI 3 0, vR 155, Value.bool true, vI 276 0, vR 156, vN, vR 157, vR 158, vR 159, vI 568 0, vI 191 0, vS "/claim/cut.py" 569]) #[]
noncomputable def ob161 (P : PySem.Params) : Obj := oF ((FuncData.mk (sS "_formatparam") (sS "_formatparam") (fnAt topL 22).1 (.stmts (fnAt topL 22).2.1) (fnAt topL 22).2.2 3 [] (vR 154) vN vN (vS "cpy313.wsgiref.headers" 465) none (vR 160) vN 0)) #[]
noncomputable def ob162 (P : PySem.Params) : Obj := Obj.mk (Value.type "tuple") none (Data.seq #[]) #[]
noncomputable def ob163 (P : PySem.Params) : Obj := Obj.mk (Value.type "builtin_function_or_method") none (Data.fields #[Value.builtin "type.__prepare__", Value.type "type"]) #[]
noncomputable def ob164 (P : PySem.Params) : Obj := Obj.mk (Value.type "dict") none (Data.dict #[dE P "__module__" 578 (vS "cpy313.wsgiref.headers" 465), dE P "__qualname__" 580 (vS "Headers" 579), dE P "__firstlineno__" 582 (vI 200 581), dE P "__init__" 592 (vR 176), dE P "_convert_string_type" 602 (vR 183), dE P "__len__" 609 (vR 190), dE P "__setitem__" 618 (vR 197), dE P "__delitem__" 624 (vR 202), dE P "__getitem__" 632 (vR 209), dE P "__contains__" 640 (vR 216), dE P "get_all" 646 (vR 221), dE P "get" 657 (vR 229), dE P "keys" 663 (vR 234), dE P "values" 669 (vR 239), dE P "items" 676 (vR 246), dE P "__repr__" 683 (vR 253), dE P "__str__" 689 (vR 258), dE P "__bytes__" 696 (vR 265), dE P "setdefault" 705 (vR 272), dE P "add_header" 718 (vR 279), dE P "__static_attributes__" 720 (vR 280)] 21) #[]
noncomputable def ob165 (P : PySem.Params) : Obj := Obj.mk (Value.type "tuple") none (Data.seq #[]) #[]
noncomputable def ob166 (P : PySem.Params) : Obj := Obj.mk vN none (Data.fields #[vI 202 0, vI 4 0, vR 175, vI 212 0, vI 4 0, vR 182, vI 220 0, vI 4 0, vR 189, vI 223 0, vI 4 0, vR 196, vI 227 0, vI 4 0, vR 201, vI 231 0, vI 4 0, vR 208, vI 234 0, vI 4 0, vR 215, vI 237 0, vI 4 0, vR 220, vI 241 0, vI 4 0, vR 228, vI 248 0, vI 4 0, vR 233, vI 251 0, vI 4 0, vR 238, vI 254 0, vI 4 0, vR 245, vI 257 0, vI 4 0, vR 252, vI 260 0, vI 4 0, vR 257, vI 263 0, vI 4 0, vR 264, vI 266 0, vI 4 0, vR 271, vI 269 0, vI 4 0, vR 278]) #[]
noncomputable def ob167 (P : PySem.Params) : Obj := Obj.mk (Value.type "code") none (Data.fields #[vS "Headers" 573, vS "Headers" 574, vS "/claim/cut.py" 575, vI 200 0, vI 0 0, vI 0 0, vI 0 0, vI 0 0, vR 165, Value.bool false, vI 276 0, vR 166, vN, vN, vN, vN, vI 576 0, vI 200 0, vS "/claim/cut.py" 577]) #[]
noncomputable def ob168 (P : PySem.Params) : Obj := Obj.mk (Value.type "frame") none Data.plain #[some (vR 167), some (vR 3), some (vR 164), none, some (vS "cpy313.wsgiref.headers" 465), none, some (vR 0)]
noncomputable def ob169 (P : PySem.Params) : Obj := Obj.mk (Value.type "tuple") none (Data.seq #[vN]) #[]
noncomputable def ob170 (P : PySem.Params) : Obj := Obj.mk (Value.type "tuple") none (Data.seq #[]) #[]
noncomputable def ob171 (P : PySem.Params) : Obj := Obj.mk vN none (Data.fields #[]) #[]
noncomputable def ob172 (P : PySem.Params) : Obj := Obj.mk (Value.type "tuple") none (Data.seq #[vS "self" 586, vS "headers" 587, vS "k" 588, vS "v" 589]) #[]
noncomputable def ob173 (P : PySem.Params) : Obj := Obj.mk (Value.type "tuple") none (Data.seq #[]) #[]
noncomputable def ob174 (P : PySem.Params) : Obj := Obj.mk vN none (Data.func (FuncData.mk (sS "__init__") (sS "Headers.__init__") (fnAt (clsAt topL 23) 0).1 (.stmts (fnAt (clsAt topL 23) 0).2.1) (fnAt (clsAt topL 23) 0).2.2 0 [] vN vN vN vN none vN vN 0)) #[]
noncomputable def ob175 (P : PySem.Params) : Obj := Obj.mk (Value.type "code") none (Data.fields #[vS "__init__" 583, vS "Headers.__init__" 584, vS "/claim/cut.py" 585, vI 202 0, vI 2 0, vI 0 0, vI 0 0, vI 3 0, vR 170, Value.bool true, vI 276 0, vR 171, vN, vR 172, vR 173, vR 174, vI 590 0, vI 202 0, vS "/claim/cut.py" 591]) #[]
noncomputable def ob176 (P : PySem.Params) : Obj := oF ((FuncData.mk (sS "__init__") (sS "Headers.__init__") (fnAt (clsAt topL 23) 0).1 (.stmts (fnAt (clsAt topL 23) 0).2.1) (fnAt (clsAt topL 23) 0).2.2 3 [] (vR 169) vN vN (vS "cpy313.wsgiref.headers" 465) none (vR 175) vN 0)) #[]
noncomputable def ob177 (P : PySem.Params) : Obj := Obj.mk (Value.type "tuple") none (Data.seq #[]) #[]
noncomputable def ob178 (P : PySem.Params) : Obj := Obj.mk vN none (Data.fields #[]) #[]
noncomputable def ob179 (P : PySem.Params) : Obj := Obj.mk (Value.type "tuple") none (Data.seq #[vS "self" 596, vS "value" 597, vS "name" 598, vS "regex" 599]) #[]
noncomputable def ob180 (P : PySem.Params) : Obj := Obj.mk (Value.type "tuple") none (Data.seq #[]) #[]
noncomputable def ob181 (P : PySem.Params) : Obj := Obj.mk vN none (Data.func (FuncData.mk (sS "_convert_string_type") (sS "Headers._convert_string_type") (fnAt (clsAt topL 23) 1).1 (.stmts (fnAt (clsAt topL 23) 1).2.1) (fnAt (clsAt topL 23) 1).2.2 0 [] vN vN vN vN none vN vN 0)) #[]
noncomputable def ob182 (P : PySem.Params) : Obj := Obj.mk (Value.type "code") none (Data.fields #[vS "_convert_string_type" 593, vS "Headers._convert_string_type" 594, vS "/claim/cut.py" 595, vI 212 0, vI 2 0, vI 0 0, vI 1 0, vI 3 0, vR 177, Value.bool true, vI 276 0, vR 178, vN, vR 179, vR 180, vR 181, vI 600 0, vI 212 0, vS "/claim/cut.py" 601]) #[]
noncomputable def ob183 (P : PySem.Params) : Obj := oF ((FuncData.mk (sS "_convert_string_type") (sS "Headers._convert_string_type") (fnAt (clsAt topL 23) 1).1 (.stmts (fnAt (clsAt topL 23) 1).2.1) (fnAt (clsAt topL 23) 1).2.2 3 [] vN vN vN (vS "cpy313.wsgiref.headers" 465) none (vR 182) vN 0)) #[]
noncomputable def ob184 (P : PySem.Params) : Obj := Obj.mk (Value.type "tuple") none (Data.seq #[]) #[]
noncomputable def ob185 (P : PySem.Params) : Obj := Obj.mk vN none (Data.fields #[]) #[]
noncomputable def ob186 (P : PySem.Params) : Obj := Obj.mk (Value.type "tuple") none (Data.seq #[vS "self" 606]) #[]
noncomputable def ob187 (P : PySem.Params) : Obj := Obj.mk (Value.type "tuple") none (Data.seq #[]) #[]
noncomputable def ob188 (P : PySem.Params) : Obj := Obj.mk vN none (Data.func (FuncData.mk (sS "__len__") (sS "Headers.__len__") (fnAt (clsAt topL 23) 2).1 (.stmts (fnAt (clsAt topL 23) 2).2.1) (fnAt (clsAt topL 23) 2).2.2 0 [] vN vN vN vN none vN vN 0)) #[]
noncomputable def ob189 (P : PySem.Params) : Obj := Obj.mk (Value.type "code") none (Data.fields #[vS "__len__" 603, vS "Headers.__len__" 604, vS "/claim/cut.py" 605, vI 220 0, vI 1 0, vI 0 0, vI 0 0, vI 3 0, vR 184, Value.bool true, vI 276 0, vR 185, vN, vR 186, vR 187, vR 188, vI 607 0, vI 220 0, vS "/claim/cut.py" 608]) #[]
noncomputable def ob190 (P : PySem.Params) : Obj := oF ((FuncData.mk (sS "__len__") (sS "Headers.__len__") (fnAt (clsAt topL 23) 2).1 (.stmts (fnAt (clsAt topL 23) 2).2.1) (fnAt (clsAt topL 23) 2).2.2 3 [] vN vN vN (vS "cpy313.wsgiref.headers" 465) none (vR 189) vN 0)) #[]
noncomputable def ob191 (P : PySem.Params) : Obj := Obj.mk (Value.type "tuple") none (Data.seq #[]) #[]
noncomputable def ob192 (P : PySem.Params) : Obj := Obj.mk vN none (Data.fields #[]) #[]
noncomputable def ob193 (P : PySem.Params) : Obj := Obj.mk (Value.type "tuple") none (Data.seq #[vS "self" 613, vS "name" 614, vS "val" 615]) #[]
noncomputable def ob194 (P : PySem.Params) : Obj := Obj.mk (Value.type "tuple") none (Data.seq #[]) #[]
noncomputable def ob195 (P : PySem.Params) : Obj := Obj.mk vN none (Data.func (FuncData.mk (sS "__setitem__") (sS "Headers.__setitem__") (fnAt (clsAt topL 23) 3).1 (.stmts (fnAt (clsAt topL 23) 3).2.1) (fnAt (clsAt topL 23) 3).2.2 0 [] vN vN vN vN none vN vN 0)) #[]
noncomputable def ob196 (P : PySem.Params) : Obj := Obj.mk (Value.type "code") none (Data.fields #[vS "__setitem__" 610, vS "Headers.__setitem__" 611, vS "/claim/cut.py" 612, vI 223 0, vI 3 0, vI 0 0, vI 0 0, vI 3 0, vR 191, Value.bool true, vI 276 0, vR 192, vN, vR 193, vR 194, vR 195, vI 616 0, vI 223 0, vS "/claim/cut.py" 617]) #[]
noncomputable def ob197 (P : PySem.Params) : Obj := oF ((FuncData.mk (sS "__setitem__") (sS "Headers.__setitem__") (fnAt (clsAt topL 23) 3).1 (.stmts (fnAt (clsAt topL 23) 3).2.1) (fnAt (clsAt topL 23) 3).2.2 3 [] vN vN vN (vS "cpy313.wsgiref.headers" 465) none (vR 196) vN 0)) #[]
noncomputable def ob198 (P : PySem.Params) : Obj := Obj.mk (Value.type "tuple") none (Data.seq #[]) #[]
noncomputable def ob199 (P : PySem.Params) : Obj := Obj.mk vN none (Data.fields #[]) #[]
noncomputable def ob200 (P : PySem.Params) : Obj := Obj.mk vN none (Data.func (FuncData.mk (sS "__delitem__") (sS "Headers.__delitem__") (fnAt (clsAt topL 23) 4).1 (.stmts (fnAt (clsAt topL 23) 4).2.1) (fnAt (clsAt topL 23) 4).2.2 0 [] vN vN vN vN none vN vN 0)) #[]
noncomputable def ob201 (P : PySem.Params) : Obj := Obj.mk (Value.type "code") none (Data.fields #[vS "__delitem__" 619, vS "Headers.__delitem__" 620, vS "/claim/cut.py" 621, vI 227 0, vI 2 0, vI 0 0, vI 0 0, vI 3 0, vR 198, Value.bool true, vI 276 0, vR 199, vN, vN, vN, vR 200, vI 622 0, vI 227 0, vS "/claim/cut.py" 623]) #[]
noncomputable def ob202 (P : PySem.Params) : Obj := oF ((FuncData.mk (sS "__delitem__") (sS "Headers.__delitem__") (fnAt (clsAt topL 23) 4).1 (.stmts (fnAt (clsAt topL 23) 4).2.1) (fnAt (clsAt topL 23) 4).2.2 3 [] vN vN vN (vS "cpy313.wsgiref.headers" 465) none (vR 201) vN 0)) #[]
noncomputable def ob203 (P : PySem.Params) : Obj := Obj.mk (Value.type "tuple") none (Data.seq #[]) #[]
noncomputable def ob204 (P : PySem.Params) : Obj := Obj.mk vN none (Data.fields #[]) #[]
noncomputable def ob205 (P : PySem.Params) : Obj := Obj.mk (Value.type "tuple") none (Data.seq #[vS "self" 628, vS "name" 629]) #[]
noncomputable def ob206 (P : PySem.Params) : Obj := Obj.mk (Value.type "tuple") none (Data.seq #[]) #[]
noncomputable def ob207 (P : PySem.Params) : Obj := Obj.mk vN none (Data.func (FuncData.mk (sS "__getitem__") (sS "Headers.__getitem__") (fnAt (clsAt topL 23) 5).1 (.stmts (fnAt (clsAt topL 23) 5).2.1) (fnAt (clsAt topL 23) 5).2.2 0 [] vN vN vN vN none vN vN 0)) #[]
noncomputable def ob208 (P : PySem.Params) : Obj := Obj.mk (Value.type "code") none (Data.fields #[vS "__getitem__" 625, vS "Headers.__getitem__" 626, vS "/claim/cut.py" 627, vI 231 0, vI 2 0, vI 0 0, vI 0 0, vI 3 0, vR 203, Value.bool true, vI 276 0, vR 204, vN, vR 205, vR 206, vR 207, vI 630 0, vI 231 0, vS "/claim/cut.py" 631]) #[]
noncomputable def ob209 (P : PySem.Params) : Obj := oF ((FuncData.mk (sS "__getitem__") (sS "Headers.__getitem__") (fnAt (clsAt topL 23) 5).1 (.stmts (fnAt (clsAt topL 23) 5).2.1) (fnAt (clsAt topL 23) 5).2.2 3 [] vN vN vN (vS "cpy313.wsgiref.headers" 465) none (vR 208) vN 0)) #[]
noncomputable def ob210 (P : PySem.Params) : Obj := Obj.mk (Value.type "tuple") none (Data.seq #[]) #[]
noncomputable def ob211 (P : PySem.Params) : Obj := Obj.mk vN none (Data.fields #[]) #[]
noncomputable def ob212 (P : PySem.Params) : Obj := Obj.mk (Value.type "tuple") none (Data.seq #[vS "self" 636, vS "name" 637]) #[]
noncomputable def ob213 (P : PySem.Params) : Obj := Obj.mk (Value.type "tuple") none (Data.seq #[]) #[]
noncomputable def ob214 (P : PySem.Params) : Obj := Obj.mk vN none (Data.func (FuncData.mk (sS "__contains__") (sS "Headers.__contains__") (fnAt (clsAt topL 23) 6).1 (.stmts (fnAt (clsAt topL 23) 6).2.1) (fnAt (clsAt topL 23) 6).2.2 0 [] vN vN vN vN none vN vN 0)) #[]
noncomputable def ob215 (P : PySem.Params) : Obj := Obj.mk (Value.type "code") none (Data.fields #[vS "__contains__" 633, vS "Headers.__contains__" 634, vS "/claim/cut.py" 635, vI 234 0, vI 2 0, vI 0 0, vI 0 0, vI 3 0, vR 210, Value.bool true, vI 276 0, vR 211, vN, vR 212, vR 213, vR 214, vI 638 0, vI 234 0, vS "/claim/cut.py" 639]) #[]
noncomputable def ob216 (P : PySem.Params) : Obj := oF ((FuncData.mk (sS "__contains__") (sS "Headers.__contains__") (fnAt (clsAt topL 23) 6).1 (.stmts (fnAt (clsAt topL 23) 6).2.1) (fnAt (clsAt topL 23) 6).2.2 3 [] vN vN vN (vS "cpy313.wsgiref.headers" 465) none (vR 215) vN 0)) #[]
noncomputable def ob217 (P : PySem.Params) : Obj := Obj.mk (Value.type "tuple") none (Data.seq #[]) #[]
noncomputable def ob218 (P : PySem.Params) : Obj := Obj.mk vN none (Data.fields #[]) #[]
noncomputable def ob219 (P : PySem.Params) : Obj := Obj.mk vN none (Data.func (FuncData.mk (sS "get_all") (sS "Headers.get_all") (fnAt (clsAt topL 23) 7).1 (.stmts (fnAt (clsAt topL 23) 7).2.1) (fnAt (clsAt topL 23) 7).2.2 0 [] vN vN vN vN none vN vN 0)) #[]
noncomputable def ob220 (P : PySem.Params) : Obj := Obj.mk (Value.type "code") none (Data.fields #[vS "get_all" 641, vS "Headers.get_all" 642, vS "/claim/cut.py" 643, vI 237 0, vI 2 0, vI 0 0, vI 0 0, vI 3 0, vR 217, Value.bool true, vI 276 0, vR 218, vN, vN, vN, vR 219, vI 644 0, vI 237 0, vS "/claim/cut.py" 645]) #[]
noncomputable def ob221 (P : PySem.Params) : Obj := oF ((FuncData.mk (sS "get_all") (sS "Headers.get_all") (fnAt (clsAt topL 23) 7).1 (.stmts (fnAt (clsAt topL 23) 7).2.1) (fnAt (clsAt topL 23) 7).2.2 3 [] vN vN vN (vS "cpy313.wsgiref.headers" 465) none (vR 220) vN 0)) #[]
noncomputable def ob222 (P : PySem.Params) : Obj := Obj.mk (Value.type "tuple") none (Data.seq #[vN]) #[]
noncomputable def ob223 (P : PySem.Params) : Obj := Obj.mk (Value.type "tuple") none (Data.seq #[]) #[]
noncomputable def ob224 (P : PySem.Params) : Obj := Obj.mk vN none (Data.fields #[]) #[]
noncomputable def ob225 (P : PySem.Params) : Obj := Obj.mk (Value.type "tuple") none (Data.seq #[vS "self" 650, vS "name" 651, vS "default" 652, vS "k" 653, vS "v" 654]) #[]
noncomputable def ob226 (P : PySem.Params) : Obj := Obj.mk (Value.type "tuple") none (Data.seq #[]) #[]
noncomputable def ob227 (P : PySem.Params) : Obj := Obj.mk vN none (Data.func (FuncData.mk (sS "get") (sS "Headers.get") (fnAt (clsAt topL 23) 8).1 (.stmts (fnAt (clsAt topL 23) 8).2.1) (fnAt (clsAt topL 23) 8).2.2 0 [] vN vN vN vN none vN vN 0)) #[]
noncomputable def ob228 (P : PySem.Params) : Obj := Obj.mk (Value.type "code") none (Data.fields #[vS "get" 647, vS "Headers.get" 648, vS "/claim/cut.py" 649, vI 241 0, vI 3 0, vI 0 0, vI 0 0, vI 3 0, vR 223, Value.bool true, vI 276 0, vR 224, vN, vR 225, vR 226, vR 227, vI 655 0, vI 241 0, vS "/claim/cut.py" 656]) #[]
noncomputable def ob229 (P : PySem.Params) : Obj := oF ((FuncData.mk (sS "get") (sS "Headers.get") (fnAt (clsAt topL 23) 8).1 (.stmts (fnAt (clsAt topL 23) 8).2.1) (fnAt (clsAt topL 23) 8).2.2 3 [] (vR 222) vN vN (vS "cpy313.wsgiref.headers" 465) none (vR 228) vN 0)) #[]
noncomputable def ob230 (P : PySem.Params) : Obj := Obj.mk (Value.type "tuple") none (Data.seq #[]) #[]
noncomputable def ob231 (P : PySem.Params) : Obj := Obj.mk vN none (Data.fields #[]) #[]
noncomputable def ob232 (P : PySem.Params) : Obj := Obj.mk vN none (Data.func (FuncData.mk (sS "keys") (sS "Headers.keys") (fnAt (clsAt topL 23) 9).1 (.stmts (fnAt (clsAt topL 23) 9).2.1) (fnAt (clsAt topL 23) 9).2.2 0 [] vN vN vN vN none vN vN 0)) #[]
noncomputable def ob233 (P : PySem.Params) : Obj := Obj.mk (Value.type "code") none (Data.fields #[vS "keys" 658, vS "Headers.keys" 659, vS "/claim/cut.py" 660, vI 248 0, vI 1 0, vI 0 0, vI 0 0, vI 3 0, vR 230, Value.bool true, vI 276 0, vR 231, vN, vN, vN, vR 232, vI 661 0, vI 248 0, vS "/claim/cut.py" 662]) #[]
noncomputable def ob234 (P : PySem.Params) : Obj := oF ((FuncData.mk (sS "keys") (sS "Headers.keys") (fnAt (clsAt topL 23) 9).1 (.stmts (fnAt (clsAt topL 23) 9).2.1) (fnAt (clsAt topL 23) 9).2.2 3 [] vN vN vN (vS "cpy313.wsgiref.headers" 465) none (vR 233) vN 0)) #[]
noncomputable def ob235 (P : PySem.Params) : Obj := Obj.mk (Value.type "tuple") none (Data.seq #[]) #[]
noncomputable def ob236 (P : PySem.Params) : Obj := Obj.mk vN none (Data.fields #[]) #[]
noncomputable def ob237 (P : PySem.Params) : Obj := Obj.mk vN none (Data.func (FuncData.mk (sS "values") (sS "Headers.values") (fnAt (clsAt topL 23) 10).1 (.stmts (fnAt (clsAt topL 23) 10).2.1) (fnAt (clsAt topL 23) 10).2.2 0 [] vN vN vN vN none vN vN 0)) #[]
noncomputable def ob238 (P : PySem.Params) : Obj := Obj.mk (Value.type "code") none (Data.fields #[vS "values" 664, vS "Headers.values" 665, vS "/claim/cut.py" 666, vI 251 0, vI 1 0, vI 0 0, vI 0 0, vI 3 0, vR 235, Value.bool true, vI 276 0, vR 236, vN, vN, vN, vR 237, vI 667 0, vI 251 0, vS "/claim/cut.py" 668]) #[]
noncomputable def ob239 (P : PySem.Params) : Obj := oF ((FuncData.mk (sS "values") (sS "Headers.values") (fnAt (clsAt topL 23) 10).1 (.stmts (fnAt (clsAt topL 23) 10).2.1) (fnAt (clsAt topL 23) 10).2.2 3 [] vN vN vN (vS "cpy313.wsgiref.headers" 465) none (vR 238) vN 0)) #[]
noncomputable def ob240 (P : PySem.Params) : Obj := Obj.mk (Value.type "tuple") none (Data.seq #[]) #[]
noncomputable def ob241 (P : PySem.Params) : Obj := Obj.mk vN none (Data.fields #[]) #[]
noncomputable def ob242 (P : PySem.Params) : Obj := Obj.mk (Value.type "tuple") none (Data.seq #[vS "self" 673]) #[]
noncomputable def ob243 (P : PySem.Params) : Obj := Obj.mk (Value.type "tuple") none (Data.seq #[]) #[]
noncomputable def ob244 (P : PySem.Params) : Obj := Obj.mk vN none (Data.func (FuncData.mk (sS "items") (sS "Headers.items") (fnAt (clsAt topL 23) 11).1 (.stmts (fnAt (clsAt topL 23) 11).2.1) (fnAt (clsAt topL 23) 11).2.2 0 [] vN vN vN vN none vN vN 0)) #[]
noncomputable def ob245 (P : PySem.Params) : Obj := Obj.mk (Value.type "code") none (Data.fields #[vS "items" 670, vS "Headers.items" 671, vS "/claim/cut.py" 672, vI 254 0, vI 1 0, vI 0 0, vI 0 0, vI 3 0, vR 240, Value.bool true, vI 276 0, vR 241, vN, vR 242, vR 243, vR 244, vI 674 0, vI 254 0, vS "/claim/cut.py" 675]) #[]
noncomputable def ob246 (P : PySem.Params) : Obj := oF ((FuncData.mk (sS "items") (sS "Headers.items") (fnAt (clsAt topL 23) 11).1 (.stmts (fnAt (clsAt topL 23) 11).2.1) (fnAt (clsAt topL 23) 11).2.2 3 [] vN vN vN (vS "cpy313.wsgiref.headers" 465) none (vR 245) vN 0)) #[]
noncomputable def ob247 (P : PySem.Params) : Obj := Obj.mk (Value.type "tuple") none (Data.seq #[]) #[]
noncomputable def ob248 (P : PySem.Params) : Obj := Obj.mk vN none (Data.fields #[]) #[]
noncomputable def ob249 (P : PySem.Params) : Obj := Obj.mk (Value.type "tuple") none (Data.seq #[vS "self" 680]) #[]
noncomputable def ob250 (P : PySem.Params) : Obj := Obj.mk (Value.type "tuple") none (Data.seq #[]) #[]
noncomputable def ob251 (P : PySem.Params) : Obj := Obj.mk vN none (Data.func (FuncData.mk (sS "__repr__") (sS "Headers.__repr__") (fnAt (clsAt topL 23) 12).1 (.stmts (fnAt (clsAt topL 23) 12).2.1) (fnAt (clsAt topL 23) 12).2.2 0 [] vN vN vN vN none vN vN 0)) #[]
noncomputable def ob252 (P : PySem.Params) : Obj := Obj.mk (Value.type "code") none (Data.fields #[vS "__repr__" 677, vS "Headers.__repr__" 678, vS "/claim/cut.py" 679, vI 257 0, vI 1 0, vI 0 0, vI 0 0, vI 3 0, vR 247, Value.bool true, vI 276 0, vR 248, vN, vR 249, vR 250, vR 251, vI 681 0, vI 257 0, vS "/claim/cut.py" 682]) #[]
noncomputable def ob253 (P : PySem.Params) : Obj := oF ((FuncData.mk (sS "__repr__") (sS "Headers.__repr__") (fnAt (clsAt topL 23) 12).1 (.stmts (fnAt (clsAt topL 23) 12).2.1) (fnAt (clsAt topL 23) 12).2.2 3 [] vN vN vN (vS "cpy313.wsgiref.headers" 465) none (vR 252) vN 0)) #[]
noncomputable def ob254 (P : PySem.Params) : Obj := Obj.mk (Value.type "tuple") none (Data.seq #[]) #[]
noncomputable def ob255 (P : PySem.Params) : Obj := Obj.mk vN none (Data.fields #[]) #[]
noncomputable def ob256 (P : PySem.Params) : Obj := Obj.mk vN none (Data.func (FuncData.mk (sS "__str__") (sS "Headers.__str__") (fnAt (clsAt topL 23) 13).1 (.stmts (fnAt (clsAt topL 23) 13).2.1) (fnAt (clsAt topL 23) 13).2.2 0 [] vN vN vN vN none vN vN 0)) #[]
noncomputable def ob257 (P : PySem.Params) : Obj := Obj.mk (Value.type "code") none (Data.fields #[vS "__str__" 684, vS "Headers.__str__" 685, vS "/claim/cut.py" 686, vI 260 0, vI 1 0, vI 0 0, vI 0 0, vI 3 0, vR 254, Value.bool true, vI 276 0, vR 255, vN, vN, vN, vR 256, vI 687 0, vI 260 0, vS "/claim/cut.py" 688]) #[]
noncomputable def ob258 (P : PySem.Params) : Obj := oF ((FuncData.mk (sS "__str__") (sS "Headers.__str__") (fnAt (clsAt topL 23) 13).1 (.stmts (fnAt (clsAt topL 23) 13).2.1) (fnAt (clsAt topL 23) 13).2.2 3 [] vN vN vN (vS "cpy313.wsgiref.headers" 465) none (vR 257) vN 0)) #[]
noncomputable def ob259 (P : PySem.Params) : Obj := Obj.mk (Value.type "tuple") none (Data.seq #[]) #[]
noncomputable def ob260 (P : PySem.Params) : Obj := Obj.mk vN none (Data.fields #[]) #[]
noncomputable def ob261 (P : PySem.Params) : Obj := Obj.mk (Value.type "tuple") none (Data.seq #[vS "self" 693]) #[]
noncomputable def ob262 (P : PySem.Params) : Obj := Obj.mk (Value.type "tuple") none (Data.seq #[]) #[]
noncomputable def ob263 (P : PySem.Params) : Obj := Obj.mk vN none (Data.func (FuncData.mk (sS "__bytes__") (sS "Headers.__bytes__") (fnAt (clsAt topL 23) 14).1 (.stmts (fnAt (clsAt topL 23) 14).2.1) (fnAt (clsAt topL 23) 14).2.2 0 [] vN vN vN vN none vN vN 0)) #[]
noncomputable def ob264 (P : PySem.Params) : Obj := Obj.mk (Value.type "code") none (Data.fields #[vS "__bytes__" 690, vS "Headers.__bytes__" 691, vS "/claim/cut.py" 692, vI 263 0, vI 1 0, vI 0 0, vI 0 0, vI 3 0, vR 259, Value.bool true, vI 276 0, vR 260, vN, vR 261, vR 262, vR 263, vI 694 0, vI 263 0, vS "/claim/cut.py" 695]) #[]
noncomputable def ob265 (P : PySem.Params) : Obj := oF ((FuncData.mk (sS "__bytes__") (sS "Headers.__bytes__") (fnAt (clsAt topL 23) 14).1 (.stmts (fnAt (clsAt topL 23) 14).2.1) (fnAt (clsAt topL 23) 14).2.2 3 [] vN vN vN (vS "cpy313.wsgiref.headers" 465) none (vR 264) vN 0)) #[]
noncomputable def ob266 (P : PySem.Params) : Obj := Obj.mk (Value.type "tuple") none (Data.seq #[]) #[]
noncomputable def ob267 (P : PySem.Params) : Obj := Obj.mk vN none (Data.fields #[]) #[]
noncomputable def ob268 (P : PySem.Params) : Obj := Obj.mk (Value.type "tuple") none (Data.seq #[vS "self" 700, vS "name" 701, vS "value" 702]) #[]
noncomputable def ob269 (P : PySem.Params) : Obj := Obj.mk (Value.type "tuple") none (Data.seq #[]) #[]
noncomputable def ob270 (P : PySem.Params) : Obj := Obj.mk vN none (Data.func (FuncData.mk (sS "setdefault") (sS "Headers.setdefault") (fnAt (clsAt topL 23) 15).1 (.stmts (fnAt (clsAt topL 23) 15).2.1) (fnAt (clsAt topL 23) 15).2.2 0 [] vN vN vN vN none vN vN 0)) #[]
noncomputable def ob271 (P : PySem.Params) : Obj := Obj.mk (Value.type "code") none (Data.fields #[vS "setdefault" 697, vS "Headers.setdefault" 698, vS "/claim/cut.py" 699, vI 266 0, vI 3 0, vI 0 0, vI 0 0, vI 3 0, vR 266, Value.bool true, vI 276 0, vR 267, vN, vR 268, vR 269, vR 270, vI 703 0, vI 266 0, vS "/claim/cut.py" 704]) #[]
noncomputable def ob272 (P : PySem.Params) : Obj := oF ((FuncData.mk (sS "setdefault") (sS "Headers.setdefault") (fnAt (clsAt topL 23) 15).1 (.stmts (fnAt (clsAt topL 23) 15).2.1) (fnAt (clsAt topL 23) 15).2.2 3 [] vN vN vN (vS "cpy313.wsgiref.headers" 465) none (vR 271) vN 0)) #[]
noncomputable def ob273 (P : PySem.Params) : Obj := Obj.mk (Value.type "tuple") none (Data.seq #[]) #[]
noncomputable def ob274 (P : PySem.Params) : Obj := Obj.mk vN none (Data.fields #[]) #[]
noncomputable def ob275 (P : PySem.Params) : Obj := Obj.mk (Value.type "tuple") none (Data.seq #[vS "self" 709, vS "_name" 710, vS "_value" 711, vS "_params" 712, vS "parts" 713, vS "k" 714, vS "v" 715]) #[]
noncomputable def ob276 (P : PySem.Params) : Obj := Obj.mk (Value.type "tuple") none (Data.seq #[]) #[]
noncomputable def ob277 (P : PySem.Params) : Obj := Obj.mk vN none (Data.func (FuncData.mk (sS "add_header") (sS "Headers.add_header") (fnAt (clsAt topL 23) 16).1 (.stmts (fnAt (clsAt topL 23) 16).2.1) (fnAt (clsAt topL 23) 16).2.2 0 [] vN vN vN vN none vN vN 0)) #[]
noncomputable def ob278 (P : PySem.Params) : Obj := Obj.mk (Value.type "code") none (Data.fields #[vS "add_header" 706, vS "Headers.add_header" 707, vS "/claim/cut.py" 708, vI 269 0, vI 3 0, vI 0 0, vI 0 0, vI 11 0, vR 273, Value.bool true, vI 276 0, vR 274, vN, vR 275, vR 276, vR 277, vI 716 0, vI 269 0, vS "/claim/cut.py" 717]) #[]
noncomputable def ob279 (P : PySem.Params) : Obj := oF ((FuncData.mk (sS "add_header") (sS "Headers.add_header") (fnAt (clsAt topL 23) 16).1 (.stmts (fnAt (clsAt topL 23) 16).2.1) (fnAt (clsAt topL 23) 16).2.2 3 [] vN vN vN (vS "cpy313.wsgiref.headers" 465) none (vR 278) vN 0)) #[]
noncomputable def ob280 (P : PySem.Params) : Obj := Obj.mk (Value.type "tuple") none (Data.seq #[vS "_headers" 719]) #[]
noncomputable def ob281 (P : PySem.Params) : Obj := Obj.mk (Value.type "dict") none (Data.dict #[dE P "__module__" 578 (vS "cpy313.wsgiref.headers" 465), dE P "__firstlineno__" 582 (vI 200 581), dE P "__init__" 592 (vR 176), dE P "_convert_string_type" 602 (vR 183), dE P "__len__" 609 (vR 190), dE P "__setitem__" 618 (vR 197), dE P "__delitem__" 624 (vR 202), dE P "__getitem__" 632 (vR 209), dE P "__contains__" 640 (vR 216), dE P "get_all" 646 (vR 221), dE P "get" 657 (vR 229), dE P "keys" 663 (vR 234), dE P "values" 669 (vR 239), dE P "items" 676 (vR 246), dE P "__repr__" 683 (vR 253), dE P "__str__" 689 (vR 258), dE P "__bytes__" 696 (vR 265), dE P "setdefault" 705 (vR 272), dE P "add_header" 718 (vR 279), dE P "__static_attributes__" 720 (vR 280), dE P "__dict__" 722 (vR 283), dE P "__weakref__" 724 (vR 284), dE P "__doc__" 725 vN] 4) #[]
noncomputable def ob282 (P : PySem.Params) : Obj := Obj.mk (Value.type "type") none (Data.cls (ClassData.mk (sS "Headers") [Value.type "object"] [vR 282, Value.type "object"] 281 (sS "Headers") true [] [] false none false)) #[none, none, some (vS "Headers" 571), some (vS "Headers" 579), some (Value.builtin "object.__new__"), some (Value.bool true)]
noncomputable def ob283 (P : PySem.Params) : Obj := Obj.mk (Value.type "getset_descriptor") none (Data.fields #[vS "__dict__" 721, vR 282, Value.builtin "function.__dict__", Value.builtin "function.__dict__#set"]) #[]
noncomputable def ob284 (P : PySem.Params) : Obj := Obj.mk (Value.type "getset_descriptor") none (Data.fields #[vS "__weakref__" 723, vR 282, Value.builtin "ExceptionGroup.__weakref__", vN]) #[]
noncomputable def ob285 (P : PySem.Params) : Obj := Obj.mk (Value.type "super") none (Data.fields #[vR 282, vR 282, vR 282]) #[]
noncomputable def ob286 (P : PySem.Params) : Obj := Obj.mk (Value.type "builtin_function_or_method") none (Data.fields #[Value.builtin "object.__init_subclass__", vR 282]) #[]
noncomputable def ob287 (P : PySem.Params) : Obj := Obj.mk (Value.type "tuple") none (Data.seq #[]) #[]
noncomputable def ob288 (P : PySem.Params) : Obj := Obj.mk vN none (Data.fields #[]) #[]
noncomputable def ob289 (P : PySem.Params) : Obj := Obj.mk vN none (Data.func (FuncData.mk (sS "_law_cells") (sS "_law_cells") (fnAt topL 25).1 (.stmts (fnAt topL 25).2.1) (fnAt topL 25).2.2 0 [] vN vN vN vN none vN vN 0)) #[]
noncomputable def ob290 (P : PySem.Params) : Obj := Obj.mk (Value.type "code") none (Data.fields #[vS "_law_cells" 730, vS "_law_cells" 731, vS "/claim/cut.py" 732, vI 283 0, vI 1 0, vI 0 0, vI 0 0, vI 3 0, vR 287, Value.bool true, vI 276 0, vR 288, vN, vN, vN, vR 289, vI 733 0, vI 283 0, vS "/claim/cut.py" 734]) #[]
noncomputable def ob291 (P : PySem.Params) : Obj := oF ((FuncData.mk (sS "_law_cells") (sS "_law_cells") (fnAt topL 25).1 (.stmts (fnAt topL 25).2.1) (fnAt topL 25).2.2 3 [] vN vN vN (vS "law_ph0178_01" 728) none (vR 290) vN 0)) #[]
noncomputable def ob292 (P : PySem.Params) : Obj := Obj.mk (Value.type "tuple") none (Data.seq #[]) #[]
noncomputable def ob293 (P : PySem.Params) : Obj := Obj.mk vN none (Data.fields #[]) #[]
noncomputable def ob294 (P : PySem.Params) : Obj := Obj.mk (Value.type "tuple") none (Data.seq #[vS "beads" 739, vS "width" 740, vS "table" 741, vS "k" 742, vS "floor" 743, vS "rest" 744]) #[]
noncomputable def ob295 (P : PySem.Params) : Obj := Obj.mk (Value.type "tuple") none (Data.seq #[]) #[]
noncomputable def ob296 (P : PySem.Params) : Obj := Obj.mk vN none (Data.func (FuncData.mk (sS "_law_table") (sS "_law_table") (fnAt topL 26).1 (.stmts (fnAt topL 26).2.1) (fnAt topL 26).2.2 0 [] vN vN vN vN none vN vN 0)) #[]
noncomputable def ob297 (P : PySem.Params) : Obj := Obj.mk (Value.type "code") none (Data.fields #[vS "_law_table" 736, vS "_law_table" 737, vS "/claim/cut.py" 738, vI 290 0, vI 2 0, vI 0 0, vI 0 0, vI 3 0, vR 292, Value.bool true, vI 276 0, vR 293, vN, vR 294, vR 295, vR 296, vI 745 0, vI 290 0, vS "/claim/cut.py" 746]) #[]
noncomputable def ob298 (P : PySem.Params) : Obj := oF ((FuncData.mk (sS "_law_table") (sS "_law_table") (fnAt topL 26).1 (.stmts (fnAt topL 26).2.1) (fnAt topL 26).2.2 3 [] vN vN vN (vS "law_ph0178_01" 728) none (vR 297) vN 0)) #[]
noncomputable def ob299 (P : PySem.Params) : Obj := Obj.mk (Value.type "tuple") none (Data.seq #[]) #[]
noncomputable def ob300 (P : PySem.Params) : Obj := Obj.mk vN none (Data.fields #[]) #[]
noncomputable def ob301 (P : PySem.Params) : Obj := Obj.mk (Value.type "tuple") none (Data.seq #[vS "text" 751]) #[]
noncomputable def ob302 (P : PySem.Params) : Obj := Obj.mk (Value.type "tuple") none (Data.seq #[]) #[]
noncomputable def ob303 (P : PySem.Params) : Obj := Obj.mk vN none (Data.func (FuncData.mk (sS "_law_whole") (sS "_law_whole") (fnAt topL 27).1 (.stmts (fnAt topL 27).2.1) (fnAt topL 27).2.2 0 [] vN vN vN vN none vN vN 0)) #[]
noncomputable def ob304 (P : PySem.Params) : Obj := Obj.mk (Value.type "code") none (Data.fields #[vS "_law_whole" 748, vS "_law_whole" 749, vS "/claim/cut.py" 750, vI 300 0, vI 1 0, vI 0 0, vI 0 0, vI 3 0, vR 299, Value.bool true, vI 276 0, vR 300, vN, vR 301, vR 302, vR 303, vI 752 0, vI 300 0, vS "/claim/cut.py" 753]) #[]
noncomputable def ob305 (P : PySem.Params) : Obj := oF ((FuncData.mk (sS "_law_whole") (sS "_law_whole") (fnAt topL 27).1 (.stmts (fnAt topL 27).2.1) (fnAt topL 27).2.2 3 [] vN vN vN (vS "law_ph0178_01" 728) none (vR 304) vN 0)) #[]
noncomputable def ob306 (P : PySem.Params) : Obj := Obj.mk (Value.type "tuple") none (Data.seq #[]) #[]
noncomputable def ob307 (P : PySem.Params) : Obj := Obj.mk vN none (Data.fields #[]) #[]
noncomputable def ob308 (P : PySem.Params) : Obj := Obj.mk vN none (Data.func (FuncData.mk (sS "_law_floors") (sS "_law_floors") (fnAt topL 28).1 (.stmts (fnAt topL 28).2.1) (fnAt topL 28).2.2 0 [] vN vN vN vN none vN vN 0)) #[]
noncomputable def ob309 (P : PySem.Params) : Obj := Obj.mk (Value.type "code") none (Data.fields #[vS "_law_floors" 755, vS "_law_floors" 756, vS "/claim/cut.py" 757, vI 302 0, vI 2 0, vI 0 0, vI 0 0, vI 3 0, vR 306, Value.bool true, vI 276 0, vR 307, vN, vN, vN, vR 308, vI 758 0, vI 302 0, vS "/claim/cut.py" 759]) #[]
noncomputable def ob310 (P : PySem.Params) : Obj := oF ((FuncData.mk (sS "_law_floors") (sS "_law_floors") (fnAt topL 28).1 (.stmts (fnAt topL 28).2.1) (fnAt topL 28).2.2 3 [] vN vN vN (vS "law_ph0178_01" 728) none (vR 309) vN 0)) #[]
noncomputable def ob311 (P : PySem.Params) : Obj := Obj.mk (Value.type "tuple") none (Data.seq #[]) #[]
noncomputable def ob312 (P : PySem.Params) : Obj := Obj.mk vN none (Data.fields #[]) #[]
noncomputable def ob313 (P : PySem.Params) : Obj := Obj.mk vN none (Data.func (FuncData.mk (sS "_law_plain") (sS "_law_plain") (fnAt topL 29).1 (.stmts (fnAt topL 29).2.1) (fnAt topL 29).2.2 0 [] vN vN vN vN none vN vN 0)) #[]
noncomputable def ob314 (P : PySem.Params) : Obj := Obj.mk (Value.type "code") none (Data.fields #[vS "_law_plain" 761, vS "_law_plain" 762, vS "/claim/cut.py" 763, vI 304 0, vI 2 0, vI 0 0, vI 0 0, vI 3 0, vR 311, Value.bool true, vI 276 0, vR 312, vN, vN, vN, vR 313, vI 764 0, vI 304 0, vS "/claim/cut.py" 765]) #[]
noncomputable def ob315 (P : PySem.Params) : Obj := oF ((FuncData.mk (sS "_law_plain") (sS "_law_plain") (fnAt topL 29).1 (.stmts (fnAt topL 29).2.1) (fnAt topL 29).2.2 3 [] vN vN vN (vS "law_ph0178_01" 728) none (vR 314) vN 0)) #[]
noncomputable def ob316 (P : PySem.Params) : Obj := Obj.mk (Value.type "tuple") none (Data.seq #[]) #[]
noncomputable def ob317 (P : PySem.Params) : Obj := Obj.mk vN none (Data.fields #[]) #[]
noncomputable def ob318 (P : PySem.Params) : Obj := Obj.mk vN none (Data.func (FuncData.mk (sS "_law_falls") (sS "_law_falls") (fnAt topL 30).1 (.stmts (fnAt topL 30).2.1) (fnAt topL 30).2.2 0 [] vN vN vN vN none vN vN 0)) #[]
noncomputable def ob319 (P : PySem.Params) : Obj := Obj.mk (Value.type "code") none (Data.fields #[vS "_law_falls" 767, vS "_law_falls" 768, vS "/claim/cut.py" 769, vI 306 0, vI 1 0, vI 0 0, vI 0 0, vI 3 0, vR 316, Value.bool true, vI 276 0, vR 317, vN, vN, vN, vR 318, vI 770 0, vI 306 0, vS "/claim/cut.py" 771]) #[]
noncomputable def ob320 (P : PySem.Params) : Obj := oF ((FuncData.mk (sS "_law_falls") (sS "_law_falls") (fnAt topL 30).1 (.stmts (fnAt topL 30).2.1) (fnAt topL 30).2.2 3 [] vN vN vN (vS "law_ph0178_01" 728) none (vR 319) vN 0)) #[]
noncomputable def ob321 (P : PySem.Params) : Obj := Obj.mk (Value.type "tuple") none (Data.seq #[]) #[]
noncomputable def ob322 (P : PySem.Params) : Obj := Obj.mk vN none (Data.fields #[]) #[]
noncomputable def ob323 (P : PySem.Params) : Obj := Obj.mk vN none (Data.func (FuncData.mk (sS "_law_told") (sS "_law_told") (fnAt topL 31).1 (.stmts (fnAt topL 31).2.1) (fnAt topL 31).2.2 0 [] vN vN vN vN none vN vN 0)) #[]
noncomputable def ob324 (P : PySem.Params) : Obj := Obj.mk (Value.type "code") none (Data.fields #[vS "_law_told" 773, vS "_law_told" 774, vS "/claim/cut.py" 775, vI 309 0, vI 2 0, vI 0 0, vI 0 0, vI 3 0, vR 321, Value.bool true, vI 276 0, vR 322, vN, vN, vN, vR 323, vI 776 0, vI 309 0, vS "/claim/cut.py" 777]) #[]
noncomputable def ob325 (P : PySem.Params) : Obj := oF ((FuncData.mk (sS "_law_told") (sS "_law_told") (fnAt topL 31).1 (.stmts (fnAt topL 31).2.1) (fnAt topL 31).2.2 3 [] vN vN vN (vS "law_ph0178_01" 728) none (vR 324) vN 0)) #[]
noncomputable def ob326 (P : PySem.Params) : Obj := Obj.mk (Value.type "tuple") none (Data.seq #[]) #[]
noncomputable def ob327 (P : PySem.Params) : Obj := Obj.mk vN none (Data.fields #[]) #[]
noncomputable def ob328 (P : PySem.Params) : Obj := Obj.mk vN none (Data.func (FuncData.mk (sS "_law_strips") (sS "_law_strips") (fnAt topL 32).1 (.stmts (fnAt topL 32).2.1) (fnAt topL 32).2.2 0 [] vN vN vN vN none vN vN 0)) #[]
noncomputable def ob329 (P : PySem.Params) : Obj := Obj.mk (Value.type "code") none (Data.fields #[vS "_law_strips" 779, vS "_law_strips" 780, vS "/claim/cut.py" 781, vI 311 0, vI 5 0, vI 0 0, vI 0 0, vI 3 0, vR 326, Value.bool true, vI 276 0, vR 327, vN, vN, vN, vR 328, vI 782 0, vI 311 0, vS "/claim/cut.py" 783]) #[]
noncomputable def ob330 (P : PySem.Params) : Obj := oF ((FuncData.mk (sS "_law_strips") (sS "_law_strips") (fnAt topL 32).1 (.stmts (fnAt topL 32).2.1) (fnAt topL 32).2.2 3 [] vN vN vN (vS "law_ph0178_01" 728) none (vR 329) vN 0)) #[]
noncomputable def ob331 (P : PySem.Params) : Obj := Obj.mk (Value.type "tuple") none (Data.seq #[]) #[]
noncomputable def ob332 (P : PySem.Params) : Obj := Obj.mk vN none (Data.fields #[]) #[]
noncomputable def ob333 (P : PySem.Params) : Obj := Obj.mk vN none (Data.func (FuncData.mk (sS "_law_names_agree") (sS "_law_names_agree") (fnAt topL 33).1 (.stmts (fnAt topL 33).2.1) (fnAt topL 33).2.2 0 [] vN vN vN vN none vN vN 0)) #[]
noncomputable def ob334 (P : PySem.Params) : Obj := Obj.mk (Value.type "code") none (Data.fields #[vS "_law_names_agree" 785, vS "_law_names_agree" 786, vS "/claim/cut.py" 787, vI 328 0, vI 6 0, vI 0 0, vI 0 0, vI 3 0, vR 331, Value.bool true, vI 276 0, vR 332, vN, vN, vN, vR 333, vI 788 0, vI 328 0, vS "/claim/cut.py" 789]) #[]
noncomputable def ob335 (P : PySem.Params) : Obj := oF ((FuncData.mk (sS "_law_names_agree") (sS "_law_names_agree") (fnAt topL 33).1 (.stmts (fnAt topL 33).2.1) (fnAt topL 33).2.2 3 [] vN vN vN (vS "law_ph0178_01" 728) none (vR 334) vN 0)) #[]
noncomputable def ob336 (P : PySem.Params) : Obj := Obj.mk (Value.type "tuple") none (Data.seq #[]) #[]
noncomputable def ob337 (P : PySem.Params) : Obj := Obj.mk vN none (Data.fields #[]) #[]
noncomputable def ob338 (P : PySem.Params) : Obj := Obj.mk (Value.type "tuple") none (Data.seq #[vS "script" 794, vS "size" 795]) #[]
noncomputable def ob339 (P : PySem.Params) : Obj := Obj.mk (Value.type "tuple") none (Data.seq #[]) #[]
noncomputable def ob340 (P : PySem.Params) : Obj := Obj.mk vN none (Data.func (FuncData.mk (sS "_law_ground") (sS "_law_ground") (fnAt topL 34).1 (.stmts (fnAt topL 34).2.1) (fnAt topL 34).2.2 0 [] vN vN vN vN none vN vN 0)) #[]
noncomputable def ob341 (P : PySem.Params) : Obj := Obj.mk (Value.type "code") none (Data.fields #[vS "_law_ground" 791, vS "_law_ground" 792, vS "/claim/cut.py" 793, vI 341 0, vI 1 0, vI 0 0, vI 0 0, vI 3 0, vR 336, Value.bool true, vI 276 0, vR 337, vN, vR 338, vR 339, vR 340, vI 796 0, vI 341 0, vS "/claim/cut.py" 797]) #[]
noncomputable def ob342 (P : PySem.Params) : Obj := oF ((FuncData.mk (sS "_law_ground") (sS "_law_ground") (fnAt topL 34).1 (.stmts (fnAt topL 34).2.1) (fnAt topL 34).2.2 3 [] vN vN vN (vS "law_ph0178_01" 728) none (vR 341) vN 0)) #[]
noncomputable def ob343 (P : PySem.Params) : Obj := Obj.mk (Value.type "tuple") none (Data.seq #[]) #[]
noncomputable def ob344 (P : PySem.Params) : Obj := Obj.mk vN none (Data.fields #[]) #[]
noncomputable def ob345 (P : PySem.Params) : Obj := Obj.mk (Value.type "tuple") none (Data.seq #[vS "drawn" 802, vS "laid" 803, vS "turn" 804]) #[]
noncomputable def ob346 (P : PySem.Params) : Obj := Obj.mk (Value.type "tuple") none (Data.seq #[]) #[]
noncomputable def ob347 (P : PySem.Params) : Obj := Obj.mk vN none (Data.func (FuncData.mk (sS "_law_laid") (sS "_law_laid") (fnAt topL 35).1 (.stmts (fnAt topL 35).2.1) (fnAt topL 35).2.2 0 [] vN vN vN vN none vN vN 0)) #[]
noncomputable def ob348 (P : PySem.Params) : Obj := Obj.mk (Value.type "code") none (Data.fields #[vS "_law_laid" 799, vS "_law_laid" 800, vS "/claim/cut.py" 801, vI 346 0, vI 1 0, vI 0 0, vI 0 0, vI 3 0, vR 343, Value.bool true, vI 276 0, vR 344, vN, vR 345, vR 346, vR 347, vI 805 0, vI 346 0, vS "/claim/cut.py" 806]) #[]
noncomputable def ob349 (P : PySem.Params) : Obj := oF ((FuncData.mk (sS "_law_laid") (sS "_law_laid") (fnAt topL 35).1 (.stmts (fnAt topL 35).2.1) (fnAt topL 35).2.2 3 [] vN vN vN (vS "law_ph0178_01" 728) none (vR 348) vN 0)) #[]
noncomputable def ob350 (P : PySem.Params) : Obj := Obj.mk (Value.type "tuple") none (Data.seq #[]) #[]
noncomputable def ob351 (P : PySem.Params) : Obj := Obj.mk vN none (Data.fields #[]) #[]
noncomputable def ob352 (P : PySem.Params) : Obj := Obj.mk vN none (Data.func (FuncData.mk (sS "law") (sS "law") (fnAt topL 36).1 (.stmts (fnAt topL 36).2.1) (fnAt topL 36).2.2 0 [] vN vN vN vN none vN vN 0)) #[]
noncomputable def ob353 (P : PySem.Params) : Obj := Obj.mk (Value.type "code") none (Data.fields #[vS "law" 808, vS "law" 809, vS "/claim/cut.py" 810, vI 351 0, vI 1 0, vI 0 0, vI 0 0, vI 3 0, vR 350, Value.bool true, vI 276 0, vR 351, vN, vN, vN, vR 352, vI 811 0, vI 351 0, vS "/claim/cut.py" 812]) #[]
noncomputable def ob354 (P : PySem.Params) : Obj := oF ((FuncData.mk (sS "law") (sS "law") (fnAt topL 36).1 (.stmts (fnAt topL 36).2.1) (fnAt topL 36).2.2 3 [] vN vN vN (vS "law_ph0178_01" 728) none (vR 353) vN 0)) #[]
noncomputable def s0_3 (P : PySem.Params) : Obj := Obj.mk (Value.type "dict") none (Data.dict #[dE P "__name__" 165 (vS "__main__" 164), dE P "__doc__" 166 vN, dE P "__package__" 167 vN, dE P "__loader__" 168 (Value.builtin "__main__.__loader__#opaque"), dE P "__spec__" 169 vN, dE P "__annotations__" 170 (vR 6), dE P "__builtins__" 171 (vR 4), dE P "__file__" 173 (vS "/claim/cut.py" 172), dE P "__cached__" 174 vN, dE P "_sre" 275 (vR 12)] 10) #[]
noncomputable def sa_3 (P : PySem.Params) : Obj := Obj.mk (Value.type "dict") none (Data.dict #[dE P "__name__" 165 (vS "__main__" 164), dE P "__doc__" 166 vN, dE P "__package__" 167 vN, dE P "__loader__" 168 (Value.builtin "__main__.__loader__#opaque"), dE P "__spec__" 169 vN, dE P "__annotations__" 170 (vR 6), dE P "__builtins__" 171 (vR 4), dE P "__file__" 173 (vS "/claim/cut.py" 172), dE P "__cached__" 174 vN, dE P "_sre" 275 (vR 12)] 10) #[]
noncomputable def sa_29 (P : PySem.Params) : Obj := Obj.mk vN none (Data.fields #[]) #[]
noncomputable def s12_3 (P : PySem.Params) : Obj := Obj.mk (Value.type "dict") none (Data.dict #[dE P "__name__" 165 (vS "cpy313.bisect" 409), dE P "__doc__" 166 vN, dE P "__package__" 167 vN, dE P "__loader__" 168 (Value.builtin "__main__.__loader__#opaque"), dE P "__spec__" 169 vN, dE P "__annotations__" 170 (vR 6), dE P "__builtins__" 171 (vR 4), dE P "__file__" 173 (vS "/claim/cut.py" 172), dE P "__cached__" 174 vN, dE P "_sre" 275 (vR 12), dE P "_wall" 288 (vR 38), dE P "compute_powers" 310 (vR 46), dE P "_str_to_int_inner" 321 (vR 53), dE P "int_from_string" 328 (vR 60), dE P "_DIV_LIMIT" 330 (vI 4000 329), dE P "_div2n1n" 347 (vR 67), dE P "_div3n2n" 361 (vR 74), dE P "_int2digits" 372 (vR 81), dE P "_digits2int" 383 (vR 88), dE P "_divmod_pos" 398 (vR 95), dE P "int_divmod" 408 (vR 102)] 21) #[]
noncomputable def s12_29 (P : PySem.Params) : Obj := Obj.mk vN none (Data.fields #[vI 2 0, vI 0 0, vR 37, vI 6 0, vI 0 0, vR 45, vI 47 0, vI 0 0, vR 52, vI 57 0, vI 0 0, vR 59, vI 61 0, vI 0 0, vR 66, vI 77 0, vI 0 0, vR 73, vI 87 0, vI 0 0, vR 80, vI 103 0, vI 0 0, vR 87, vI 112 0, vI 0 0, vR 94, vI 123 0, vI 0 0, vR 101]) #[]
noncomputable def s21_3 (P : PySem.Params) : Obj := Obj.mk (Value.type "dict") none (Data.dict #[dE P "__name__" 165 (vS "cpy313.wsgiref.headers" 465), dE P "__doc__" 166 vN, dE P "__package__" 167 vN, dE P "__loader__" 168 (Value.builtin "__main__.__loader__#opaque"), dE P "__spec__" 169 vN, dE P "__annotations__" 170 (vR 6), dE P "__builtins__" 171 (vR 4), dE P "__file__" 173 (vS "/claim/cut.py" 172), dE P "__cached__" 174 vN, dE P "_sre" 275 (vR 12), dE P "_wall" 288 (vR 38), dE P "compute_powers" 310 (vR 46), dE P "_str_to_int_inner" 321 (vR 53), dE P "int_from_string" 328 (vR 60), dE P "_DIV_LIMIT" 330 (vI 4000 329), dE P "_div2n1n" 347 (vR 67), dE P "_div3n2n" 361 (vR 74), dE P "_int2digits" 372 (vR 81), dE P "_digits2int" 383 (vR 88), dE P "_divmod_pos" 398 (vR 95), dE P "int_divmod" 408 (vR 102), dE P "insort_right" 423 (vR 111), dE P "bisect_right" 437 (vR 120), dE P "insort_left" 450 (vR 129), dE P "bisect_left" 464 (vR 138), dE P "tspecials" 500 (vR 143), dE P "_name_disallowed_re" 526 (vR 148), dE P "_value_disallowed_re" 560 (vR 153), dE P "_formatparam" 570 (vR 161)] 29) #[]
noncomputable def s21_29 (P : PySem.Params) : Obj := Obj.mk vN none (Data.fields #[vI 2 0, vI 0 0, vR 37, vI 6 0, vI 0 0, vR 45, vI 47 0, vI 0 0, vR 52, vI 57 0, vI 0 0, vR 59, vI 61 0, vI 0 0, vR 66, vI 77 0, vI 0 0, vR 73, vI 87 0, vI 0 0, vR 80, vI 103 0, vI 0 0, vR 87, vI 112 0, vI 0 0, vR 94, vI 123 0, vI 0 0, vR 101, vI 135 0, vI 0 0, vR 110, vI 141 0, vI 0 0, vR 119, vI 161 0, vI 0 0, vR 128, vI 167 0, vI 0 0, vR 137, vI 191 0, vI 0 0, vR 160]) #[]
noncomputable def s22_3 (P : PySem.Params) : Obj := Obj.mk (Value.type "dict") none (Data.dict #[dE P "__name__" 165 (vS "cpy313.wsgiref.headers" 465), dE P "__doc__" 166 vN, dE P "__package__" 167 vN, dE P "__loader__" 168 (Value.builtin "__main__.__loader__#opaque"), dE P "__spec__" 169 vN, dE P "__annotations__" 170 (vR 6), dE P "__builtins__" 171 (vR 4), dE P "__file__" 173 (vS "/claim/cut.py" 172), dE P "__cached__" 174 vN, dE P "_sre" 275 (vR 12), dE P "_wall" 288 (vR 38), dE P "compute_powers" 310 (vR 46), dE P "_str_to_int_inner" 321 (vR 53), dE P "int_from_string" 328 (vR 60), dE P "_DIV_LIMIT" 330 (vI 4000 329), dE P "_div2n1n" 347 (vR 67), dE P "_div3n2n" 361 (vR 74), dE P "_int2digits" 372 (vR 81), dE P "_digits2int" 383 (vR 88), dE P "_divmod_pos" 398 (vR 95), dE P "int_divmod" 408 (vR 102), dE P "insort_right" 423 (vR 111), dE P "bisect_right" 437 (vR 120), dE P "insort_left" 450 (vR 129), dE P "bisect_left" 464 (vR 138), dE P "tspecials" 500 (vR 143), dE P "_name_disallowed_re" 526 (vR 148), dE P "_value_disallowed_re" 560 (vR 153), dE P "_formatparam" 570 (vR 161), dE P "Headers" 727 (vR 282)] 30) #[]
noncomputable def s22_29 (P : PySem.Params) : Obj := Obj.mk vN none (Data.fields #[vI 2 0, vI 0 0, vR 37, vI 6 0, vI 0 0, vR 45, vI 47 0, vI 0 0, vR 52, vI 57 0, vI 0 0, vR 59, vI 61 0, vI 0 0, vR 66, vI 77 0, vI 0 0, vR 73, vI 87 0, vI 0 0, vR 80, vI 103 0, vI 0 0, vR 87, vI 112 0, vI 0 0, vR 94, vI 123 0, vI 0 0, vR 101, vI 135 0, vI 0 0, vR 110, vI 141 0, vI 0 0, vR 119, vI 161 0, vI 0 0, vR 128, vI 167 0, vI 0 0, vR 137, vI 191 0, vI 0 0, vR 160, vI 200 0, vI 0 0, vR 167]) #[]
noncomputable def h0 (P : PySem.Params) : Heap := ⟨⟨[boot_o_0 P, ob1 P, ob2 P, s0_3 P, boot_o_4 P, boot_o_5 P, boot_o_6 P, boot_o_7 P, boot_o_8 P, boot_o_9 P, boot_o_10 P, ob11 P, ob12 P, ob13 P, ob14 P, ob15 P, ob16 P, ob17 P, ob18 P, ob19 P, ob20 P, ob21 P, ob22 P, ob23 P, ob24 P, ob25 P, ob26 P, ob27 P]⟩, theLife⟩
noncomputable def hS (P : PySem.Params) : Heap := ⟨⟨[boot_o_0 P, ob1 P, ob2 P, sa_3 P, boot_o_4 P, boot_o_5 P, boot_o_6 P, boot_o_7 P, boot_o_8 P, boot_o_9 P, boot_o_10 P, ob11 P, ob12 P, ob13 P, ob14 P, ob15 P, ob16 P, ob17 P, ob18 P, ob19 P, ob20 P, ob21 P, ob22 P, ob23 P, ob24 P, ob25 P, ob26 P, ob27 P, ob28 P, sa_29 P, ob30 P, ob31 P]⟩, theLife⟩
noncomputable def h12 (P : PySem.Params) : Heap := ⟨⟨[boot_o_0 P, ob1 P, ob2 P, s12_3 P, boot_o_4 P, boot_o_5 P, boot_o_6 P, boot_o_7 P, boot_o_8 P, boot_o_9 P, boot_o_10 P, ob11 P, ob12 P, ob13 P, ob14 P, ob15 P, ob16 P, ob17 P, ob18 P, ob19 P, ob20 P, ob21 P, ob22 P, ob23 P, ob24 P, ob25 P, ob26 P, ob27 P, ob28 P, s12_29 P, ob30 P, ob31 P, ob32 P, ob33 P, ob34 P, ob35 P, ob36 P, ob37 P, ob38 P, ob39 P, ob40 P, ob41 P, ob42 P, ob43 P, ob44 P, ob45 P, ob46 P, ob47 P, ob48 P, ob49 P, ob50 P, ob51 P, ob52 P, ob53 P, ob54 P, ob55 P, ob56 P, ob57 P, ob58 P, ob59 P, ob60 P, ob61 P, ob62 P, ob63 P, ob64 P, ob65 P, ob66 P, ob67 P, ob68 P, ob69 P, ob70 P, ob71 P, ob72 P, ob73 P, ob74 P, ob75 P, ob76 P, ob77 P, ob78 P, ob79 P, ob80 P, ob81 P, ob82 P, ob83 P, ob84 P, ob85 P, ob86 P, ob87 P, ob88 P, ob89 P, ob90 P, ob91 P, ob92 P, ob93 P, ob94 P, ob95 P, ob96 P, ob97 P, ob98 P, ob99 P, ob100 P, ob101 P, ob102 P]⟩, theLife⟩
noncomputable def h21 (P : PySem.Params) : Heap := ⟨⟨[boot_o_0 P, ob1 P, ob2 P, s21_3 P, boot_o_4 P, boot_o_5 P, boot_o_6 P, boot_o_7 P, boot_o_8 P, boot_o_9 P, boot_o_10 P, ob11 P, ob12 P, ob13 P, ob14 P, ob15 P, ob16 P, ob17 P, ob18 P, ob19 P, ob20 P, ob21 P, ob22 P, ob23 P, ob24 P, ob25 P, ob26 P, ob27 P, ob28 P, s21_29 P, ob30 P, ob31 P, ob32 P, ob33 P, ob34 P, ob35 P, ob36 P, ob37 P, ob38 P, ob39 P, ob40 P, ob41 P, ob42 P, ob43 P, ob44 P, ob45 P, ob46 P, ob47 P, ob48 P, ob49 P, ob50 P, ob51 P, ob52 P, ob53 P, ob54 P, ob55 P, ob56 P, ob57 P, ob58 P, ob59 P, ob60 P, ob61 P, ob62 P, ob63 P, ob64 P, ob65 P, ob66 P, ob67 P, ob68 P, ob69 P, ob70 P, ob71 P, ob72 P, ob73 P, ob74 P, ob75 P, ob76 P, ob77 P, ob78 P, ob79 P, ob80 P, ob81 P, ob82 P, ob83 P, ob84 P, ob85 P, ob86 P, ob87 P, ob88 P, ob89 P, ob90 P, ob91 P, ob92 P, ob93 P, ob94 P, ob95 P, ob96 P, ob97 P, ob98 P, ob99 P, ob100 P, ob101 P, ob102 P, ob103 P, ob104 P, ob105 P, ob106 P, ob107 P, ob108 P, ob109 P, ob110 P, ob111 P, ob112 P, ob113 P, ob114 P, ob115 P, ob116 P, ob117 P, ob118 P, ob119 P, ob120 P, ob121 P, ob122 P, ob123 P, ob124 P, ob125 P, ob126 P, ob127 P, ob128 P, ob129 P, ob130 P, ob131 P, ob132 P, ob133 P, ob134 P, ob135 P, ob136 P, ob137 P, ob138 P, ob139 P, ob140 P, ob141 P, ob142 P, ob143 P, ob144 P, ob145 P, ob146 P, ob147 P, ob148 P, ob149 P, ob150 P, ob151 P, ob152 P, ob153 P, ob154 P, ob155 P, ob156 P, ob157 P, ob158 P, ob159 P, ob160 P, ob161 P]⟩, theLife⟩
noncomputable def h22 (P : PySem.Params) : Heap := ⟨⟨[boot_o_0 P, ob1 P, ob2 P, s22_3 P, boot_o_4 P, boot_o_5 P, boot_o_6 P, boot_o_7 P, boot_o_8 P, boot_o_9 P, boot_o_10 P, ob11 P, ob12 P, ob13 P, ob14 P, ob15 P, ob16 P, ob17 P, ob18 P, ob19 P, ob20 P, ob21 P, ob22 P, ob23 P, ob24 P, ob25 P, ob26 P, ob27 P, ob28 P, s22_29 P, ob30 P, ob31 P, ob32 P, ob33 P, ob34 P, ob35 P, ob36 P, ob37 P, ob38 P, ob39 P, ob40 P, ob41 P, ob42 P, ob43 P, ob44 P, ob45 P, ob46 P, ob47 P, ob48 P, ob49 P, ob50 P, ob51 P, ob52 P, ob53 P, ob54 P, ob55 P, ob56 P, ob57 P, ob58 P, ob59 P, ob60 P, ob61 P, ob62 P, ob63 P, ob64 P, ob65 P, ob66 P, ob67 P, ob68 P, ob69 P, ob70 P, ob71 P, ob72 P, ob73 P, ob74 P, ob75 P, ob76 P, ob77 P, ob78 P, ob79 P, ob80 P, ob81 P, ob82 P, ob83 P, ob84 P, ob85 P, ob86 P, ob87 P, ob88 P, ob89 P, ob90 P, ob91 P, ob92 P, ob93 P, ob94 P, ob95 P, ob96 P, ob97 P, ob98 P, ob99 P, ob100 P, ob101 P, ob102 P, ob103 P, ob104 P, ob105 P, ob106 P, ob107 P, ob108 P, ob109 P, ob110 P, ob111 P, ob112 P, ob113 P, ob114 P, ob115 P, ob116 P, ob117 P, ob118 P, ob119 P, ob120 P, ob121 P, ob122 P, ob123 P, ob124 P, ob125 P, ob126 P, ob127 P, ob128 P, ob129 P, ob130 P, ob131 P, ob132 P, ob133 P, ob134 P, ob135 P, ob136 P, ob137 P, ob138 P, ob139 P, ob140 P, ob141 P, ob142 P, ob143 P, ob144 P, ob145 P, ob146 P, ob147 P, ob148 P, ob149 P, ob150 P, ob151 P, ob152 P, ob153 P, ob154 P, ob155 P, ob156 P, ob157 P, ob158 P, ob159 P, ob160 P, ob161 P, ob162 P, ob163 P, ob164 P, ob165 P, ob166 P, ob167 P, ob168 P, ob169 P, ob170 P, ob171 P, ob172 P, ob173 P, ob174 P, ob175 P, ob176 P, ob177 P, ob178 P, ob179 P, ob180 P, ob181 P, ob182 P, ob183 P, ob184 P, ob185 P, ob186 P, ob187 P, ob188 P, ob189 P, ob190 P, ob191 P, ob192 P, ob193 P, ob194 P, ob195 P, ob196 P, ob197 P, ob198 P, ob199 P, ob200 P, ob201 P, ob202 P, ob203 P, ob204 P, ob205 P, ob206 P, ob207 P, ob208 P, ob209 P, ob210 P, ob211 P, ob212 P, ob213 P, ob214 P, ob215 P, ob216 P, ob217 P, ob218 P, ob219 P, ob220 P, ob221 P, ob222 P, ob223 P, ob224 P, ob225 P, ob226 P, ob227 P, ob228 P, ob229 P, ob230 P, ob231 P, ob232 P, ob233 P, ob234 P, ob235 P, ob236 P, ob237 P, ob238 P, ob239 P, ob240 P, ob241 P, ob242 P, ob243 P, ob244 P, ob245 P, ob246 P, ob247 P, ob248 P, ob249 P, ob250 P, ob251 P, ob252 P, ob253 P, ob254 P, ob255 P, ob256 P, ob257 P, ob258 P, ob259 P, ob260 P, ob261 P, ob262 P, ob263 P, ob264 P, ob265 P, ob266 P, ob267 P, ob268 P, ob269 P, ob270 P, ob271 P, ob272 P, ob273 P, ob274 P, ob275 P, ob276 P, ob277 P, ob278 P, ob279 P, ob280 P, ob281 P, ob282 P, ob283 P, ob284 P, ob285 P, ob286 P]⟩, theLife⟩
noncomputable def hF (P : PySem.Params) : Heap := ⟨⟨[boot_o_0 P, ob1 P, ob2 P, ob3 P, boot_o_4 P, boot_o_5 P, boot_o_6 P, boot_o_7 P, boot_o_8 P, boot_o_9 P, boot_o_10 P, ob11 P, ob12 P, ob13 P, ob14 P, ob15 P, ob16 P, ob17 P, ob18 P, ob19 P, ob20 P, ob21 P, ob22 P, ob23 P, ob24 P, ob25 P, ob26 P, ob27 P, ob28 P, ob29 P, ob30 P, ob31 P, ob32 P, ob33 P, ob34 P, ob35 P, ob36 P, ob37 P, ob38 P, ob39 P, ob40 P, ob41 P, ob42 P, ob43 P, ob44 P, ob45 P, ob46 P, ob47 P, ob48 P, ob49 P, ob50 P, ob51 P, ob52 P, ob53 P, ob54 P, ob55 P, ob56 P, ob57 P, ob58 P, ob59 P, ob60 P, ob61 P, ob62 P, ob63 P, ob64 P, ob65 P, ob66 P, ob67 P, ob68 P, ob69 P, ob70 P, ob71 P, ob72 P, ob73 P, ob74 P, ob75 P, ob76 P, ob77 P, ob78 P, ob79 P, ob80 P, ob81 P, ob82 P, ob83 P, ob84 P, ob85 P, ob86 P, ob87 P, ob88 P, ob89 P, ob90 P, ob91 P, ob92 P, ob93 P, ob94 P, ob95 P, ob96 P, ob97 P, ob98 P, ob99 P, ob100 P, ob101 P, ob102 P, ob103 P, ob104 P, ob105 P, ob106 P, ob107 P, ob108 P, ob109 P, ob110 P, ob111 P, ob112 P, ob113 P, ob114 P, ob115 P, ob116 P, ob117 P, ob118 P, ob119 P, ob120 P, ob121 P, ob122 P, ob123 P, ob124 P, ob125 P, ob126 P, ob127 P, ob128 P, ob129 P, ob130 P, ob131 P, ob132 P, ob133 P, ob134 P, ob135 P, ob136 P, ob137 P, ob138 P, ob139 P, ob140 P, ob141 P, ob142 P, ob143 P, ob144 P, ob145 P, ob146 P, ob147 P, ob148 P, ob149 P, ob150 P, ob151 P, ob152 P, ob153 P, ob154 P, ob155 P, ob156 P, ob157 P, ob158 P, ob159 P, ob160 P, ob161 P, ob162 P, ob163 P, ob164 P, ob165 P, ob166 P, ob167 P, ob168 P, ob169 P, ob170 P, ob171 P, ob172 P, ob173 P, ob174 P, ob175 P, ob176 P, ob177 P, ob178 P, ob179 P, ob180 P, ob181 P, ob182 P, ob183 P, ob184 P, ob185 P, ob186 P, ob187 P, ob188 P, ob189 P, ob190 P, ob191 P, ob192 P, ob193 P, ob194 P, ob195 P, ob196 P, ob197 P, ob198 P, ob199 P, ob200 P, ob201 P, ob202 P, ob203 P, ob204 P, ob205 P, ob206 P, ob207 P, ob208 P, ob209 P, ob210 P, ob211 P, ob212 P, ob213 P, ob214 P, ob215 P, ob216 P, ob217 P, ob218 P, ob219 P, ob220 P, ob221 P, ob222 P, ob223 P, ob224 P, ob225 P, ob226 P, ob227 P, ob228 P, ob229 P, ob230 P, ob231 P, ob232 P, ob233 P, ob234 P, ob235 P, ob236 P, ob237 P, ob238 P, ob239 P, ob240 P, ob241 P, ob242 P, ob243 P, ob244 P, ob245 P, ob246 P, ob247 P, ob248 P, ob249 P, ob250 P, ob251 P, ob252 P, ob253 P, ob254 P, ob255 P, ob256 P, ob257 P, ob258 P, ob259 P, ob260 P, ob261 P, ob262 P, ob263 P, ob264 P, ob265 P, ob266 P, ob267 P, ob268 P, ob269 P, ob270 P, ob271 P, ob272 P, ob273 P, ob274 P, ob275 P, ob276 P, ob277 P, ob278 P, ob279 P, ob280 P, ob281 P, ob282 P, ob283 P, ob284 P, ob285 P, ob286 P, ob287 P, ob288 P, ob289 P, ob290 P, ob291 P, ob292 P, ob293 P, ob294 P, ob295 P, ob296 P, ob297 P, ob298 P, ob299 P, ob300 P, ob301 P, ob302 P, ob303 P, ob304 P, ob305 P, ob306 P, ob307 P, ob308 P, ob309 P, ob310 P, ob311 P, ob312 P, ob313 P, ob314 P, ob315 P, ob316 P, ob317 P, ob318 P, ob319 P, ob320 P, ob321 P, ob322 P, ob323 P, ob324 P, ob325 P, ob326 P, ob327 P, ob328 P, ob329 P, ob330 P, ob331 P, ob332 P, ob333 P, ob334 P, ob335 P, ob336 P, ob337 P, ob338 P, ob339 P, ob340 P, ob341 P, ob342 P, ob343 P, ob344 P, ob345 P, ob346 P, ob347 P, ob348 P, ob349 P, ob350 P, ob351 P, ob352 P, ob353 P, ob354 P]⟩, theLife⟩
noncomputable def K39 (P : PySem.Params) : Frag := [(3, ob3 P), (32, ob32 P), (34, ob34 P), (35, ob35 P), (37, ob37 P), (38, ob38 P), (39, ob39 P), (40, ob40 P), (42, ob42 P), (43, ob43 P), (45, ob45 P), (46, ob46 P), (47, ob47 P), (49, ob49 P), (50, ob50 P), (52, ob52 P), (53, ob53 P), (54, ob54 P), (56, ob56 P), (57, ob57 P), (59, ob59 P), (60, ob60 P), (61, ob61 P), (63, ob63 P), (64, ob64 P), (66, ob66 P), (67, ob67 P), (68, ob68 P), (70, ob70 P), (71, ob71 P), (73, ob73 P), (74, ob74 P), (75, ob75 P), (77, ob77 P), (78, ob78 P), (80, ob80 P), (81, ob81 P), (82, ob82 P), (84, ob84 P), (85, ob85 P), (87, ob87 P), (88, ob88 P), (89, ob89 P), (91, ob91 P), (92, ob92 P), (94, ob94 P), (95, ob95 P), (96, ob96 P), (98, ob98 P), (99, ob99 P), (101, ob101 P), (102, ob102 P), (103, ob103 P), (104, ob104 P), (105, ob105 P), (107, ob107 P), (108, ob108 P), (110, ob110 P), (111, ob111 P), (112, ob112 P), (113, ob113 P), (114, ob114 P), (116, ob116 P), (117, ob117 P), (119, ob119 P), (120, ob120 P), (121, ob121 P), (122, ob122 P), (123, ob123 P), (125, ob125 P), (126, ob126 P), (128, ob128 P), (129, ob129 P), (130, ob130 P), (131, ob131 P), (132, ob132 P), (134, ob134 P), (135, ob135 P), (137, ob137 P), (138, ob138 P), (142, ob142 P), (143, ob143 P), (147, ob147 P), (148, ob148 P), (152, ob152 P), (153, ob153 P), (154, ob154 P), (155, ob155 P), (157, ob157 P), (158, ob158 P), (160, ob160 P), (161, ob161 P), (169, ob169 P), (170, ob170 P), (172, ob172 P), (173, ob173 P), (175, ob175 P), (176, ob176 P), (177, ob177 P), (179, ob179 P), (180, ob180 P), (182, ob182 P), (183, ob183 P), (184, ob184 P), (186, ob186 P), (187, ob187 P), (189, ob189 P), (190, ob190 P), (191, ob191 P), (193, ob193 P), (194, ob194 P), (196, ob196 P), (197, ob197 P), (198, ob198 P), (201, ob201 P), (202, ob202 P), (203, ob203 P), (205, ob205 P), (206, ob206 P), (208, ob208 P), (209, ob209 P), (210, ob210 P), (212, ob212 P), (213, ob213 P), (215, ob215 P), (216, ob216 P), (217, ob217 P), (220, ob220 P), (221, ob221 P), (222, ob222 P), (223, ob223 P), (225, ob225 P), (226, ob226 P), (228, ob228 P), (229, ob229 P), (230, ob230 P), (233, ob233 P), (234, ob234 P), (235, ob235 P), (238, ob238 P), (239, ob239 P), (240, ob240 P), (242, ob242 P), (243, ob243 P), (245, ob245 P), (246, ob246 P), (247, ob247 P), (249, ob249 P), (250, ob250 P), (252, ob252 P), (253, ob253 P), (254, ob254 P), (257, ob257 P), (258, ob258 P), (259, ob259 P), (261, ob261 P), (262, ob262 P), (264, ob264 P), (265, ob265 P), (266, ob266 P), (268, ob268 P), (269, ob269 P), (271, ob271 P), (272, ob272 P), (273, ob273 P), (275, ob275 P), (276, ob276 P), (278, ob278 P), (279, ob279 P), (280, ob280 P), (281, ob281 P), (282, ob282 P), (283, ob283 P), (284, ob284 P), (287, ob287 P), (290, ob290 P), (291, ob291 P), (292, ob292 P), (294, ob294 P), (295, ob295 P), (297, ob297 P), (298, ob298 P), (299, ob299 P), (301, ob301 P), (302, ob302 P), (304, ob304 P), (305, ob305 P), (306, ob306 P), (309, ob309 P), (310, ob310 P), (311, ob311 P), (314, ob314 P), (315, ob315 P), (316, ob316 P), (319, ob319 P), (320, ob320 P), (321, ob321 P), (324, ob324 P), (325, ob325 P), (326, ob326 P), (329, ob329 P), (330, ob330 P), (331, ob331 P), (334, ob334 P), (335, ob335 P), (336, ob336 P), (338, ob338 P), (339, ob339 P), (341, ob341 P), (342, ob342 P), (343, ob343 P), (345, ob345 P), (346, ob346 P), (348, ob348 P), (349, ob349 P), (350, ob350 P), (353, ob353 P), (354, ob354 P)]
end
section
set_option maxRecDepth 1000000
noncomputable def theView : Program := { PySem.Challenge.rw_ph0178_01.row.toRowW.prog with main := { PySem.Challenge.rw_ph0178_01.row.toRowW.prog.main with body := ([0, 1, 4, 5, 6, 7, 8, 9, 10, 11, 12, 19, 20, 21, 23, 25, 26, 27, 28, 29, 30, 31, 32, 33, 34, 35, 36] : List Nat).filterMap fun i => topL[i]? } }
noncomputable def theLoose : List Str := ["compute_powers", "insort_right", "bisect_right", "insort_left", "bisect_left", "tspecials", "_name_disallowed_re", "_value_disallowed_re", "_formatparam"]
noncomputable def theAs : List Addr := [3, 32, 34, 35, 37, 38, 39, 40, 42, 43, 45, 46, 47, 49, 50, 52, 53, 54, 56, 57, 59, 60, 61, 63, 64, 66, 67, 68, 70, 71, 73, 74, 75, 77, 78, 80, 81, 82, 84, 85, 87, 88, 89, 91, 92, 94, 95, 96, 98, 99, 101, 102, 103, 104, 105, 107, 108, 110, 111, 112, 113, 114, 116, 117, 119, 120, 121, 122, 123, 125, 126, 128, 129, 130, 131, 132, 134, 135, 137, 138, 142, 143, 147, 148, 152, 153, 154, 155, 157, 158, 160, 161, 169, 170, 172, 173, 175, 176, 177, 179, 180, 182, 183, 184, 186, 187, 189, 190, 191, 193, 194, 196, 197, 198, 201, 202, 203, 205, 206, 208, 209, 210, 212, 213, 215, 216, 217, 220, 221, 222, 223, 225, 226, 228, 229, 230, 233, 234, 235, 238, 239, 240, 242, 243, 245, 246, 247, 249, 250, 252, 253, 254, 257, 258, 259, 261, 262, 264, 265, 266, 268, 269, 271, 272, 273, 275, 276, 278, 279, 280, 281, 282, 283, 284, 287, 290, 291, 292, 294, 295, 297, 298, 299, 301, 302, 304, 305, 306, 309, 310, 311, 314, 315, 316, 319, 320, 321, 324, 325, 326, 329, 330, 331, 334, 335, 336, 338, 339, 341, 342, 343, 345, 346, 348, 349, 350, 353, 354]
theorem theAs_eq (P : PySem.Params) : theAs = (K39 P).map (·.1) := by kernel_rfl
noncomputable abbrev theHook : Hook := kmHook K39 theAs theAs_eq [344, 48, 83, 76, 351]
noncomputable abbrev theXt (s : Shared) : Bool := xlAt theView [] s && recOk (RowW.records PySem.Challenge.rw_ph0178_01.row.toRowW) s
/-! the top's run in pieces: after the opening, after statements 12, 21, 22, at the end -/
noncomputable abbrev thePr : Program := PySem.Challenge.rw_ph0178_01.row.prog
noncomputable abbrev noPos : Pos := ⟨0, 0, 0, 0⟩
noncomputable abbrev theB : List Stmt := behindTheImports thePr
noncomputable def theEnv : Env := { scope := thePr.main.scope, locals := mainNs, globals := mainNs, cells := [], code := .ref 30, frame := some 31 }
noncomputable abbrev theC : Code := .body theB theEnv
noncomputable abbrev stt (h : PySem.Params → Heap) (k : Nat) (w : World) (os : OsState) : Shared := ⟨h w.params, #[], Drawn.mk 0 0 0 0, k, os⟩
noncomputable abbrev annT : Option Value := some (.ref 6)
noncomputable def sts1 : List Stmt := theB.take 13
noncomputable def sts2 : List Stmt := (theB.drop 13).take 9
noncomputable def sts3 : List Stmt := (theB.drop 22).take 1
noncomputable def sts4 : List Stmt := theB.drop 23
theorem sts_eq : theB = sts1 ++ (sts2 ++ (sts3 ++ (sts4 ++ []))) := by kernel_rfl
theorem pre_ok : ∀ w os, topGo treeTable thePr w 28 annT 12 (stt h0 276 w os) (topStub thePr) = some (stt hS 282 w os, ⟨denote treeTable theC, theC, noPos, [topFrame noPos]⟩) := fun w os => by kernel_rfl
theorem block_ok : ∀ w os, segRun treeTable thePr w 28 annT 1 1 (stt hS 282 w os) (blockOf theB theEnv theC noPos [topFrame noPos]) = some (.next, stt hS 282 w os, theC, noPos) := fun w os => by kernel_rfl
theorem piece1 : ∀ w os, segRun treeTable thePr w 28 annT 1 372 (stt hS 282 w os) (piecesOf sts1 theEnv theC noPos [topFrame noPos]) = some (.next, stt h12 411 w os, theC, ⟨134, 0, 134, 8⟩) := fun w os => by kernel_rfl
theorem piece2 : ∀ w os, segRun treeTable thePr w 28 annT 1 428 (stt h12 411 w os) (piecesOf sts2 theEnv theC ⟨134, 0, 134, 8⟩ [topFrame noPos]) = some (.next, stt h21 571 w os, theC, ⟨191, 0, 199, 20⟩) := fun w os => by kernel_rfl
theorem piece3 : ∀ w os, segRun treeTable thePr w 28 annT 1 727 (stt h21 571 w os) (piecesOf sts3 theEnv theC ⟨191, 0, 199, 20⟩ [topFrame noPos]) = some (.next, stt h22 728 w os, theC, ⟨200, 0, 281, 93⟩) := fun w os => by kernel_rfl
theorem piece4 : ∀ w os, segRun treeTable thePr w 28 annT 1 342 (stt h22 728 w os) (piecesOf sts4 theEnv theC ⟨200, 0, 281, 93⟩ [topFrame noPos]) = some (.next, stt hF 814 w os, theC, ⟨351, 0, 369, 76⟩) := fun w os => by kernel_rfl
theorem fin_ok : ∀ w os, topRun treeTable thePr w 28 annT 2 (stt hF 814 w os) ⟨doneF .next, theC, ⟨351, 0, 369, 76⟩, [topFrame noPos]⟩ = some (stt hF 814 w os) := fun w os => by kernel_rfl
theorem run_ok (w : World) (os : OsState) : topRun treeTable thePr w 28 annT (12 + (1 + (372 + (428 + (727 + (342 + 2)))))) (stt h0 276 w os) (topStub thePr) = some (stt hF 814 w os) := by
  refine go_top (pre_ok w os) (piece_block (block_ok w os) ?_)
  rw [sts_eq]
  exact piece_app (rest := sts2 ++ (sts3 ++ (sts4 ++ []))) (piece1 w os) (piece_app (rest := sts3 ++ (sts4 ++ [])) (piece2 w os) (piece_app (rest := sts4 ++ []) (piece3 w os) (piece_app (rest := []) (piece4 w os) (piece_nil (fin_ok w os)))))
theorem open_ok : ∀ w : World, (fencedOpening treeTable thePr w 3856).map (fun s => (s.heap, s.gens, s.drawn, s.toks)) = some (h0 w.params, #[], Drawn.mk 0 0 0 0, 276) := fun w => by kernel_rfl
theorem size_ok : ∀ w : World, ((h0 w.params).isNs mainGlobals && (#[] : Array GenState).size == 0, (h0 w.params).objs.size, (h0 w.params).nsMap mainGlobals "__annotations__") = (true, 28, annT) := fun w => by kernel_rfl
theorem look_0 : ∀ w os, (staticsOk (importedModules thePr.main.body) (h0 w.params) (hF w.params) && namesBound thePr (hF w.params) && gensDone (stt hF 814 w os) && laidKept (h0 w.params) (hF w.params)) = true := fun w os => by kernel_rfl
theorem look_a : ∀ w os, openSeen theView theLoose (importedModules thePr.main.body) theXt true (stt hF 814 w os) = openGood theView theLoose := fun w os => by kernel_rfl
theorem look_b : ∀ w os, Hook.obs theHook (stt hF 814 w os) = Hook.val theHook w := fun w os => by kernel_rfl
theorem left_ab : LeftO thePr theView theLoose theXt (Hook.obs theHook) (Hook.val theHook) 3856 :=
  LeftO.of_pieces open_ok size_ok run_ok (by rfl) fun w => funext fun os => looks_pair (look_0 w os) (looks_pair (look_a w os) (look_b w os))
theorem lk1 : sreFenced thePr.main = true := by decide +kernel
theorem lk2 : ((moduleNames thePr.main.body).isEmpty || lookedIntoSs (moduleNames thePr.main.body) thePr.main.body) = true := by decide +kernel
theorem lk3 : namesResolve thePr = true := by decide +kernel
theorem lk4 : thePr.boundNames.all (fun n => !worldNames.contains n) = true := by decide +kernel
theorem lk5 : noRoadLSs { strict := !(importedModules thePr.main.body).all cThrough.contains, foot := none, bare := (["vars", "dir", "locals"] : List Str).filter (readsOut thePr thePr.main.body) } thePr.main.body = true := by decide +kernel
theorem lk6 : namesMeet thePr thePr.main.body (fun _ n => attrL n) = true := by decide +kernel
theorem looks_ok : looksOpen thePr = true := look_both (look_both (look_both (look_both (look_both lk1 lk2) lk3) lk4) lk5) lk6
theorem part_ok : PySem.Challenge.rw_ph0178_01.row.partSaid = true := by
  refine look_both (look_both (look_both (look_both (look_both (look_both (look_both (look_both (look_both (look_both (look_both (look_both (look_both looks_ok ?_) ?_) ?_) ?_) ?_) ?_) ?_) ?_) ?_) ?_) ?_) ?_) ?_ <;> decide +kernel
theorem row_ok : PySem.Challenge.rw_ph0178_01.row.wellSaid = true := by
  refine look_both (look_both part_ok ?_) ?_ <;> decide +kernel
theorem said_ok : PySem.Challenge.rw_ph0178_01.wellSaid = true := by
  unfold OpenLaw.wellSaid
  repeat' with_reducible refine look_both ?_ ?_
  all_goals first | with_reducible exact row_ok | decide +kernel
theorem hd2 (walk : ∀ d kwd, defOf theView PySem.Challenge.rw_ph0178_01.row.name = some (d, kwd) → WalkO theView theLoose (XL theView []) (Hook.says theHook) PySem.Challenge.rw_ph0178_01.row.toRowW d kwd fun f vs => PySem.call f vs) : PySem.Challenge.rw_ph0178_01.Holds := by
  w_on
  refine holds_law said_ok fun said => ?_
  refine holds_open (q := theView) (loose := theLoose) (Xt := theXt) (XP := XL theView []) (Yf := Hook.obs theHook) (Ya := Hook.val theHook) (YP := Hook.says theHook) (N := 3856) left_ab (Hook.of theHook) (Hook.keeps theHook) (fun s e => xl_of s (Bool.and_eq_true_iff.mp e).1) XL.keeps (by rfl) (by rfl) (by rfl) (fun s e => recFacts_of (Bool.and_eq_true_iff.mp e).2) (by rfl) (by first | assumption | decide +kernel) (by decide +kernel) ⟨rfl, rfl, rfl, rfl, rfl, by decide +kernel⟩ ?hw ?hc
  case hw => w_witness2
  case hc => exact walk _ _ rfl
end
section
/-! plain data, labels for what can change -/
inductive D where
  | none | bool (b : Bool) | int (i : Int) | str (s : Str) | tup (ds : List D) | lst (ds : List D) | hdr (C : Addr) (ds : List D) | any | ref (i : Nat) | val (v : Value)
  | fn (name qual : Str) (params : Arguments) (body : FuncBody) (scope : Scope)
inductive Cont where
  | list (ds : List D) | inst (C : Addr) (j : Nat) | dict (es : List (Str × D)) | obj (P : Obj → Prop)
structure Mk where
  c : Addr
  P : Addr
  pos : Pos
  qual : Str
structure Gnd where
  prog : Program
  w : World
  K : Frag
  g0 : Heap
  mg : Str → Option Value
  mb : Str → Option Value
  mks : List Mk
  loose : List Str
  mean : ExcName → Option Value
  fx : List (Addr × Obj) := []
noncomputable def Gnd.TB (G : Gnd) : List Addr := G.mks.map (·.P)
structure Gnd.Ok (G : Gnd) : Prop where
  X : G.K.In G.g0
  T : Top topProg G.loose G.mean G.mg G.mb G.g0
  tbg : ∀ P ∈ G.TB, G.g0.get? P = none
  hd : ∀ q ∈ G.mks, CodeHd G.g0 q.c q.P
  uniq : ∀ q ∈ G.mks, ∀ q' ∈ G.mks, q'.P = q.P → q' = q
noncomputable abbrev fnObj (name qual : Str) (params : Arguments) (body : FuncBody) (scope : Scope) (doc pm cdv ct : Value) : Obj :=
  { cls := .type "function", data := .func { name, qualname := qual, params, body, scope, globals := mainGlobals, closure := [], defaults := .none, kwdefaults := .none, doc, pyModule := pm, annotations := none, code := cdv, closureTuple := ct, builtins := builtinsNs } }
mutual
/-- c = none: no labels, no lists within (what a list or a tuple of a list holds) -/
noncomputable def RepC (X : List Addr) (c : Option (List Addr)) (h : Heap) : D → Value → Prop
  | .none, v => v = .none
  | .bool b, v => v = .bool b
  | .int i, v => ∃ t, v = .int i t
  | .str s, v => ∃ t, v = .str s t
  | .tup ds, v => ∃ a vs, v = .ref a ∧ h.IsTuple a (List.toArray vs) ∧ RepsC X c h ds vs
  | .lst ds, v => ∃ a vs α, v = .ref a ∧ c = some α ∧ a ∉ α ∧ a ∉ X ∧ h.PlainList a (List.toArray vs) ∧ RepsC X none h ds vs
  | .hdr C ds, v => ∃ x dx l vs α n hs t, v = .ref x ∧ c = some α ∧ (x ∉ α ∧ x ∉ X) ∧ (dx ∉ α ∧ dx ∉ X) ∧ (l ∉ α ∧ l ∉ X) ∧ h.get? x = some { cls := .ref C, dict := some dx, data := .plain } ∧
      h.get? dx = some (dictOf [⟨hs, .str "_headers" t, .ref l⟩] n) ∧ h.PlainList l (List.toArray vs) ∧ RepsC X none h ds vs
  | .any, _ => True
  | .ref i, v => ∃ a α, c = some α ∧ α[i]? = some a ∧ v = .ref a
  | .val u, v => v = u
  | .fn name qual params body scope, v => ∃ a doc pm cdv ct, v = .ref a ∧ h.get? a = some (fnObj name qual params body scope doc pm cdv ct) ∧ h.CodeRec cdv qual
noncomputable def RepsC (X : List Addr) (c : Option (List Addr)) (h : Heap) : List D → List Value → Prop
  | [], vs => vs = []
  | d :: ds, vs => ∃ v r, vs = v :: r ∧ RepC X c h d v ∧ RepsC X c h ds r
end
noncomputable def xsOf (env : Env) : List Addr := env.locals :: env.cells.map (·.2)
noncomputable abbrev Rep (env : Env) (α : List Addr) (h : Heap) (d : D) (v : Value) : Prop := RepC (xsOf env) (some α) h d v
noncomputable abbrev Reps (env : Env) (α : List Addr) (h : Heap) (ds : List D) (vs : List Value) : Prop := RepsC (xsOf env) (some α) h ds vs
/-- what nothing in this program changes once it stands -/
noncomputable def Frz (o : Obj) : Prop := (o.cls = .type "tuple" ∧ ∃ xs n, o.data = .seq xs n) ∨ (∃ fd, o.data = .func fd) ∨ ∃ vs q t, o.data = .fields vs ∧ vs[1]? = some (.str q t)
noncomputable def NotTab (o : Obj) : Prop := ∀ vs, o.data ≠ .fields vs
noncomputable def FrzKeep (h h' : Heap) : Prop := ∀ a o, Frz o → h.get? a = some o → h'.get? a = some o
noncomputable def LstKeep (X : List Addr) (c : Option (List Addr)) (h h' : Heap) : Prop := ∀ α, c = some α → ∀ a o, a ∉ α → a ∉ X → NotTab o → h.get? a = some o → h'.get? a = some o
/-- the labels of before and of behind: the new ones are fresh -/
noncomputable def Grow (h : Heap) (c c' : Option (List Addr)) : Prop := ∀ α, c = some α → ∃ β, c' = some (α ++ β) ∧ ∀ b ∈ β, h.get? b = none
theorem frz_tuple {h h' : Heap} (k : FrzKeep h h') {a : Addr} {xs : Array Value} (x : h.IsTuple a xs) : h'.IsTuple a xs :=
  let ⟨o, ho, hc, n, hd⟩ := x; ⟨o, k a o (.inl ⟨hc, xs, n, hd⟩) ho, hc, n, hd⟩
theorem frz_code {h h' : Heap} (k : FrzKeep h h') {cd : Value} {q : Str} (x : h.CodeRec cd q) : h'.CodeRec cd q := by
  obtain ⟨c, oc, vs, tq, hc, hoc, hdc, hq⟩ := x
  exact ⟨c, oc, vs, tq, hc, k _ _ (.inr (.inr ⟨vs, q, tq, hdc, hq⟩)) hoc, hdc, hq⟩
mutual
theorem RepC.still {X : List Addr} {c c' : Option (List Addr)} {h h' : Heap} (k : FrzKeep h h') (l : LstKeep X c h h') (g : Grow h c c') : ∀ {d : D} {v : Value}, RepC X c h d v → RepC X c' h' d v
  | .none, _, x => by simpa only [RepC] using x
  | .bool _, _, x => by simpa only [RepC] using x
  | .int _, _, x => by simpa only [RepC] using x
  | .str _, _, x => by simpa only [RepC] using x
  | .tup ds, _, x => by
    simp only [RepC] at x ⊢
    obtain ⟨a, vs, rfl, ht, hr⟩ := x
    exact ⟨a, vs, rfl, frz_tuple k ht, RepsC.still k l g hr⟩
  | .lst ds, _, x => by
    simp only [RepC] at x ⊢
    obtain ⟨a, vs, α, rfl, hc, hn, hx, hl, hr⟩ := x
    obtain ⟨β, hc', hb⟩ := g α hc
    obtain ⟨n, ho⟩ := hl
    refine ⟨a, vs, _, rfl, hc', fun q => ?_, hx, ⟨n, l α hc a _ hn hx (by unfold NotTab; simp) ho⟩, RepsC.still (c := none) (c' := none) k (fun _ e => nomatch e) (fun _ e => nomatch e) hr⟩
    rcases List.mem_append.mp q with q | q
    · exact hn q
    · rw [hb a q] at ho; cases ho
  | .hdr C ds, _, x => by
    simp only [RepC] at x ⊢
    obtain ⟨x, dx, l₀, vs, α, n, hs, t, rfl, hc, h1, h2, h3, e1, e2, ⟨m, e3⟩, hr⟩ := x
    obtain ⟨β, hc', hb⟩ := g α hc
    have up : ∀ a o, a ∉ α → h.get? a = some o → a ∉ α ++ β := fun a o ha e q => by
      rcases List.mem_append.mp q with q | q
      · exact ha q
      · rw [hb a q] at e; cases e
    refine ⟨x, dx, l₀, vs, _, n, hs, t, rfl, hc', ⟨up _ _ h1.1 e1, h1.2⟩, ⟨up _ _ h2.1 e2, h2.2⟩, ⟨up _ _ h3.1 e3, h3.2⟩, l α hc _ _ h1.1 h1.2 (by unfold NotTab; simp) e1, l α hc _ _ h2.1 h2.2 (by unfold NotTab; simp [dictOf]) e2,
      ⟨m, l α hc _ _ h3.1 h3.2 (by unfold NotTab; simp) e3⟩, RepsC.still (c := none) (c' := none) k (fun _ e => nomatch e) (fun _ e => nomatch e) hr⟩
  | .any, _, x => by simp only [RepC]
  | .ref i, _, x => by
    simp only [RepC] at x ⊢
    obtain ⟨a, α, hc, hi, rfl⟩ := x
    obtain ⟨β, hc', hb⟩ := g α hc
    exact ⟨a, _, hc', by rw [List.getElem?_append_left (List.getElem?_eq_some_iff.mp hi).1]; exact hi, rfl⟩
  | .val _, _, x => by simpa only [RepC] using x
  | .fn .., _, x => by
    simp only [RepC] at x ⊢
    obtain ⟨a, doc, pm, cdv, ct, rfl, ho, hc⟩ := x
    exact ⟨a, doc, pm, cdv, ct, rfl, k _ _ (.inr (.inl ⟨_, rfl⟩)) ho, frz_code k hc⟩
theorem RepsC.still {X : List Addr} {c c' : Option (List Addr)} {h h' : Heap} (k : FrzKeep h h') (l : LstKeep X c h h') (g : Grow h c c') : ∀ {ds : List D} {vs : List Value}, RepsC X c h ds vs → RepsC X c' h' ds vs
  | [], _, x => by simpa only [RepsC] using x
  | d :: ds, _, x => by
    simp only [RepsC] at x ⊢
    obtain ⟨v, r, rfl, h1, h2⟩ := x
    exact ⟨v, r, rfl, RepC.still k l g h1, RepsC.still k l g h2⟩
end
theorem RepsC.flat {X : List Addr} {h h' : Heap} (k : FrzKeep h h') {ds : List D} {vs : List Value} (x : RepsC X none h ds vs) : RepsC X none h' ds vs := RepsC.still (c := none) (c' := none) k (fun _ e => nomatch e) (fun _ e => nomatch e) x
mutual
theorem RepC.up {X : List Addr} {c : Option (List Addr)} {h : Heap} : ∀ {d : D} {v : Value}, RepC X none h d v → RepC X c h d v
  | .none, _, x => by simpa only [RepC] using x
  | .bool _, _, x => by simpa only [RepC] using x
  | .int _, _, x => by simpa only [RepC] using x
  | .str _, _, x => by simpa only [RepC] using x
  | .tup ds, _, x => by
    simp only [RepC] at x ⊢
    obtain ⟨a, vs, rfl, ht, hr⟩ := x
    exact ⟨a, vs, rfl, ht, RepsC.up hr⟩
  | .lst ds, _, x => by simp only [RepC] at x; obtain ⟨_, _, _, _, e, _⟩ := x; cases e
  | .hdr C ds, _, x => by simp only [RepC] at x; obtain ⟨_, _, _, _, _, _, _, _, _, e, _⟩ := x; cases e
  | .any, _, x => by simp only [RepC]
  | .ref i, _, x => by simp only [RepC] at x; obtain ⟨_, _, e, _⟩ := x; cases e
  | .val _, _, x => by simpa only [RepC] using x
  | .fn .., _, x => by simpa only [RepC] using x
theorem RepsC.up {X : List Addr} {c : Option (List Addr)} {h : Heap} : ∀ {ds : List D} {vs : List Value}, RepsC X none h ds vs → RepsC X c h ds vs
  | [], _, x => by simpa only [RepsC] using x
  | d :: ds, _, x => by
    simp only [RepsC] at x ⊢
    obtain ⟨v, r, rfl, h1, h2⟩ := x
    exact ⟨v, r, rfl, RepC.up h1, RepsC.up h2⟩
end
/-- data that holds no list and no label -/
noncomputable def D.flat : D → Bool
  | .lst _ => false
  | .hdr _ _ => false
  | .any => false
  | .ref _ => false
  | .tup ds => flats ds
  | _ => true
where flats : List D → Bool
  | [] => true
  | d :: r => D.flat d && flats r
mutual
theorem RepC.down {X : List Addr} {c c' : Option (List Addr)} {h : Heap} : ∀ {d : D} {v : Value}, d.flat = true → RepC X c h d v → RepC X c' h d v
  | .none, _, _, x => by simpa only [RepC] using x
  | .bool _, _, _, x => by simpa only [RepC] using x
  | .int _, _, _, x => by simpa only [RepC] using x
  | .str _, _, _, x => by simpa only [RepC] using x
  | .tup ds, _, f, x => by
    simp only [RepC] at x ⊢
    obtain ⟨a, vs, rfl, ht, hr⟩ := x
    exact ⟨a, vs, rfl, ht, RepsC.down (by simpa only [D.flat] using f) hr⟩
  | .lst ds, _, f, x => by simp [D.flat] at f
  | .hdr _ _, _, f, x => by simp [D.flat] at f
  | .any, _, f, x => by simp [D.flat] at f
  | .ref i, _, f, x => by simp [D.flat] at f
  | .val _, _, _, x => by simpa only [RepC] using x
  | .fn .., _, _, x => by simpa only [RepC] using x
theorem RepsC.down {X : List Addr} {c c' : Option (List Addr)} {h : Heap} : ∀ {ds : List D} {vs : List Value}, D.flat.flats ds = true → RepsC X c h ds vs → RepsC X c' h ds vs
  | [], _, _, x => by simpa only [RepsC] using x
  | d :: ds, _, f, x => by
    simp only [RepsC] at x ⊢
    simp only [D.flat.flats, Bool.and_eq_true] at f
    obtain ⟨v, r, rfl, h1, h2⟩ := x
    exact ⟨v, r, rfl, RepC.down f.1 h1, RepsC.down f.2 h2⟩
end
theorem RepsC.length {X : List Addr} {c : Option (List Addr)} {h : Heap} : ∀ {ds : List D} {vs : List Value}, RepsC X c h ds vs → vs.length = ds.length
  | [], _, x => by simp only [RepsC] at x; rw [x]; rfl
  | d :: ds, _, x => by
    simp only [RepsC] at x
    obtain ⟨v, r, rfl, _, h2⟩ := x
    simp [h2.length]
theorem RepsC.get {X : List Addr} {c : Option (List Addr)} {h : Heap} : ∀ {ds : List D} {vs : List Value} {i : Nat} {d : D}, RepsC X c h ds vs → ds[i]? = some d → ∃ v, vs[i]? = some v ∧ RepC X c h d v
  | [], _, _, _, _, e => by simp at e
  | d :: ds, _, i, d', x, e => by
    simp only [RepsC] at x
    obtain ⟨v, r, rfl, h1, h2⟩ := x
    cases i with
    | zero => simp at e; subst e; exact ⟨v, rfl, h1⟩
    | succ i => simpa using h2.get (i := i) (by simpa using e)
theorem RepsC.back {X : List Addr} {c : Option (List Addr)} {h : Heap} : ∀ {ds : List D} {vs : List Value} {i : Nat} {v : Value}, RepsC X c h ds vs → vs[i]? = some v → ∃ d, ds[i]? = some d ∧ RepC X c h d v
  | [], _, _, _, x, e => by simp only [RepsC] at x; subst x; simp at e
  | d :: ds, _, i, v', x, e => by
    simp only [RepsC] at x
    obtain ⟨v, r, rfl, h1, h2⟩ := x
    cases i with
    | zero => simp at e; subst e; exact ⟨d, rfl, h1⟩
    | succ i => simpa using h2.back (i := i) (by simpa using e)
theorem RepsC.append {X : List Addr} {c : Option (List Addr)} {h : Heap} : ∀ {ds es : List D} {vs us : List Value}, RepsC X c h ds vs → RepsC X c h es us → RepsC X c h (ds ++ es) (vs ++ us)
  | [], es, vs, us, x, y => by simp only [RepsC] at x; subst x; simpa using y
  | d :: ds, es, _, us, x, y => by
    simp only [RepsC] at x
    obtain ⟨v, r, rfl, h1, h2⟩ := x
    simp only [List.cons_append, RepsC]
    exact ⟨v, r ++ us, rfl, h1, h2.append y⟩
theorem RepsC.of {X : List Addr} {c : Option (List Addr)} {h : Heap} : ∀ {ds : List D} {vs : List Value}, vs.length = ds.length → (∀ (i : Nat) (d : D) (v : Value), ds[i]? = some d → vs[i]? = some v → RepC X c h d v) → RepsC X c h ds vs
  | [], vs, l, _ => by simp only [RepsC]; exact List.length_eq_zero_iff.mp (by simpa using l)
  | d :: ds, [], l, _ => by simp at l
  | d :: ds, v :: vs, l, k => by
    simp only [RepsC]
    exact ⟨v, vs, rfl, k 0 d v rfl rfl, RepsC.of (by simpa using l) fun i d v hd hv => k (i + 1) d v (by simpa using hd) (by simpa using hv)⟩
/-- data without lists: the same in every frame -/
noncomputable def D.nol : D → Bool
  | .lst _ => false
  | .hdr _ _ => false
  | .tup ds => nols ds
  | _ => true
where nols : List D → Bool
  | [] => true
  | d :: r => D.nol d && nols r
mutual
theorem RepC.anyX {X X' : List Addr} {c : Option (List Addr)} {h : Heap} : ∀ {d : D} {v : Value}, d.nol = true → RepC X c h d v → RepC X' c h d v
  | .none, _, _, x => by simpa only [RepC] using x
  | .bool _, _, _, x => by simpa only [RepC] using x
  | .int _, _, _, x => by simpa only [RepC] using x
  | .str _, _, _, x => by simpa only [RepC] using x
  | .tup ds, _, e, x => by
    simp only [RepC] at x ⊢
    obtain ⟨a, vs, rfl, ht, hr⟩ := x
    exact ⟨a, vs, rfl, ht, RepsC.anyX (by simpa only [D.nol] using e) hr⟩
  | .lst ds, _, e, x => by simp [D.nol] at e
  | .hdr _ _, _, e, x => by simp [D.nol] at e
  | .any, _, _, x => by simp only [RepC]
  | .ref i, _, _, x => by simpa only [RepC] using x
  | .val _, _, _, x => by simpa only [RepC] using x
  | .fn .., _, _, x => by simpa only [RepC] using x
theorem RepsC.anyX {X X' : List Addr} {c : Option (List Addr)} {h : Heap} : ∀ {ds : List D} {vs : List Value}, D.nol.nols ds = true → RepsC X c h ds vs → RepsC X' c h ds vs
  | [], _, _, x => by simpa only [RepsC] using x
  | d :: ds, _, e, x => by
    simp only [RepsC] at x ⊢
    simp only [D.nol.nols, Bool.and_eq_true] at e
    obtain ⟨v, r, rfl, h1, h2⟩ := x
    exact ⟨v, r, rfl, RepC.anyX e.1 h1, RepsC.anyX e.2 h2⟩
end
mutual
/-- what lies within a list: the same for every frame -/
theorem RepC.flatX {X X' : List Addr} {h : Heap} : ∀ {d : D} {v : Value}, RepC X none h d v → RepC X' none h d v
  | .none, _, x => by simpa only [RepC] using x
  | .bool _, _, x => by simpa only [RepC] using x
  | .int _, _, x => by simpa only [RepC] using x
  | .str _, _, x => by simpa only [RepC] using x
  | .tup ds, _, x => by
    simp only [RepC] at x ⊢
    obtain ⟨a, vs, rfl, ht, hr⟩ := x
    exact ⟨a, vs, rfl, ht, RepsC.flatX hr⟩
  | .lst ds, _, x => by simp only [RepC] at x; obtain ⟨_, _, _, _, e, _⟩ := x; cases e
  | .hdr C ds, _, x => by simp only [RepC] at x; obtain ⟨_, _, _, _, _, _, _, _, _, e, _⟩ := x; cases e
  | .any, _, x => by simp only [RepC]
  | .ref i, _, x => by simp only [RepC] at x; obtain ⟨_, _, e, _⟩ := x; cases e
  | .val _, _, x => by simpa only [RepC] using x
  | .fn .., _, x => by simpa only [RepC] using x
theorem RepsC.flatX {X X' : List Addr} {h : Heap} : ∀ {ds : List D} {vs : List Value}, RepsC X none h ds vs → RepsC X' none h ds vs
  | [], _, x => by simpa only [RepsC] using x
  | d :: ds, _, x => by
    simp only [RepsC] at x ⊢
    obtain ⟨v, r, rfl, h1, h2⟩ := x
    exact ⟨v, r, rfl, RepC.flatX h1, RepsC.flatX h2⟩
end
noncomputable def ContOk (α : List Addr) (h : Heap) (a : Addr) : Cont → Prop
  | .list ds => ∃ vs : List Value, h.PlainList a vs.toArray ∧ RepsC [] none h ds vs
  | .inst C j => ∃ d, α[j]? = some d ∧ h.get? a = some { cls := .ref C, dict := some d, data := .plain }
  | .dict es => ∃ (des : List DictEntry) (n : Nat), h.get? a = some (dictOf des n) ∧ des.length = es.length ∧ (des.length ≤ 100 ∧ a ≠ sysModules) ∧ ∀ (i : Nat) (x : Str) (d : D), es[i]? = some (x, d) → ∃ hs t v, des[i]? = some (⟨hs, .str x t, v⟩ : DictEntry) ∧ d.nol = true ∧ RepC [] (some α) h d v
  | .obj P => ∃ o, h.get? a = some o ∧ ¬ Frz o ∧ P o
theorem Frz.not_seq {o : Obj} (h : Frz o) (hc : o.cls = .type "list") {xs : Array Value} {n : Nat} (hd : o.data = .seq xs n) : False := by
  rcases h with ⟨h1, _⟩ | ⟨fd, h1⟩ | ⟨vs, q, t, h1, _⟩
  · rw [hc] at h1; exact absurd h1 (by decide)
  · rw [hd] at h1; cases h1
  · rw [hd] at h1; cases h1
theorem Frz.not_plain {o : Obj} (h : Frz o) (hd : o.data = .plain) : False := by
  rcases h with ⟨_, _, _, h1⟩ | ⟨fd, h1⟩ | ⟨vs, q, t, h1, _⟩ <;> (rw [hd] at h1; cases h1)
theorem Frz.not_dict {o : Obj} (h : Frz o) {es n} (hd : o.data = .dict es n) : False := by
  rcases h with ⟨_, _, _, h1⟩ | ⟨fd, h1⟩ | ⟨vs, q, t, h1, _⟩ <;> (rw [hd] at h1; cases h1)
theorem Frz.not_cell {o : Obj} (h : Frz o) {v} (hd : o.data = .cell v) : False := by
  rcases h with ⟨_, _, _, h1⟩ | ⟨fd, h1⟩ | ⟨vs, q, t, h1, _⟩ <;> (rw [hd] at h1; cases h1)
theorem ContOk.notFrz {α : List Addr} {h : Heap} {a : Addr} {c : Cont} (x : ContOk α h a c) : ∃ o, h.get? a = some o ∧ ¬ Frz o := by
  cases c with
  | list ds => obtain ⟨vs, ⟨n, ho⟩, _⟩ := x; exact ⟨_, ho, fun f => f.not_seq rfl rfl⟩
  | inst C j => obtain ⟨d, _, ho⟩ := x; exact ⟨_, ho, fun f => f.not_plain rfl⟩
  | dict es => obtain ⟨des, n, ho, _⟩ := x; exact ⟨_, ho, fun f => f.not_dict rfl⟩
  | obj P => obtain ⟨o, h1, h2, _⟩ := x; exact ⟨o, h1, h2⟩
mutual
theorem RepC.nolStill {X : List Addr} {c c' : Option (List Addr)} {h h' : Heap} (k : FrzKeep h h') (g : Grow h c c') : ∀ {d : D} {v : Value}, d.nol = true → RepC X c h d v → RepC X c' h' d v
  | .none, _, _, x => by simpa only [RepC] using x
  | .bool _, _, _, x => by simpa only [RepC] using x
  | .int _, _, _, x => by simpa only [RepC] using x
  | .str _, _, _, x => by simpa only [RepC] using x
  | .tup ds, _, e, x => by
    simp only [RepC] at x ⊢
    obtain ⟨a, vs, rfl, ht, hr⟩ := x
    exact ⟨a, vs, rfl, frz_tuple k ht, RepsC.nolStill k g (by simpa only [D.nol] using e) hr⟩
  | .lst ds, _, e, x => by simp [D.nol] at e
  | .hdr _ _, _, e, x => by simp [D.nol] at e
  | .any, _, _, x => by simp only [RepC]
  | .ref i, _, _, x => by
    simp only [RepC] at x ⊢
    obtain ⟨a, α, hc, hi, rfl⟩ := x
    obtain ⟨β, hc', hb⟩ := g α hc
    exact ⟨a, _, hc', by rw [List.getElem?_append_left (List.getElem?_eq_some_iff.mp hi).1]; exact hi, rfl⟩
  | .val _, _, _, x => by simpa only [RepC] using x
  | .fn .., _, _, x => by
    simp only [RepC] at x ⊢
    obtain ⟨a, doc, pm, cdv, ct, rfl, ho, hc⟩ := x
    exact ⟨a, doc, pm, cdv, ct, rfl, k _ _ (.inr (.inl ⟨_, rfl⟩)) ho, frz_code k hc⟩
theorem RepsC.nolStill {X : List Addr} {c c' : Option (List Addr)} {h h' : Heap} (k : FrzKeep h h') (g : Grow h c c') : ∀ {ds : List D} {vs : List Value}, D.nol.nols ds = true → RepsC X c h ds vs → RepsC X c' h' ds vs
  | [], _, _, x => by simpa only [RepsC] using x
  | d :: ds, _, e, x => by
    simp only [RepsC] at x ⊢
    simp only [D.nol.nols, Bool.and_eq_true] at e
    obtain ⟨v, r, rfl, h1, h2⟩ := x
    exact ⟨v, r, rfl, RepC.nolStill k g e.1 h1, RepsC.nolStill k g e.2 h2⟩
end
theorem ContOk.still {α β : List Addr} {h h' : Heap} {a : Addr} {c : Cont} (k : FrzKeep h h') (hb : ∀ b ∈ β, h.get? b = none) (e : ∀ o, h.get? a = some o → h'.get? a = some o) (x : ContOk α h a c) : ContOk (α ++ β) h' a c := by
  have g : Grow h (some α) (some (α ++ β)) := fun α' e => by cases e; exact ⟨β, rfl, hb⟩
  cases c with
  | list ds => obtain ⟨vs, ⟨n, ho⟩, hr⟩ := x; exact ⟨vs, ⟨n, e _ ho⟩, hr.flat k⟩
  | inst C j => obtain ⟨d, hd, ho⟩ := x; exact ⟨d, by rw [List.getElem?_append_left (List.getElem?_eq_some_iff.mp hd).1]; exact hd, e _ ho⟩
  | dict es =>
    obtain ⟨des, n, ho, hl, hz, hr⟩ := x
    exact ⟨des, n, e _ ho, hl, hz, fun i x d hi => let ⟨hs, t, v, h1, h0, h2⟩ := hr i x d hi; ⟨hs, t, v, h1, h0, RepC.nolStill k g h0 h2⟩⟩
  | obj P => obtain ⟨o, ho, hf⟩ := x; exact ⟨o, e _ ho, hf⟩
/-- what stands at every heap of the call -/
structure Gs (G : Gnd) (h : Heap) : Prop where
  base : ∀ b o, G.g0.get? b = some o → h.get? b = some o
  tabs : ∀ q ∈ G.mks, ∃ ps, h.get? q.P = some (tabObj ps) ∧ (ps = #[] ∨ ∃ c', ps = #[rawInt q.pos.line, rawInt q.pos.col, .ref c'] ∧ h.CodeRec (.ref c') q.qual)
  fx : ∀ q ∈ G.fx, Frz q.2 ∧ h.get? q.1 = some q.2
theorem Gs.notFrz {G : Gnd} {h : Heap} (x : Gs G h) {P : Addr} (hP : P ∈ G.TB) : ∃ o, h.get? P = some o ∧ ¬ Frz o := by
  obtain ⟨q, hq, rfl⟩ := List.mem_map.mp hP
  obtain ⟨ps, h1, h2⟩ := x.tabs q hq
  refine ⟨_, h1, fun f => ?_⟩
  rcases f with ⟨_, _, _, f⟩ | ⟨_, f⟩ | ⟨vs, q', t, f, f2⟩
  · cases f
  · cases f
  · cases f
    rcases h2 with rfl | ⟨c', rfl, _⟩
    · simp at f2
    · simp [rawInt] at f2
structure Sp (G : Gnd) (F : List Addr) (s s' : Shared) : Prop where
  same : ∃ h tk dr, s' = { s with heap := h, toks := tk, drawn := dr }
  keep : ∀ b o, b ∉ F → b ∉ G.TB → s.heap.get? b = some o → s'.heap.get? b = some o
  live : ∀ b, (s.heap.get? b).isSome → (s'.heap.get? b).isSome
theorem Sp.refl {G : Gnd} {F : List Addr} {s : Shared} : Sp G F s s := ⟨⟨s.heap, s.toks, _, rfl⟩, fun _ _ _ _ e => e, fun _ e => e⟩
theorem Sp.tok {G : Gnd} {F : List Addr} {s : Shared} {t : Nat} : Sp G F s { s with toks := t } := ⟨⟨s.heap, t, _, rfl⟩, fun _ _ _ _ e => e, fun _ e => e⟩
theorem Sp.all {G : Gnd} {F : List Addr} {s : Shared} {h : Heap} {t : Nat} (k : ∀ b o, s.heap.get? b = some o → h.get? b = some o) : Sp G F s { s with heap := h, toks := t } :=
  ⟨⟨h, t, _, rfl⟩, fun b o _ _ e => k b o e, fun b e => by obtain ⟨o, ho⟩ := Option.isSome_iff_exists.mp e; rw [k b o ho]; rfl⟩
theorem Sp.trans {G : Gnd} {F : List Addr} {s₁ s₂ s₃ : Shared} (x : Sp G F s₁ s₂) (y : Sp G F s₂ s₃) : Sp G F s₁ s₃ := by
  obtain ⟨⟨h, t, dr, rfl⟩, k, l⟩ := x
  obtain ⟨⟨h', t', dr', rfl⟩, k', l'⟩ := y
  exact ⟨⟨h', t', _, rfl⟩, fun b o hf ht e => k' b o hf ht (k b o hf ht e), fun b e => l' b (l b e)⟩
theorem Sp.narrow {G : Gnd} {F F' : List Addr} {s s' : Shared} (x : Sp G F s s') (hF : ∀ b ∈ F, b ∈ F' ∨ s.heap.get? b = none) : Sp G F' s s' :=
  ⟨x.same, fun b o hb ht e => x.keep b o (fun q => (hF b q).elim hb fun n => by rw [n] at e; cases e) ht e, x.live⟩
theorem Sp.gone {G : Gnd} {F : List Addr} {s s' : Shared} (x : Sp G F s s') {b : Addr} (e : s'.heap.get? b = none) : s.heap.get? b = none := by
  cases q : s.heap.get? b with
  | none => rfl
  | some o => have := x.live b (by rw [q]; rfl); rw [e] at this; cases this
structure Labs (G : Gnd) (α : List Addr) (h : Heap) (H : List Cont) : Prop where
  len : α.length = H.length
  nd : α.Nodup
  ok : ∀ (i : Nat) (a : Addr) (c : Cont), α[i]? = some a → H[i]? = some c → ContOk α h a c
  g0 : ∀ a ∈ α, G.g0.get? a = none
  tb : ∀ a ∈ α, a ∉ G.TB
theorem Labs.notFrz {G : Gnd} {α : List Addr} {h : Heap} {H : List Cont} (x : Labs G α h H) {a : Addr} (ha : a ∈ α) : ∃ o, h.get? a = some o ∧ ¬ Frz o := by
  obtain ⟨i, hi, rfl⟩ := List.getElem_of_mem ha
  have hi' : i < H.length := x.len ▸ hi
  exact (x.ok i _ _ (List.getElem?_eq_getElem hi) (List.getElem?_eq_getElem hi')).notFrz
structure AS where
  loc : List (Str × D)
  cel : List (Str × D)
  H : List Cont
structure Fm (G : Gnd) (env : Env) (σ : AS) (α : List Addr) (s : Shared) : Prop where
  gs : Gs G s.heap
  labs : Labs G α s.heap σ.H
  loc : ∃ m, s.heap.Ns env.locals m ∧ ∀ x d, σ.loc.lookup x = some d → ∃ v, m x = some v ∧ Rep env α s.heap d v
  cel : ∀ x d, σ.cel.lookup x = some d → ∃ c v, env.cells.lookup x = some c ∧ s.heap.IsCell c (some v) ∧ Rep env α s.heap d v
  cells : ∀ c ∈ env.cells.map (·.2), ∃ v, s.heap.IsCell c v
  nd : (env.cells.map (·.2)).Nodup
  la : env.locals ∉ α
  ca : ∀ c ∈ env.cells.map (·.2), c ∉ α
  lg : G.g0.get? env.locals = none
  cg : ∀ c ∈ env.cells.map (·.2), G.g0.get? c = none
/-- the cells that are the frame's own -/
noncomputable def ownC (env : Env) : List Addr := (env.cells.filter fun p => env.scope.names.lookup p.1 == some .cell).map (·.2)
theorem ownC_sub {env : Env} {a : Addr} (h : a ∈ ownC env) : a ∈ env.cells.map (·.2) := by
  obtain ⟨p, hp, rfl⟩ := List.mem_map.mp h
  exact List.mem_map_of_mem (List.mem_filter.mp hp).1
noncomputable def foot (env : Env) (α : List Addr) : List Addr := env.locals :: (ownC env ++ α)
theorem frzKeep_of {G : Gnd} {F : List Addr} {s s' : Shared} (x : Sp G F s s') (gs : Gs G s.heap) (hF : ∀ a ∈ F, ∀ o, s.heap.get? a = some o → ¬ Frz o) : FrzKeep s.heap s'.heap := fun a o hf e =>
  x.keep a o (fun q => hF a q o e hf) (fun q => by obtain ⟨o', h1, h2⟩ := gs.notFrz q; rw [e] at h1; cases h1; exact h2 hf) e
theorem Labs.frz {G : Gnd} {α : List Addr} {s s' : Shared} {H : List Cont} (x : Labs G α s.heap H) (gs : Gs G s.heap) (sp : Sp G α s s') : FrzKeep s.heap s'.heap :=
  frzKeep_of sp gs fun a ha o e f => by obtain ⟨o', h1, h2⟩ := x.notFrz ha; rw [e] at h1; cases h1; exact h2 f
theorem Fm.footNot {G : Gnd} {env : Env} {σ : AS} {α : List Addr} {s : Shared} (F : Fm G env σ α s) : ∀ a ∈ foot env α, ∀ o, s.heap.get? a = some o → ¬ Frz o := fun a ha o e f => by
  rcases List.mem_cons.mp ha with rfl | ha
  · obtain ⟨m, ⟨o', es, n, h1, h2, _⟩, _⟩ := F.loc
    rw [e] at h1; cases h1; exact f.not_dict h2
  · rcases List.mem_append.mp ha with ha | ha
    · replace ha := ownC_sub ha
      obtain ⟨v, o', h1, h2⟩ := F.cells a ha
      rw [e] at h1; cases h1; exact f.not_cell h2
    · obtain ⟨o', h1, h2⟩ := F.labs.notFrz ha; rw [e] at h1; cases h1; exact h2 f
theorem Fm.frz {G : Gnd} {env : Env} {σ : AS} {α : List Addr} {s s' : Shared} (F : Fm G env σ α s) (sp : Sp G (foot env α) s s') : FrzKeep s.heap s'.heap := frzKeep_of sp F.gs F.footNot
theorem sub_foot {env : Env} {α : List Addr} : ∀ a ∈ α, a ∈ foot env α := fun _ h => List.mem_cons_of_mem _ (List.mem_append_right _ h)
theorem lstKeep_of {G : Gnd} {F α X : List Addr} {s s' : Shared} (x : Sp G F s s') (gs : Gs G s.heap) (hF : ∀ a ∈ F, a ∈ α ∨ a ∈ X) : LstKeep X (some α) s.heap s'.heap := fun α' e a o ha hx hl ho => by
  cases e
  refine x.keep a o (fun q => (hF a q).elim ha hx) (fun q => ?_) ho
  obtain ⟨r, hr, rfl⟩ := List.mem_map.mp q
  obtain ⟨ps, h1, _⟩ := gs.tabs r hr
  rw [ho] at h1; cases h1
  exact hl _ rfl
theorem Fm.lst {G : Gnd} {env : Env} {σ : AS} {α : List Addr} {s s' : Shared} (F : Fm G env σ α s) (sp : Sp G (foot env α) s s') : LstKeep (xsOf env) (some α) s.heap s'.heap := lstKeep_of sp F.gs fun a ha => by
  unfold foot at ha
  unfold xsOf
  simp only [List.mem_cons, List.mem_append] at ha ⊢
  rcases ha with h | h | h
  · exact .inr (.inl h)
  · exact .inr (.inr (ownC_sub h))
  · exact .inl h
theorem lstKeep_lab {G : Gnd} {α X : List Addr} {s s' : Shared} (gs : Gs G s.heap) (sp : Sp G α s s') : LstKeep X (some α) s.heap s'.heap := lstKeep_of sp gs fun a ha => .inl ha
theorem grow_of {h : Heap} {α β : List Addr} (hb : ∀ b ∈ β, h.get? b = none) : Grow h (some α) (some (α ++ β)) := fun α' e => by cases e; exact ⟨β, rfl, hb⟩
/-- the change of a part of the labels keeps the rest of the frame -/
theorem Fm.step {G : Gnd} {env : Env} {σ : AS} {α β : List Addr} {s s' : Shared} {H' : List Cont} (F : Fm G env σ α s) (gs : Gs G s'.heap) (sp : Sp G α s s') (hb : ∀ b ∈ β, s.heap.get? b = none)
    (L : Labs G (α ++ β) s'.heap H') : Fm G env { σ with H := H' } (α ++ β) s' := by
  have fk := F.labs.frz F.gs sp
  have lk := lstKeep_lab (X := xsOf env) F.gs sp
  have lL : ∃ o, s.heap.get? env.locals = some o := by obtain ⟨m, ⟨o', es, n, h1, _⟩, _⟩ := F.loc; exact ⟨_, h1⟩
  have ltb : ∀ P ∈ G.TB, ∃ ps, s.heap.get? P = some (tabObj ps) := fun P hP => by obtain ⟨q, hq, rfl⟩ := List.mem_map.mp hP; obtain ⟨ps, h1, _⟩ := F.gs.tabs q hq; exact ⟨_, h1⟩
  have nlt : env.locals ∉ G.TB := fun q => by
    obtain ⟨ps, h1⟩ := ltb _ q
    obtain ⟨m, ⟨o', es, n, h2, h3, _⟩, _⟩ := F.loc
    rw [h1] at h2; cases h2; cases h3
  refine ⟨gs, L, ?_, fun x d e => ?_, fun c hc => ?_, F.nd, fun q => ?_, fun c hc q => ?_, F.lg, F.cg⟩
  · obtain ⟨m, hn, hr⟩ := F.loc
    refine ⟨m, hn.at' fun o e => sp.keep _ _ F.la nlt e, fun x d e => ?_⟩
    obtain ⟨v, h1, h2⟩ := hr x d e
    exact ⟨v, h1, h2.still fk lk (grow_of hb)⟩
  · obtain ⟨c, v, h1, ⟨o, h2, h2'⟩, h3⟩ := F.cel x d e
    have hc : c ∈ env.cells.map (·.2) := List.mem_map.mpr ⟨(x, c), mem_of_lookup h1, rfl⟩
    refine ⟨c, v, h1, ⟨o, sp.keep _ _ (F.ca c hc) (fun q => ?_) h2, h2'⟩, h3.still fk lk (grow_of hb)⟩
    obtain ⟨ps, h4⟩ := ltb _ q
    rw [h4] at h2; cases h2; cases h2'
  · obtain ⟨v, o, h2, h2'⟩ := F.cells c hc
    refine ⟨v, o, sp.keep _ _ (F.ca c hc) (fun q => ?_) h2, h2'⟩
    obtain ⟨ps, h4⟩ := ltb _ q
    rw [h4] at h2; cases h2; cases h2'
  · rcases List.mem_append.mp q with q | q
    · exact F.la q
    · obtain ⟨o, e⟩ := lL; rw [hb _ q] at e; cases e
  · rcases List.mem_append.mp q with q | q
    · exact F.ca c hc q
    · obtain ⟨v, o, h2, h2'⟩ := F.cells c hc; rw [hb _ q] at h2; cases h2
end
section
structure OKA (n : Nat) (A : Around) : Prop where
  hh : A.handled = none
  d : A.depth + 20 * n ≤ 990
  u : A.units + 100 * n ≤ 9000
theorem OKA.le {n m : Nat} {A : Around} (x : OKA n A) (h : m ≤ n) : OKA m A := ⟨x.hh, by have := x.d; omega, by have := x.u; omega⟩
theorem OKA.deeper {n : Nat} {A : Around} {env : Env} (x : OKA (n + 1) A) : OKA n (A.deeper env) :=
  ⟨x.hh, by have := x.d; simp only [Around.deeper]; omega, by have := x.u; simp only [Around.deeper]; omega⟩
theorem OKA.in1 {n : Nat} {A : Around} (x : OKA (n + 1) A) : OKA n A.in1 := ⟨x.hh, by have := x.d; simp only [Around.in1]; omega, by have := x.u; simp only [Around.in1]; omega⟩
theorem OKA.room {n : Nat} {A : Around} (x : OKA n A) : A.depth < recursionLimit := by have := x.d; unfold recursionLimit; omega
theorem OKA.units {n : Nat} {A : Around} (x : OKA n A) : A.units < cLine := by have := x.u; unfold cLine; omega
structure Fi where
  scope : Scope
  code : Option (Value × Str)
  own : Bool := true
  cells : Option (List (Str × Addr)) := none
structure EnvOk (env : Env) (fi : Fi) : Prop where
  sc : env.scope = fi.scope
  gl : env.globals = mainGlobals
  bi : env.builtins = builtinsNs
  kind : fi.scope.kind = .function
  code : ∀ c q, fi.code = some (c, q) → env.code = c ∧ env.qual = q
  cl : fi.own = true → ∀ x, fi.scope.names.lookup x = some .cell → ∃ c, env.cells.lookup x = some c
  cs : ∀ c, fi.cells = some c → env.cells = c
theorem EnvOk.of {env : Env} {fi : Fi} {x : Str} {k : NameKind} (E : EnvOk env fi) (h : fi.scope.names.lookup x = some k) : env.kindOf x = some k := by
  show env.scope.names.lookup x = some k; rw [E.sc]; exact h
noncomputable def bot : Value → Shared → Prop := fun _ _ => False
section
variable {τ υ : Type} {G : Gnd} {n : Nat} {fi : Fi} {env : Env} {A : Around} {α β : List Addr} {s s₁ s₂ s' : Shared} {σ σ₁ σ₂ σ₃ : AS}
/-- the state behind a tree that changes labels alone -/
inductive Post (G : Gnd) (env : Env) (α : List Addr) (s : Shared) (σ : AS) (R : List Addr → List Addr → Heap → τ → Prop) (v : τ) (s' : Shared) : Prop
  | mk (β : List Addr) (sp : Sp G α s s') (hb : ∀ b ∈ β, s.heap.get? b = none) (F : Fm G env σ (α ++ β) s') (r : R (xsOf env) (α ++ β) s'.heap v)
theorem Sp.trans' (x : Sp G α s s₁) (hb : ∀ b ∈ β, s.heap.get? b = none) (y : Sp G (α ++ β) s₁ s₂) : Sp G α s s₂ := by
  obtain ⟨⟨h, t, dr, rfl⟩, k, l⟩ := x
  obtain ⟨⟨h', t', dr', rfl⟩, k', l'⟩ := y
  refine ⟨⟨h', t', _, rfl⟩, fun b o hf ht e => k' b o (fun q => ?_) ht (k b o hf ht e), fun b e => l' b (l b e)⟩
  rcases List.mem_append.mp q with q | q
  · exact hf q
  · rw [hb b q] at e; cases e
theorem Post.up {R : List Addr → List Addr → Heap → τ → Prop} {v : τ} (sp : Sp G α s s₁) (hb : ∀ b ∈ β, s.heap.get? b = none) (x : Post G env (α ++ β) s₁ σ R v s') : Post G env α s σ R v s' := by
  obtain ⟨γ, sp', hb', F, r⟩ := x
  refine ⟨β ++ γ, sp.trans' hb sp', fun b h => ?_, by rw [← List.append_assoc]; exact F, by rw [← List.append_assoc]; exact r⟩
  rcases List.mem_append.mp h with h | h
  · exact hb b h
  · exact sp.gone (hb' b h)
theorem Post.here {R : List Addr → List Addr → Heap → τ → Prop} {v : τ} (F : Fm G env σ α s) (r : R (xsOf env) α s.heap v) : Post G env α s σ R v s :=
  ⟨[], .refl, (fun _ h => nomatch h), by rw [List.append_nil]; exact F, by rw [List.append_nil]; exact r⟩
theorem Fm.tok {t : Nat} (F : Fm G env σ α s) : Fm G env σ α { s with toks := t } := ⟨F.gs, F.labs, F.loc, F.cel, F.cells, F.nd, F.la, F.ca, F.lg, F.cg⟩
theorem Post.tok {R : List Addr → List Addr → Heap → τ → Prop} {v : τ} {t : Nat} (F : Fm G env σ α s) (r : R (xsOf env) α s.heap v) : Post G env α s σ R v { s with toks := t } :=
  ⟨[], .tok, (fun _ h => nomatch h), by rw [List.append_nil]; exact F.tok, by rw [List.append_nil]; exact r⟩
/-- a tree of the frame: from σ to σ' with a result that R knows -/
noncomputable def Ev (G : Gnd) (n : Nat) (fi : Fi) (σ : AS) (t : Env → Sem τ) (σ' : AS) (R : List Addr → List Addr → Heap → τ → Prop) : Prop :=
  ∀ A env α s, OKA n A → EnvOk env fi → Fm G env σ α s → wpAny (model G.prog G.w) A (t env) (Post G env α s σ' R) bot s
noncomputable abbrev RD (d : D) : List Addr → List Addr → Heap → Value → Prop := fun X α h v => RepC X (some α) h d v
noncomputable abbrev RDs (ds : List D) : List Addr → List Addr → Heap → List Value → Prop := fun X α h vs => RepsC X (some α) h ds vs
structure PE (G : Gnd) (n : Nat) (fi : Fi) (σ : AS) (e : Expr) (d : D) (σ' : AS) : Prop where
  run : Ev G n fi σ (fun env => eval e env) σ' (RD d)
structure PT (G : Gnd) (n : Nat) (fi : Fi) (σ : AS) (e : Expr) (b : Bool) (σ' : AS) : Prop where
  run : Ev G n fi σ (fun env => isTrue e env (eval e env)) σ' (fun _ _ _ v => v = b)
structure PEs (G : Gnd) (n : Nat) (fi : Fi) (σ : AS) (es : List Expr) (ds : List D) (σ' : AS) : Prop where
  run : ∀ pos, Ev G n fi σ (fun env => spliced (backTo pos (starEach es env))) σ' (RDs ds)
structure PKs (G : Gnd) (n : Nat) (fi : Fi) (σ : AS) (ks : List Keyword) (ds : List D) (σ' : AS) : Prop where
  run : ∀ pos, Ev G n fi σ (fun env => evalAll ((backToKw pos (keywordEach ks env)).map (·.2))) σ' (RDs ds)
/-- two trees one behind the other, the first's result kept -/
theorem seq2 {t : Sem τ} {k : τ → Shared → Prop} {R : List Addr → List Addr → Heap → τ → Prop} (h : wpAny (model G.prog G.w) A t (Post G env α s σ₁ R) bot s)
    (hk : ∀ v β s₁, Sp G α s s₁ → (∀ b ∈ β, s.heap.get? b = none) → Fm G env σ₁ (α ++ β) s₁ → R (xsOf env) (α ++ β) s₁.heap v → k v s₁) : wpAny (model G.prog G.w) A t k bot s :=
  wpAny_mono h (fun v s' ⟨β, sp, hb, F, r⟩ => hk v β s' sp hb F r) fun _ _ x => x
/-- operations on values of the frame -/
structure O1 (G : Gnd) (n : Nat) (fi : Fi) (σ : AS) (f : Value → Sem Value) (d d' : D) (σ' : AS) : Prop where
  run : ∀ A env α s v, OKA n A → EnvOk env fi → Fm G env σ α s → Rep env α s.heap d v → wpAny (model G.prog G.w) A (f v) (Post G env α s σ' (RD d')) bot s
structure O2 (G : Gnd) (n : Nat) (fi : Fi) (σ : AS) (f : Value → Value → Sem Value) (a b d' : D) (σ' : AS) : Prop where
  run : ∀ A env α s u v, OKA n A → EnvOk env fi → Fm G env σ α s → Rep env α s.heap a u → Rep env α s.heap b v → wpAny (model G.prog G.w) A (f u v) (Post G env α s σ' (RD d')) bot s
structure OT (G : Gnd) (n : Nat) (fi : Fi) (σ : AS) (d : D) (b : Bool) : Prop where
  run : ∀ A env α s v, OKA n A → EnvOk env fi → Fm G env σ α s → Rep env α s.heap d v → wpAny (model G.prog G.w) A (truthy v) (Post G env α s σ (fun _ _ _ x => x = b)) bot s
/-- a value of before is still one -/
theorem Fm.still {d : D} {v : Value} (F : Fm G env σ α s) (sp : Sp G α s s₁) (hb : ∀ b ∈ β, s.heap.get? b = none) (r : Rep env α s.heap d v) : Rep env (α ++ β) s₁.heap d v := r.still (F.labs.frz F.gs sp) (lstKeep_lab F.gs sp) (grow_of hb)
theorem Fm.stills {ds : List D} {vs : List Value} (F : Fm G env σ α s) (sp : Sp G α s s₁) (hb : ∀ b ∈ β, s.heap.get? b = none) (r : Reps env α s.heap ds vs) : Reps env (α ++ β) s₁.heap ds vs := r.still (F.labs.frz F.gs sp) (lstKeep_lab F.gs sp) (grow_of hb)
theorem pe_binop {l r : Expr} {op : Operator} {pos : Pos} {a b d : D} (h1 : PE G n fi σ l a σ₁) (h2 : PE G n fi σ₁ r b σ₂) (h3 : O2 G n fi σ₂ (binaryOp op) a b d σ₃) :
    PE G n fi σ (.BinOp l op r pos) d σ₃ := .mk fun A env α s hA hE hF =>
  wpAny_BinOp (seq2 (h1.run A env α s hA hE hF) fun u β s₁ sp hb F1 r1 => seq2 (h2.run A env _ s₁ hA hE F1) fun v γ s₂ sp2 hb2 F2 r2 =>
    seq2 (h3.run A env _ s₂ u v hA hE F2 (F1.still sp2 hb2 r1) r2) fun w δ s₃ sp3 hb3 F3 r3 => Post.up sp hb (Post.up sp2 hb2 ⟨δ, sp3, hb3, F3, r3⟩))
theorem pe_cmp {l r : Expr} {op : CmpOp} {pos : Pos} {a b d : D} (h1 : PE G n fi σ l a σ₁) (h2 : PE G n fi σ₁ r b σ₂) (h3 : O2 G n fi σ₂ (compareOp op) a b d σ₃)
    (hm : behindInMarks op r = false := by with_unfolding_all rfl) : PE G n fi σ (.Compare l [op] [r] pos) d σ₃ := .mk fun A env α s hA hE hF =>
  wpAny_Compare1 (seq2 (h1.run A env α s hA hE hF) fun u β s₁ sp hb F1 r1 => seq2 (h2.run A env _ s₁ hA hE F1) fun v γ s₂ sp2 hb2 F2 r2 =>
    seq2 (h3.run A env _ s₂ u v hA hE F2 (F1.still sp2 hb2 r1) r2) fun w δ s₃ sp3 hb3 F3 r3 => Post.up sp hb (Post.up sp2 hb2 ⟨δ, sp3, hb3, F3, r3⟩)) hm
theorem ot_bool {b : Bool} : OT G n fi σ (.bool b) b := .mk fun A env α s v _ _ F r => by
  simp only [RepC] at r; subst r
  exact wpAny_truthy_bool (Post.here F rfl)
theorem pt_cmp {l r : Expr} {op : CmpOp} {pos : Pos} {a b : D} {c : Bool} (h1 : PE G n fi σ l a σ₁) (h2 : PE G n fi σ₁ r b σ₂) (h3 : O2 G n fi σ₂ (compareOp op) a b (.bool c) σ₃)
    (hm : behindInMarks op r = false := by with_unfolding_all rfl) : PT G n fi σ (.Compare l [op] [r] pos) c σ₃ := .mk fun A env α s hA hE hF =>
  wpAny_isTrue_Compare1 (seq2 (h1.run A env α s hA hE hF) fun u β s₁ sp hb F1 r1 => seq2 (h2.run A env _ s₁ hA hE F1) fun v γ s₂ sp2 hb2 F2 r2 =>
    seq2 (h3.run A env _ s₂ u v hA hE F2 (F1.still sp2 hb2 r1) r2) fun w δ s₃ sp3 hb3 F3 r3 => by
      simp only [RepC] at r3; subst r3
      exact wpAny_truthy_bool (Post.up sp hb (Post.up sp2 hb2 ⟨δ, sp3, hb3, F3, rfl⟩))) hm
theorem pe_unop {e : Expr} {op : UnaryOp} {pos : Pos} {a d : D} (h1 : PE G n fi σ e a σ₁) (h2 : O1 G n fi σ₁ (unaryOp op) a d σ₂) : PE G n fi σ (.UnaryOp op e pos) d σ₂ := .mk fun A env α s hA hE hF =>
  wpAny_UnaryOp (seq2 (h1.run A env α s hA hE hF) fun u _ s₁ sp hb F1 r1 => seq2 (h2.run A env _ s₁ u hA hE F1 r1) fun w δ s₃ sp3 hb3 F3 r3 => Post.up sp hb ⟨δ, sp3, hb3, F3, r3⟩)
theorem pt_not {e : Expr} {pos : Pos} {b : Bool} (h : PT G n fi σ e b σ₁) : PT G n fi σ (.UnaryOp .Not e pos) (!b) σ₁ := .mk fun A env α s hA hE hF =>
  wpAny_isTrue_Not (seq2 (h.run A env α s hA hE hF) fun v β s₁ sp hb F1 r1 => ⟨β, sp, hb, F1, by rw [r1]⟩)
theorem pt_val {e : Expr} {d : D} {b : Bool} (h : PE G n fi σ e d σ₁) (ht : OT G n fi σ₁ d b)
    (he : ∀ env whole, isTrue e env whole = (do let v ← whole; standAt e.pos; holding [v] (truthy v)) := by intro _ _; rfl) : PT G n fi σ e b σ₁ := .mk fun A env α s hA hE hF =>
  wpAny_isTrue_value (seq2 (h.run A env α s hA hE hF) fun u β s₁ sp hb F1 r1 => seq2 (ht.run A env _ s₁ u hA hE F1 r1) fun w δ s₃ sp3 hb3 F3 r3 => Post.up sp hb ⟨δ, sp3, hb3, F3, r3⟩) (he _ _)
theorem pt_or2 {x y : Expr} {pos : Pos} {b : Bool} (h : PT G n fi σ x false σ₁) (h2 : PT G n fi σ₁ y b σ₂) : PT G n fi σ (.BoolOp .Or [x, y] pos) b σ₂ := .mk fun A env α s hA hE hF =>
  wpAny_isTrue_BoolOp (wpAny_allTrue_Or_cons (seq2 (h.run A env α s hA hE hF) fun v β s₁ sp hb F1 r1 => by
    subst r1
    refine wpAny_allTrue_Or_cons (seq2 (h2.run A env _ s₁ hA hE F1) fun v γ s₂ sp2 hb2 F2 r2 => ?_)
    subst r2
    cases v with
    | true => exact Post.up (R := fun _ _ _ x => x = true) (v := true) sp hb ⟨γ, sp2, hb2, F2, rfl⟩
    | false => exact wpAny_allTrue_Or_nil (Post.up sp hb ⟨γ, sp2, hb2, F2, rfl⟩)))
/-- and as a value -/
theorem pe_and2 {x y : Expr} {pos : Pos} {d : D} (h : PE G n fi σ x (.bool true) σ₁) (h2 : PE G n fi σ₁ y d σ₂) : PE G n fi σ (.BoolOp .And [x, y] pos) d σ₂ := .mk fun A env α s hA hE hF =>
  wpAny_And2 (seq2 (h.run A env α s hA hE hF) fun v β s₁ sp hb F1 r1 => by
    simp only [RepC] at r1; subst r1
    exact wpAny_truthy_bool (seq2 (h2.run A env _ s₁ hA hE F1) fun v γ s₂ sp2 hb2 F2 r2 => Post.up sp hb ⟨γ, sp2, hb2, F2, r2⟩))
theorem pe_ifT {t b o : Expr} {pos : Pos} {d : D} (h : PT G n fi σ t true σ₁) (h2 : PE G n fi σ₁ b d σ₂) : PE G n fi σ (.IfExp t b o pos) d σ₂ := .mk fun A env α s hA hE hF =>
  wpAny_IfExp (seq2 (h.run A env α s hA hE hF) fun v β s₁ sp hb F1 r1 => by
    subst r1
    exact seq2 (h2.run A env _ s₁ hA hE F1) fun v γ s₂ sp2 hb2 F2 r2 => Post.up sp hb ⟨γ, sp2, hb2, F2, r2⟩)
theorem pe_ifF {t b o : Expr} {pos : Pos} {d : D} (h : PT G n fi σ t false σ₁) (h2 : PE G n fi σ₁ o d σ₂) : PE G n fi σ (.IfExp t b o pos) d σ₂ := .mk fun A env α s hA hE hF =>
  wpAny_IfExp (seq2 (h.run A env α s hA hE hF) fun v β s₁ sp hb F1 r1 => by
    subst r1
    exact seq2 (h2.run A env _ s₁ hA hE F1) fun v γ s₂ sp2 hb2 F2 r2 => Post.up sp hb ⟨γ, sp2, hb2, F2, r2⟩)
theorem pe_int {i : Int} {k : Nat} {pos : Pos} : PE G n fi σ (.Constant (.int i) k pos) (.int i) σ := .mk fun A env α s _ _ hF =>
  wpAny_Constant_int (Post.tok hF (by simp only [RepC]; exact ⟨_, rfl⟩))
theorem pe_str {x : Str} {k : Nat} {pos : Pos} : PE G n fi σ (.Constant (.str x) k pos) (.str x) σ := .mk fun A env α s _ _ hF =>
  wpAny_Constant_str (Post.tok hF (by simp only [RepC]; exact ⟨_, rfl⟩))
theorem pe_none {k : Nat} {pos : Pos} : PE G n fi σ (.Constant .none k pos) .none σ := .mk fun A env α s _ _ hF =>
  wpAny_Constant_none (Post.here hF (by simp only [RepC]))
theorem pe_bool {b : Bool} {k : Nat} {pos : Pos} : PE G n fi σ (.Constant (.bool b) k pos) (.bool b) σ := .mk fun A env α s _ _ hF =>
  wpAny_Constant_bool (Post.here hF (by simp only [RepC]))
theorem pe_loc {x : Str} {pos : Pos} {d : D} (hk : fi.scope.names.lookup x = some .local := by rfl) (hd : σ.loc.lookup x = some d := by rfl) (hn : (x == ("__debug__" : Str)) = false := by decide) :
    PE G n fi σ (.Name x pos) d σ := .mk fun A env α s _ hE hF => by
  obtain ⟨m, hm, hr⟩ := hF.loc
  obtain ⟨v, h1, h2⟩ := hr x d hd
  exact wpAny_Name (wpAny_loadName_local (by rw [hE.sc]; exact hE.kind) (hE.of hk) hm h1 (Post.here hF h2)) hn
theorem pe_cel {x : Str} {pos : Pos} {d : D} (hk : fi.scope.names.lookup x = some .cell := by rfl) (hd : σ.cel.lookup x = some d := by rfl) (hn : (x == ("__debug__" : Str)) = false := by decide) :
    PE G n fi σ (.Name x pos) d σ := .mk fun A env α s _ hE hF => by
  obtain ⟨c, v, h1, h2, h3⟩ := hF.cel x d hd
  exact wpAny_Name (wpAny_loadName_cell (by rw [hE.sc]; exact hE.kind) (hE.of hk) h1 h2 (Post.here hF h3)) hn
theorem pe_fre {x : Str} {pos : Pos} {d : D} (hk : fi.scope.names.lookup x = some .free := by rfl) (hd : σ.cel.lookup x = some d := by rfl) (hn : (x == ("__debug__" : Str)) = false := by decide) (hn2 : (x == ("__classdict__" : Str)) = false := by decide) :
    PE G n fi σ (.Name x pos) d σ := .mk fun A env α s _ hE hF => by
  obtain ⟨c, v, h1, h2, h3⟩ := hF.cel x d hd
  exact wpAny_Name (wpAny_loadName_free (by rw [hE.sc]; exact hE.kind) (hE.of hk) h1 h2 (Post.here hF h3) hn2) hn
theorem pes_nil : PEs G n fi σ [] [] σ := .mk fun pos A env α s _ _ hF => wpAny_items_nil (Post.here hF (by simp only [RepsC]))
theorem pes_cons {e : Expr} {r : List Expr} {d : D} {ds : List D} (h1 : PE G n fi σ e d σ₁) (h2 : PEs G n fi σ₁ r ds σ₂)
    (he : ∀ env, starEach (e :: r) env = (false, eval e env) :: starEach r env := by intro _; rfl) : PEs G n fi σ (e :: r) (d :: ds) σ₂ := .mk fun pos A env α s hA hE hF =>
  wpAny_items_cons (seq2 (h1.run A env α s hA hE hF) fun v β s₁ sp hb F1 r1 => seq2 (h2.run pos A env _ s₁ hA hE F1) fun vs γ s₂ sp2 hb2 F2 r2 =>
    Post.up sp hb ⟨γ, sp2, hb2, F2, by simp only [RepsC]; exact ⟨v, vs, rfl, F1.still sp2 hb2 r1, r2⟩⟩) (he env)
theorem pks_nil : PKs G n fi σ [] [] σ := .mk fun pos A env α s _ _ hF => wpAny_evalAll_nil (Post.here hF (by simp only [RepsC]))
theorem pks_cons {x : Option Str} {p : Pos} {e : Expr} {r : List Keyword} {d : D} {ds : List D} (h1 : PE G n fi σ e d σ₁) (h2 : PKs G n fi σ₁ r ds σ₂) : PKs G n fi σ (⟨x, e, p⟩ :: r) (d :: ds) σ₂ := .mk fun pos A env α s hA hE hF =>
  wpAny_evalAll_cons (wpAny_bind (seq2 (h1.run A env α s hA hE hF) fun v β s₁ sp hb F1 r1 => wpAny_bind (wpAny_standAt (wpAny_pure (seq2 (h2.run pos A env _ s₁ hA hE F1) fun vs γ s₂ sp2 hb2 F2 r2 =>
    Post.up sp hb ⟨γ, sp2, hb2, F2, by simp only [RepsC]; exact ⟨v, vs, rfl, F1.still sp2 hb2 r1, r2⟩⟩)))))
end
end
section
section
variable {G : Gnd} {n m : Nat} {fi : Fi} {env : Env} {A : Around} {α β : List Addr} {s s₁ s₂ s' : Shared} {σ σ₁ σ₂ σ₃ σ₄ : AS}
theorem pe_glob {x : Str} {pos : Pos} {v : Value} (ok : G.Ok) (hv : nsIn G.K mainGlobals x = some (some v)) (hk : fi.scope.names.lookup x = some .globalImplicit := by rfl) (hn : (x == ("__debug__" : Str)) = false := by decide) :
    PE G n fi σ (.Name x pos) (.val v) σ := .mk fun A env α s _ hE hF =>
  Calls.Name_function_global (by rw [hE.sc]; exact hE.kind) (hE.of hk) (Calls.loadGlobal_global (by rw [hE.gl]; exact ok.T.g.keeps hF.gs.base) (mg_of ok.X ok.T.g hv) (Post.here hF (by simp only [RepC]))) hn
theorem pe_blt {x : Str} {pos : Pos} {v : Value} (ok : G.Ok) (hv : nsIn G.K mainGlobals x = some none) (hb : bootBuiltins x = some v) (hk : fi.scope.names.lookup x = some .globalImplicit := by rfl) (hn : (x == ("__debug__" : Str)) = false := by decide)
    (hx : x ≠ ("__name__" : Str) := by decide) : PE G n fi σ (.Name x pos) (.val v) σ := .mk fun A env α s _ hE hF =>
  Calls.Name_function_global (by rw [hE.sc]; exact hE.kind) (hE.of hk) (Calls.loadGlobal_builtin (by rw [hE.gl]; exact ok.T.g.keeps hF.gs.base) (mg_none_of ok.X ok.T.g hv)
    (by rw [hE.bi]; exact ok.T.b.keeps hF.gs.base) ((ok.T.builtins x hx).trans hb) (Post.here hF (by simp only [RepC]))) hn
noncomputable def KeepsF (G : Gnd) (h : Heap) (f : Value) : Prop := ∃ k, (k = Keeper.frame ∨ k = Keeper.machine ∨ k = Keeper.boundFrame) ∧ Looks (model G.prog G.w) h (keeperOf f) k
theorem keeps_K' (ok : G.Ok) {f : Value} (hk : keepIn G.K f = true) {h : Heap} (g : Gs G h) : KeepsF G h f := keeps_K hk h (ok.X.keeps g.base)
theorem keeps_blt {id : String} {h : Heap} : KeepsF G h (.builtin id) := ⟨.machine, .inr (.inl rfl), Looks.of_pure rfl⟩
theorem keeps_type {id : String} {h : Heap} : KeepsF G h (.type id) := ⟨.machine, .inr (.inl rfl), Looks.of_pure rfl⟩
theorem keeps_fn {h : Heap} {a : Addr} {o : Obj} {fd : FuncData} (ho : h.get? a = some o) (hd : o.data = .func fd) : KeepsF G h (.ref a) :=
  ⟨.frame, .inl rfl, fun A Q E s k q => by
    unfold keeperOf
    refine wpAny_bind (wpAny_load (k _ _ ho) ?_)
    rw [hd]; exact wpAny_pure q⟩
theorem evalArgs_all {M : Model} {E : Value → Shared → Prop} {f : Value} {args : List (Bool × Sem Value)} {kws : List (Option Str × Sem Value)} {Q : Args → Shared → Prop} (hp : args.any (·.1) = false) (hall : kws.all (·.1.isSome) = true)
    (h : wpAny M A (spliced args) (fun vs s₁ => wpAny M A (evalAll (kws.map (·.2))) (fun ks s₂ => Q ⟨vs, (kws.filterMap (·.1)).zip ks⟩ s₂) E s₁) E s) : wpAny M A (evalArgs f true args kws) Q E s := by
  match args, hp with
  | [], _ =>
    unfold evalArgs
    show wpAny M A (spliced [] >>= _) Q E s
    refine wpAny_bind (wpAny_mono h (fun vs s' h' => ?_) fun _ _ x => x)
    refine wpAny_bind (wpAny_pure ?_)
    refine wpAny_holding ?_
    rw [if_pos hall]
    refine wpAny_bind (wpAny_mono h' (fun kvs s₂ h₂ => ?_) fun _ _ x => x)
    exact wpAny_bind (wpAny_pure (wpAny_pure h₂))
  | (false, x) :: r, _ => exact evalArgs_kwB hall h
  | (true, x) :: r, hp => simp at hp
/-- a call that the frame makes -/
structure CallOk (G : Gnd) (n : Nat) (fi : Fi) (σ : AS) (f : Value) (ds : List D) (ns : List Str) (ks : List D) (d : D) (σ' : AS) : Prop where
  run : ∀ A env α s vals kvals, OKA n A → EnvOk env fi → Fm G env σ α s → Reps env α s.heap ds vals → Reps env α s.heap ks kvals → wpAny (model G.prog G.w) A (call f vals (ns.zip kvals)) (Post G env α s σ' (RD d)) bot s
theorem EvCallQ {Q : Value → Shared → Prop} {f : Value} {first : List Value} {fds : List D} {args : List Expr} {kws : List Keyword} {pos : Pos} {ds ks : List D} (hE : EnvOk env fi) (hA : OKA n A) (hF : Fm G env σ α s) (hf : Reps env α s.heap fds first)
    (ha : PEs G n fi σ args ds σ₁) (hk : PKs G n fi σ₁ kws ks σ₂) (keep : ∀ h, Gs G h → (∀ a o, Frz o → s.heap.get? a = some o → h.get? a = some o) → KeepsF G h f) (hc : ∀ β s₁ vals kvals, Sp G α s s₁ → (∀ b ∈ β, s.heap.get? b = none) → Fm G env σ₂ (α ++ β) s₁ → Reps env (α ++ β) s₁.heap (fds ++ ds) vals → Reps env (α ++ β) s₁.heap ks kvals → wpAny (model G.prog G.w) A (call f vals ((kws.filterMap (·.arg)).zip kvals)) Q bot s₁)
    (hp : (backTo pos (starEach args env)).any (·.1) = false) (hall : kws.all (·.arg.isSome) = true) :
    wpAny (model G.prog G.w) A (callWith pos f first (backTo pos (starEach args env)) (backToKw pos (keywordEach kws env))) Q bot s := by
  have knames : ∀ kws : List Keyword, (backToKw pos (keywordEach kws env)).filterMap (·.1) = kws.filterMap (·.arg) := by
    intro kws
    induction kws with
    | nil => rfl
    | cons k r ih =>
      obtain ⟨x, v, p⟩ := k
      show ((x, _) :: backToKw pos (keywordEach r env)).filterMap (·.1) = _
      cases x <;> simp [ih]
  have kall : ∀ kws : List Keyword, kws.all (·.arg.isSome) = true → (backToKw pos (keywordEach kws env)).all (·.1.isSome) = true := by
    intro kws
    induction kws with
    | nil => intro _; rfl
    | cons k r ih =>
      obtain ⟨x, v, p⟩ := k
      intro h
      simp only [List.all_cons, Bool.and_eq_true] at h
      show ((x, _) :: backToKw pos (keywordEach r env)).all (·.1.isSome) = true
      simp only [List.all_cons, Bool.and_eq_true]
      exact ⟨h.1, ih h.2⟩
  have kany : (backToKw pos (keywordEach kws env)).any (·.1.isNone) = false := by
    have := kall kws hall
    rw [List.any_eq_false]
    intro x hx
    have := List.all_eq_true.mp this x hx
    simp only [Option.isSome_iff_ne_none] at this
    simpa using this
  refine callWith_of (P := fun h => KeepsF G h f) (by rw [hp, kany]; rfl) (fun h x => x) (evalArgs_all hp (kall kws hall) ?_)
  refine seq2 (ha.run pos A env α s hA hE hF) fun vs β s₁ sp hb F1 r1 => seq2 (hk.run pos A env _ s₁ hA hE F1) fun kvs γ s₂ sp2 hb2 F2 r2 => ?_
  have fr : ∀ a o, Frz o → s.heap.get? a = some o → s₂.heap.get? a = some o := fun a o f e => (F1.labs.frz F1.gs sp2) a o f ((hF.labs.frz hF.gs sp) a o f e)
  refine ⟨keep _ F2.gs fr, ?_⟩
  rw [knames]
  refine hc (β ++ γ) s₂ (first ++ vs) kvs (sp.trans' hb sp2) (fun b h => ?_) (by rw [← List.append_assoc]; exact F2) (by rw [← List.append_assoc]; exact (F1.stills sp2 hb2 (hF.stills sp hb hf)).append (F1.stills sp2 hb2 r1)) (by rw [← List.append_assoc]; exact r2)
  rcases List.mem_append.mp h with h | h
  · exact hb b h
  · exact sp.gone (hb2 b h)
theorem EvCall {f : Value} {first : List Value} {fds : List D} {args : List Expr} {kws : List Keyword} {pos : Pos} {ds ks : List D} {d : D} (hE : EnvOk env fi) (hA : OKA n A) (hF : Fm G env σ α s) (hf : Reps env α s.heap fds first)
    (ha : PEs G n fi σ args ds σ₁) (hk : PKs G n fi σ₁ kws ks σ₂) (keep : ∀ h, Gs G h → (∀ a o, Frz o → s.heap.get? a = some o → h.get? a = some o) → KeepsF G h f) (hc : CallOk G n fi σ₂ f (fds ++ ds) (kws.filterMap (·.arg)) ks d σ₃)
    (hp : (backTo pos (starEach args env)).any (·.1) = false) (hall : kws.all (·.arg.isSome) = true) :
    wpAny (model G.prog G.w) A (callWith pos f first (backTo pos (starEach args env)) (backToKw pos (keywordEach kws env))) (Post G env α s σ₃ (RD d)) bot s :=
  EvCallQ hE hA hF hf ha hk keep (fun β s₁ vals kvals sp hb F1 r1 r2 => wpAny_mono (hc.run A env _ s₁ vals kvals hA hE F1 r1 r2) (fun _ _ x => Post.up sp hb x) fun _ _ x => x) hp hall
theorem ev_callQ {Q : Value → Shared → Prop} {fe : Expr} {args : List Expr} {kws : List Keyword} {pos : Pos} {f : Value} {ds ks : List D} (hE : EnvOk env fi) (hA : OKA n A) (hF : Fm G env σ α s) (hf : PE G n fi σ fe (.val f) σ₁) (ha : PEs G n fi σ₁ args ds σ₂) (hk : PKs G n fi σ₂ kws ks σ₃)
    (keep : ∀ h, Gs G h → KeepsF G h f) (hc : ∀ β s₁ vals kvals, Sp G α s s₁ → (∀ b ∈ β, s.heap.get? b = none) → Fm G env σ₃ (α ++ β) s₁ → Reps env (α ++ β) s₁.heap ds vals → Reps env (α ++ β) s₁.heap ks kvals → wpAny (model G.prog G.w) A (call f vals ((kws.filterMap (·.arg)).zip kvals)) Q bot s₁)
    (he : ∀ env, eval (.Call fe args kws pos) env = (do callWith pos (← eval fe env) [] (backTo pos (starEach args env)) (backToKw pos (keywordEach kws env))) := by intro _; rfl)
    (hp : ∀ env, (backTo pos (starEach args env)).any (·.1) = false := by intro _; rfl) (hall : kws.all (·.arg.isSome) = true := by rfl) : wpAny (model G.prog G.w) A (eval (.Call fe args kws pos) env) Q bot s := by
  rw [he]
  refine wpAny_bind (seq2 (hf.run A env α s hA hE hF) fun v β s₁ sp hb F1 r1 => ?_)
  simp only [RepC] at r1; subst r1
  refine EvCallQ (fds := []) hE hA F1 (by simp only [RepsC]) ha hk (fun h g _ => keep h g) (fun γ s₂ vals kvals sp2 hb2 F2 r2 r3 => ?_) (hp env) hall
  refine hc (β ++ γ) s₂ vals kvals (sp.trans' hb sp2) (fun b h => ?_) (by rw [← List.append_assoc]; exact F2) (by rw [← List.append_assoc]; exact r2) (by rw [← List.append_assoc]; exact r3)
  rcases List.mem_append.mp h with h | h
  · exact hb b h
  · exact sp.gone (hb2 b h)
theorem pe_call {fe : Expr} {args : List Expr} {kws : List Keyword} {pos : Pos} {f : Value} {ds ks : List D} {d : D} (hf : PE G n fi σ fe (.val f) σ₁) (ha : PEs G n fi σ₁ args ds σ₂) (hk : PKs G n fi σ₂ kws ks σ₃)
    (keep : ∀ h, Gs G h → KeepsF G h f) (hc : CallOk G n fi σ₃ f ds (kws.filterMap (·.arg)) ks d σ₄)
    (he : ∀ env, eval (.Call fe args kws pos) env = (do callWith pos (← eval fe env) [] (backTo pos (starEach args env)) (backToKw pos (keywordEach kws env))) := by intro _; rfl)
    (hp : ∀ env, (backTo pos (starEach args env)).any (·.1) = false := by intro _; rfl) (hall : kws.all (·.arg.isSome) = true := by rfl) : PE G n fi σ (.Call fe args kws pos) d σ₄ := .mk fun A env α s hA hE hF => by
  show wpAny _ A (eval (.Call fe args kws pos) env) _ _ _
  rw [he]
  refine wpAny_bind (seq2 (hf.run A env α s hA hE hF) fun v β s₁ sp hb F1 r1 => ?_)
  simp only [RepC] at r1; subst r1
  exact seq2 (EvCall (fds := []) hE hA F1 (by simp only [RepsC]) ha hk (fun h g _ => keep h g) (by simpa using hc) (hp env) hall) fun w δ s₃ sp3 hb3 F3 r3 => Post.up sp hb ⟨δ, sp3, hb3, F3, r3⟩
/-- the call of a function object that the frame holds (a lambda) -/
theorem pe_callFn {fe : Expr} {args : List Expr} {pos : Pos} {ds : List D} {d : D} {name qual : Str} {params : Arguments} {body : FuncBody} {scope : Scope} (hf : PE G n fi σ fe (.fn name qual params body scope) σ₁) (ha : PEs G n fi σ₁ args ds σ₂)
    (hc : ∀ A env α s f vals, OKA n A → EnvOk env fi → Fm G env σ₂ α s → Rep env α s.heap (.fn name qual params body scope) f → Reps env α s.heap ds vals → wpAny (model G.prog G.w) A (call f vals) (Post G env α s σ₃ (RD d)) bot s)
    (he : ∀ env, eval (.Call fe args [] pos) env = (do callWith pos (← eval fe env) [] (backTo pos (starEach args env)) (backToKw pos (keywordEach [] env))) := by intro _; rfl)
    (hp : ∀ env, (backTo pos (starEach args env)).any (·.1) = false := by intro _; rfl) : PE G n fi σ (.Call fe args [] pos) d σ₃ := .mk fun A env α s hA hE hF => by
  show wpAny _ A (eval (.Call fe args [] pos) env) _ _ _
  rw [he]
  refine wpAny_bind (seq2 (hf.run A env α s hA hE hF) fun v β s₁ sp hb F1 r1 => ?_)
  have r1' := r1
  simp only [RepC] at r1'
  obtain ⟨a, doc, pm, cdv, ct, rfl, ho, hcd⟩ := r1'
  refine callWith_of (P := fun h => KeepsF G h (.ref a)) (by rw [hp]; rfl) (fun h x => x) (evalArgs_all (hp env) rfl ?_)
  refine seq2 (ha.run pos A env _ s₁ hA hE F1) fun vs γ s₂ sp2 hb2 F2 r2 => wpAny_evalAll_nil ?_
  refine ⟨keeps_fn ((F1.labs.frz F1.gs sp2) _ _ (.inr (.inl ⟨_, rfl⟩)) ho) rfl, ?_⟩
  exact seq2 (hc A env _ s₂ (.ref a) vs hA hE F2 (F1.still sp2 hb2 r1) r2) fun w δ s₃ sp3 hb3 F3 r3 => Post.up sp hb (Post.up sp2 hb2 ⟨δ, sp3, hb3, F3, r3⟩)
end
end
section
noncomputable def AS.set (σ : AS) (x : Str) (d : D) : AS := { σ with loc := (x, d) :: σ.loc }
noncomputable def AS.setc (σ : AS) (x : Str) (d : D) : AS := { σ with cel := (x, d) :: σ.cel }
inductive Out where
  | next (σ : AS) | brk (σ : AS) | cont (σ : AS) | ret (d : D) (σ : AS)
noncomputable def Out.st : Out → AS
  | .next σ => σ | .brk σ => σ | .cont σ => σ | .ret _ σ => σ
noncomputable def FlowOk (X : List Addr) (α : List Addr) (h : Heap) : Out → Flow → Prop
  | .next _, fl => fl = .next
  | .brk _, fl => fl = .brk
  | .cont _, fl => fl = .cont
  | .ret d _, fl => ∃ v, fl = .ret v ∧ RepC X (some α) h d v
section
variable {τ : Type} {G : Gnd} {n m : Nat} {fi : Fi} {env : Env} {A : Around} {α β : List Addr} {s s₁ s₂ s' : Shared} {σ σ₁ σ₂ σ₃ σ₄ : AS}
inductive SPost (G : Gnd) (env : Env) (α : List Addr) (s : Shared) (Q : Out → Prop) (fl : Flow) (s' : Shared) : Prop
  | mk (o : Out) (β : List Addr) (q : Q o) (sp : Sp G (foot env α) s s') (hb : ∀ b ∈ β, s.heap.get? b = none) (F : Fm G env o.st (α ++ β) s') (fo : FlowOk (xsOf env) (α ++ β) s'.heap o fl)
structure SE (G : Gnd) (n : Nat) (fi : Fi) (σ : AS) (ss : List Stmt) (Q : Out → Prop) : Prop where
  run : ∀ A env α s, OKA n A → EnvOk env fi → Fm G env σ α s → wpAny (model G.prog G.w) A (execs ss env) (SPost G env α s Q) bot s
structure S1 (G : Gnd) (n : Nat) (fi : Fi) (σ : AS) (st : Stmt) (Q : Out → Prop) : Prop where
  run : ∀ A env α s, OKA n A → EnvOk env fi → Fm G env σ α s → wpAny (model G.prog G.w) A (exec st env) (SPost G env α s Q) bot s
theorem foot_more : ∀ b ∈ foot env (α ++ β), b ∈ foot env α ∨ b ∈ β := fun b h => by
  unfold foot at h ⊢
  simp only [List.mem_cons, List.mem_append] at h ⊢
  rcases h with h | h | h | h
  · exact .inl (.inl h)
  · exact .inl (.inr (.inl h))
  · exact .inl (.inr (.inr h))
  · exact .inr h
theorem Sp.footTrans (x : Sp G (foot env α) s s₁) (hb : ∀ b ∈ β, s.heap.get? b = none) (y : Sp G (foot env (α ++ β)) s₁ s₂) : Sp G (foot env α) s s₂ := by
  obtain ⟨⟨h, t, dr, rfl⟩, k, l⟩ := x
  obtain ⟨⟨h', t', dr', rfl⟩, k', l'⟩ := y
  refine ⟨⟨h', t', _, rfl⟩, fun b o hf ht e => k' b o (fun q => ?_) ht (k b o hf ht e), fun b e => l' b (l b e)⟩
  rcases foot_more b q with q | q
  · exact hf q
  · rw [hb b q] at e; cases e
theorem Sp.foot (x : Sp G α s s₁) : Sp G (foot env α) s s₁ := x.narrow fun b h => .inl (sub_foot b h)
theorem SPost.up {Q : Out → Prop} {fl : Flow} (sp : Sp G (foot env α) s s₁) (hb : ∀ b ∈ β, s.heap.get? b = none) (x : SPost G env (α ++ β) s₁ Q fl s') : SPost G env α s Q fl s' := by
  obtain ⟨o, γ, q, sp', hb', F, r⟩ := x
  refine ⟨o, β ++ γ, q, sp.footTrans hb sp', fun b h => ?_, by rw [← List.append_assoc]; exact F, by rw [← List.append_assoc]; exact r⟩
  rcases List.mem_append.mp h with h | h
  · exact hb b h
  · exact sp.gone (hb' b h)
theorem SPost.here {Q : Out → Prop} {fl : Flow} {o : Out} (q : Q o) (F : Fm G env o.st α s) (r : FlowOk (xsOf env) α s.heap o fl) : SPost G env α s Q fl s :=
  ⟨o, [], q, .refl, (fun _ h => nomatch h), by rw [List.append_nil]; exact F, by rw [List.append_nil]; exact r⟩
theorem se_nil {Q : Out → Prop} (h : Q (.next σ)) : SE G n fi σ [] Q := .mk fun A env α s _ _ F => wpAny_execs_nil (SPost.here h F rfl)
noncomputable def onNext (k : AS → Prop) (Q : Out → Prop) : Out → Prop
  | .next σ => k σ
  | o => Q o
theorem se_cons {st : Stmt} {r : List Stmt} {Q : Out → Prop} (h : S1 G n fi σ st (onNext (fun σ' => SE G n fi σ' r Q) Q)) : SE G n fi σ (st :: r) Q := .mk fun A env α s hA hE F =>
  wpAny_execs_cons (wpAny_mono (h.run A env α s hA hE F) (fun fl s₁ x => by
    obtain ⟨o, β, q, sp, hb, F1, fo⟩ := x
    cases o with
    | next σ' => cases fo; exact wpAny_mono (q.run A env _ s₁ hA hE F1) (fun _ _ x => SPost.up sp hb x) fun _ _ x => x
    | brk σ' => cases fo; exact ⟨.brk σ', β, q, sp, hb, F1, rfl⟩
    | cont σ' => cases fo; exact ⟨.cont σ', β, q, sp, hb, F1, rfl⟩
    | ret d σ' => obtain ⟨v, rfl, r⟩ := fo; exact ⟨.ret d σ', β, q, sp, hb, F1, v, rfl, r⟩) fun _ _ x => x)
theorem SE.mono {ss : List Stmt} {Q Q' : Out → Prop} (h : SE G n fi σ ss Q) (k : ∀ o, Q o → Q' o) : SE G n fi σ ss Q' := .mk fun A env α s hA hE F =>
  wpAny_mono (h.run A env α s hA hE F) (fun _ _ ⟨o, β, q, a, b, c, d⟩ => ⟨o, β, k o q, a, b, c, d⟩) fun _ _ x => x
theorem S1.mono {st : Stmt} {Q Q' : Out → Prop} (h : S1 G n fi σ st Q) (k : ∀ o, Q o → Q' o) : S1 G n fi σ st Q' := .mk fun A env α s hA hE F =>
  wpAny_mono (h.run A env α s hA hE F) (fun _ _ ⟨o, β, q, a, b, c, d⟩ => ⟨o, β, k o q, a, b, c, d⟩) fun _ _ x => x
theorem Gs.same {F : List Addr} {h h' : Heap} (gs : Gs G h) (hl : ∀ b, (h.get? b).isSome → (h'.get? b).isSome) (hk : ∀ b o, b ∉ F → h.get? b = some o → h'.get? b = some o) (hF : ∀ a ∈ F, G.g0.get? a = none ∧ a ∉ G.TB ∧ ∀ o, h.get? a = some o → ¬ Frz o) : Gs G h' := by
  refine ⟨fun b o e => hk b o (fun q => by rw [(hF b q).1] at e; cases e) (gs.base b o e), fun q hq => ?_, fun q hq => let ⟨f, e⟩ := gs.fx q hq; ⟨f, hk _ _ (fun z => (hF _ z).2.2 _ e f) e⟩⟩
  obtain ⟨ps, h1, h2⟩ := gs.tabs q hq
  refine ⟨ps, hk _ _ (fun z => (hF _ z).2.1 (List.mem_map_of_mem hq)) h1, h2.imp id fun ⟨c', e, r⟩ => ⟨c', e, ?_⟩⟩
  exact frz_code (fun a o f e => hk a o (fun z => (hF a z).2.2 o e f) e) r
theorem Gs.all {h h' : Heap} (gs : Gs G h) (hk : ∀ b o, h.get? b = some o → h'.get? b = some o) : Gs G h' := gs.same (F := []) (fun b e => by obtain ⟨o, ho⟩ := Option.isSome_iff_exists.mp e; rw [hk b o ho]; rfl) (fun b o _ e => hk b o e) fun _ h => nomatch h
theorem Fm.ltb (F : Fm G env σ α s) : env.locals ∉ G.TB := fun q => by
  obtain ⟨r, hr, e⟩ := List.mem_map.mp q
  obtain ⟨ps, h1, _⟩ := F.gs.tabs r hr
  obtain ⟨m, ⟨o', es, n, h2, h3, _⟩, _⟩ := F.loc
  rw [e, h2] at h1; cases h1; cases h3
theorem Fm.ctb (F : Fm G env σ α s) {c : Addr} (hc : c ∈ env.cells.map (·.2)) : c ∉ G.TB := fun q => by
  obtain ⟨r, hr, e⟩ := List.mem_map.mp q
  obtain ⟨ps, h1, _⟩ := F.gs.tabs r hr
  obtain ⟨v, o, h2, h3⟩ := F.cells c hc
  rw [e, h2] at h1; cases h1; cases h3
theorem Fm.lc (F : Fm G env σ α s) {c : Addr} (hc : c ∈ env.cells.map (·.2)) : c ≠ env.locals := fun q => by
  obtain ⟨m, ⟨o', es, n, h2, h3, _⟩, _⟩ := F.loc
  obtain ⟨v, o, h4, h5⟩ := F.cells c hc
  rw [q, h2] at h4; cases h4; rw [h3] at h5; cases h5
theorem Fm.notL (F : Fm G env σ α s) : ∀ o, s.heap.get? env.locals = some o → ¬ Frz o := F.footNot _ (.head _)
theorem Fm.live (F : Fm G env σ α s) {a : Addr} (ha : a ∈ α) : ∃ o, s.heap.get? a = some o := let ⟨o, h, _⟩ := F.labs.notFrz ha; ⟨o, h⟩
theorem mem_cells {x : Str} {c : Addr} (h : env.cells.lookup x = some c) : c ∈ env.cells.map (·.2) := List.mem_map.mpr ⟨(x, c), mem_of_lookup h, rfl⟩
/-- the rest of a frame when one address of its own has changed -/
theorem Fm.one {a : Addr} {h' : Heap} {t : Nat} (F : Fm G env σ α s) (hl : (h'.get? a).isSome) (hs : ∀ b o, b ≠ a → s.heap.get? b = some o → h'.get? b = some o) (ha : a ∈ env.locals :: env.cells.map (·.2)) :
    Gs G h' ∧ Labs G α h' σ.H ∧ FrzKeep s.heap h' ∧ LstKeep (xsOf env) (some α) s.heap h' := by
  have hnf : ∀ o, s.heap.get? a = some o → ¬ Frz o := fun o e => by
    rcases List.mem_cons.mp ha with rfl | ha
    · obtain ⟨m, ⟨o', es, n, h1, h2, _⟩, _⟩ := F.loc
      rw [e] at h1; cases h1; exact fun f => f.not_dict h2
    · obtain ⟨v, o', h1, h2⟩ := F.cells a ha
      rw [e] at h1; cases h1; exact fun f => f.not_cell h2
  have hna : a ∉ α := by
    rcases List.mem_cons.mp ha with rfl | ha
    · exact F.la
    · exact F.ca a ha
  have hg : G.g0.get? a = none := by
    rcases List.mem_cons.mp ha with rfl | ha
    · exact F.lg
    · exact F.cg a ha
  have ht : a ∉ G.TB := by
    rcases List.mem_cons.mp ha with rfl | ha
    · exact F.ltb
    · exact F.ctb ha
  have fk : FrzKeep s.heap h' := fun b o f e => hs b o (fun q => hnf o (q ▸ e) f) e
  have lk : LstKeep (xsOf env) (some α) s.heap h' := fun _ _ b o _ hx _ e => hs b o (fun q => hx (q ▸ ha)) e
  refine ⟨F.gs.same (F := [a]) (fun b e => by
    by_cases q : b = a
    · rw [q]; exact hl
    · obtain ⟨o, ho⟩ := Option.isSome_iff_exists.mp e; rw [hs b o q ho]; rfl) (fun b o hb e => hs b o (fun q => hb (by simp [q])) e) fun b hb => ?_, ?_, fk, lk⟩
  · obtain rfl := List.mem_singleton.mp hb
    exact ⟨hg, ht, hnf⟩
  · have := F.labs
    exact ⟨this.len, this.nd, fun i b c h1 h2 => by
      have := (F.labs.ok i b c h1 h2).still (β := []) fk (fun _ h => nomatch h) (fun o e => hs b o (fun q => hna (q ▸ List.mem_of_getElem? h1)) e)
      rwa [List.append_nil] at this, this.g0, this.tb⟩
/-- a name is stored -/
structure SN (G : Gnd) (n : Nat) (fi : Fi) (σ : AS) (x : Str) (d : D) (σ' : AS) : Prop where
  run : ∀ A env α s v, OKA n A → EnvOk env fi → Fm G env σ α s → Rep env α s.heap d v → wpAny (model G.prog G.w) A (storeName env x v) (fun _ s' => Sp G (env.locals :: ownC env) s s' ∧ Fm G env σ' α s') bot s
theorem sn_loc {x : Str} {d : D} (hk : fi.scope.names.lookup x = some .local := by rfl) : SN G n fi σ x d (σ.set x d) := .mk fun A env α s v hA hE F r => by
  obtain ⟨m, hm, hr⟩ := F.loc
  refine wpAny_storeName_local (hE.of hk) hm (fun h' hn hs => ?_) (by rw [hE.sc, hE.kind]; rfl)
  obtain ⟨gs, lb, fk, lk⟩ := F.one (t := 0) (a := env.locals) (by obtain ⟨o, _, _, ho, _⟩ := hn; rw [ho]; rfl) (fun b o hb e => hs.extBut b o hb e) (.head _)
  have g : ∀ {d : D} {v : Value}, Rep env α s.heap d v → Rep env α h' d v := fun {d v} r => by
    have := RepC.still (c' := some (α ++ [])) fk lk (grow_of fun _ h => nomatch h) r
    rwa [List.append_nil] at this
  refine ⟨⟨⟨h', _, _, rfl⟩, fun b o hb _ e => hs.extBut b o (fun q => hb (by simp [q])) e, fun b e => ?_⟩, gs, lb, ⟨_, hn, fun y e he => ?_⟩, fun y e he => ?_, fun c hc => ?_, F.nd, F.la, F.ca, F.lg, F.cg⟩
  · by_cases q : b = env.locals
    · obtain ⟨o, _, _, ho, _⟩ := hn; rw [q, ho]; rfl
    · obtain ⟨o, ho⟩ := Option.isSome_iff_exists.mp e; rw [hs.extBut b o q ho]; rfl
  · simp only [AS.set, List.lookup_cons] at he
    split at he
    · rename_i q
      cases he
      exact ⟨v, by simp [beq_iff_eq.mp q], g r⟩
    · rename_i q
      obtain ⟨u, h1, h2⟩ := hr y e he
      refine ⟨u, ?_, g h2⟩
      have : ¬ y = x := fun z => by rw [z] at q; simp at q
      simp [this, h1]
  · obtain ⟨c, u, h1, ⟨o, h2, h2'⟩, h3⟩ := F.cel y e he
    exact ⟨c, u, h1, ⟨o, hs.extBut _ _ (F.lc (mem_cells h1)) h2, h2'⟩, g h3⟩
  · obtain ⟨u, o, h2, h2'⟩ := F.cells c hc
    exact ⟨u, o, hs.extBut _ _ (F.lc hc) h2, h2'⟩
theorem sn_cel {x : Str} {d : D} (hk : fi.scope.names.lookup x = some .cell := by rfl) (ho : fi.own = true := by rfl) : SN G n fi σ x d (σ.setc x d) := .mk fun A env α s v hA hE F r => by
  obtain ⟨c, hc⟩ := hE.cl ho x hk
  have hcm := mem_cells hc
  have hown : c ∈ ownC env := List.mem_map.mpr ⟨(x, c), List.mem_filter.mpr ⟨mem_of_lookup hc, by rw [hE.sc, hk]; rfl⟩, rfl⟩
  obtain ⟨v₀, hv₀⟩ := F.cells c hcm
  refine wpAny_storeName_cell (by rw [hE.sc]; exact hE.kind) (hE.of hk) hc hv₀ fun h' hn hs => ?_
  obtain ⟨gs, lb, fk, lk⟩ := F.one (t := 0) (a := c) (by obtain ⟨o, ho, _⟩ := hn; rw [ho]; rfl) (fun b o hb e => hs.extBut b o hb e) (.tail _ hcm)
  have g : ∀ {d : D} {v : Value}, Rep env α s.heap d v → Rep env α h' d v := fun {d v} r => by
    have := RepC.still (c' := some (α ++ [])) fk lk (grow_of fun _ h => nomatch h) r
    rwa [List.append_nil] at this
  refine ⟨⟨⟨h', _, _, rfl⟩, fun b o hb _ e => hs.extBut b o (fun q => hb (q ▸ .tail _ hown)) e, fun b e => ?_⟩, gs, lb, ?_, fun y e he => ?_, fun c' hc' => ?_, F.nd, F.la, F.ca, F.lg, F.cg⟩
  · by_cases q : b = c
    · obtain ⟨o, ho, _⟩ := hn; rw [q, ho]; rfl
    · obtain ⟨o, ho⟩ := Option.isSome_iff_exists.mp e; rw [hs.extBut b o q ho]; rfl
  · obtain ⟨m, hm, hr⟩ := F.loc
    exact ⟨m, hm.at' fun o e => hs.extBut _ _ (fun q => F.lc hcm q.symm) e, fun y e he => let ⟨u, h1, h2⟩ := hr y e he; ⟨u, h1, g h2⟩⟩
  · simp only [AS.setc, List.lookup_cons] at he
    split at he
    · rename_i q
      cases he
      exact ⟨c, v, by rw [beq_iff_eq.mp q]; exact hc, hn, g r⟩
    · rename_i q
      obtain ⟨c', u, h1, ⟨o, h2, h2'⟩, h3⟩ := F.cel y e he
      refine ⟨c', u, h1, ⟨o, hs.extBut _ _ (fun z => ?_) h2, h2'⟩, g h3⟩
      subst z
      have : y = x := by
        have pw : env.cells.Pairwise fun x y => x.2 ≠ y.2 := List.pairwise_map.mp F.nd
        exact name_of_addr pw (mem_of_lookup h1) (mem_of_lookup hc)
      rw [this] at q; simp at q
  · by_cases q : c' = c
    · rw [q]; exact ⟨_, hn⟩
    · obtain ⟨u, o, h2, h2'⟩ := F.cells c' hc'
      exact ⟨u, o, hs.extBut _ _ q h2, h2'⟩
theorem locFoot {h : Sp G (env.locals :: ownC env) s s'} : Sp G (foot env α) s s' := h.narrow fun b hb => .inl (by
  unfold foot
  simp only [List.mem_cons, List.mem_append] at hb ⊢
  rcases hb with h | h
  · exact .inl h
  · exact .inr (.inl h))
theorem s_assign {x : Str} {p pos : Pos} {e : Expr} {d : D} {Q : Out → Prop} (h : PE G n fi σ e d σ₁) (hs : SN G n fi σ₁ x d σ₂) (q : Q (.next σ₂))
    (hw : ∀ env, EnvOk env fi → swapsWith e (some (.Name x p)) pos.line env = pure false := by intro _ _; rfl) : S1 G n fi σ (.Assign [.Name x p] e pos) Q := .mk fun A env α s hA hE F =>
  wpAny_Assign_Name (seq2 (h.run A env α s hA hE F) fun v β s₁ sp hb F1 r1 => wpAny_mono (hs.run A env _ s₁ v hA hE F1 r1) (fun _ s₂ ⟨sp2, F2⟩ =>
    SPost.up sp.foot hb ⟨.next σ₂, [], q, locFoot (h := sp2), (fun _ h => nomatch h), by rw [List.append_nil]; exact F2, rfl⟩) fun _ _ x => x) (hw env hE)
theorem ln_loc {x : Str} {d : D} (hk : fi.scope.names.lookup x = some .local := by rfl) (hd : σ.loc.lookup x = some d := by rfl) : Ev G n fi σ (fun env => loadName env x) σ (RD d) := fun A env α s _ hE hF => by
  obtain ⟨m, hm, hr⟩ := hF.loc
  obtain ⟨v, h1, h2⟩ := hr x d hd
  exact wpAny_loadName_local (by rw [hE.sc]; exact hE.kind) (hE.of hk) hm h1 (Post.here hF h2)
theorem s_aug {x : Str} {p pos : Pos} {op : Operator} {e : Expr} {a b d : D} {Q : Out → Prop} (h0 : Ev G n fi σ (fun env => loadName env x) σ (RD a)) (h : PE G n fi σ e b σ₁) (ho : O2 G n fi σ₁ (inplaceOp op) a b d σ₂) (hs : SN G n fi σ₂ x d σ₃) (q : Q (.next σ₃)) :
    S1 G n fi σ (.AugAssign (.Name x p) op e pos) Q := .mk fun A env α s hA hE F =>
  wpAny_AugAssign_Name (seq2 (h0 A env α s hA hE F) fun u β s₁ sp hb F1 r1 => seq2 (h.run A env _ s₁ hA hE F1) fun v γ s₂ sp2 hb2 F2 r2 => seq2 (ho.run A env _ s₂ u v hA hE F2 (F1.still sp2 hb2 r1) r2) fun w δ s₃ sp3 hb3 F3 r3 =>
      wpAny_mono (hs.run A env _ s₃ w hA hE F3 r3) (fun _ s₄ ⟨sp4, F4⟩ => SPost.up sp.foot hb (SPost.up sp2.foot hb2 (SPost.up sp3.foot hb3
        ⟨.next σ₃, [], q, locFoot (h := sp4), (fun _ h => nomatch h), by rw [List.append_nil]; exact F4, rfl⟩))) fun _ _ x => x)
theorem s_ret {e : Expr} {pos : Pos} {d : D} {Q : Out → Prop} (h : PE G n fi σ e d σ₁) (q : Q (.ret d σ₁)) : S1 G n fi σ (.Return (some e) pos) Q := .mk fun A env α s hA hE F =>
  wpAny_Return_some (seq2 (h.run A env α s hA hE F) fun v β s₁ sp hb F1 r1 => ⟨.ret d σ₁, β, q, sp.foot, hb, F1, v, rfl, r1⟩)
theorem s_if {t : Expr} {b : Bool} {x y : List Stmt} {pos : Pos} {Q : Out → Prop} (h : PT G n fi σ t b σ₁) (k : SE G n fi σ₁ (if b then x else y) Q) : S1 G n fi σ (.If t x y pos) Q := .mk fun A env α s hA hE F =>
  wpAny_If (seq2 (h.run A env α s hA hE F) fun v β s₁ sp hb F1 r1 => by
    subst r1
    cases v with
    | true => exact wpAny_mono (k.run A env _ s₁ hA hE F1) (fun _ _ x => SPost.up sp.foot hb x) fun _ _ x => x
    | false => exact wpAny_mono (k.run A env _ s₁ hA hE F1) (fun _ _ x => SPost.up sp.foot hb x) fun _ _ x => x)
/-- a call for its change alone: it gives None, a bool, an int -/
theorem s_expr {e : Expr} {pos : Pos} {d : D} {Q : Out → Prop} (h : PE G n fi σ e d σ₁) (hd : match d with | .none => True | .bool _ => True | .int _ => True | .str _ => True | _ => False) (q : Q (.next σ₁)) (hi : ∀ env, EnvOk env fi → interactive env = false)
    (hw : ∀ env, swapsWith e none pos.line env = pure false := by intro _; rfl) : S1 G n fi σ (.Expr e pos) Q := .mk fun A env α s hA hE F =>
  wpAny_Expr (seq2 (h.run A env α s hA hE F) fun v β s₁ sp hb F1 r1 => by
    have : SPost G env α s Q .next s₁ := ⟨.next σ₁, β, q, sp.foot, hb, F1, rfl⟩
    cases d <;> simp only [RepC] at r1 hd
    · subst r1; exact this
    · subst r1; exact this
    · obtain ⟨t, rfl⟩ := r1; exact this
    · obtain ⟨t, rfl⟩ := r1; exact this) (hi env hE) (hw env)
theorem s_continue {pos : Pos} {Q : Out → Prop} (q : Q (.cont σ)) : S1 G n fi σ (.Continue pos) Q := .mk fun A env α s hA hE F =>
  wpAny_Continue (SPost.here q F rfl)
end
end
section
/-! renaming of labels -/
noncomputable def D.ren (ρ : Nat → Nat) : D → D
  | .ref i => .ref (ρ i)
  | .tup ds => .tup (rens ρ ds)
  | d => d
where rens (ρ : Nat → Nat) : List D → List D
  | [] => []
  | d :: r => D.ren ρ d :: rens ρ r
noncomputable def Cont.ren (ρ : Nat → Nat) : Cont → Cont
  | .inst C j => .inst C (ρ j)
  | .dict es => .dict (es.map fun p => (p.1, p.2.ren ρ))
  | c => c
mutual
theorem RepC.ren {X X' : List Addr} {αc α : List Addr} {ρ : Nat → Nat} {h : Heap} (hl : ∀ i a : Nat, αc[i]? = some a → α[ρ i]? = some a) (hx : ∀ a, a ∉ αc → a ∉ X → a ∉ α ∧ a ∉ X') :
    ∀ {d : D} {v : Value}, RepC X (some αc) h d v → RepC X' (some α) h (d.ren ρ) v
  | .none, _, x => by simpa only [RepC, D.ren] using x
  | .bool _, _, x => by simpa only [RepC, D.ren] using x
  | .int _, _, x => by simpa only [RepC, D.ren] using x
  | .str _, _, x => by simpa only [RepC, D.ren] using x
  | .tup ds, _, x => by
    simp only [RepC, D.ren] at x ⊢
    obtain ⟨a, vs, rfl, ht, hr⟩ := x
    exact ⟨a, vs, rfl, ht, RepsC.ren hl hx hr⟩
  | .lst ds, _, x => by
    simp only [RepC, D.ren] at x ⊢
    obtain ⟨a, vs, α', rfl, hc, hn, hX, hl', hr⟩ := x
    cases hc
    exact ⟨a, vs, α, rfl, rfl, (hx a hn hX).1, (hx a hn hX).2, hl', RepsC.flatX hr⟩
  | .hdr C ds, _, x => by
    simp only [RepC, D.ren] at x ⊢
    obtain ⟨x, dx, l₀, vs, α', n, hs, t, rfl, hc, h1, h2, h3, e1, e2, e3, hr⟩ := x
    cases hc
    exact ⟨x, dx, l₀, vs, α, n, hs, t, rfl, rfl, hx x h1.1 h1.2, hx dx h2.1 h2.2, hx l₀ h3.1 h3.2, e1, e2, e3, RepsC.flatX hr⟩
  | .any, _, x => by simp only [RepC, D.ren]
  | .ref i, _, x => by
    simp only [RepC, D.ren] at x ⊢
    obtain ⟨a, α', hc, hi, rfl⟩ := x
    cases hc
    exact ⟨a, α, rfl, hl i a hi, rfl⟩
  | .val _, _, x => by simpa only [RepC, D.ren] using x
  | .fn .., _, x => by simpa only [RepC, D.ren] using x
theorem RepsC.ren {X X' : List Addr} {αc α : List Addr} {ρ : Nat → Nat} {h : Heap} (hl : ∀ i a : Nat, αc[i]? = some a → α[ρ i]? = some a) (hx : ∀ a, a ∉ αc → a ∉ X → a ∉ α ∧ a ∉ X') :
    ∀ {ds : List D} {vs : List Value}, RepsC X (some αc) h ds vs → RepsC X' (some α) h (D.ren.rens ρ ds) vs
  | [], _, x => by simpa only [RepsC, D.ren.rens] using x
  | d :: ds, _, x => by
    simp only [RepsC, D.ren.rens] at x ⊢
    obtain ⟨v, r, rfl, h1, h2⟩ := x
    exact ⟨v, r, rfl, RepC.ren hl hx h1, RepsC.ren hl hx h2⟩
end
mutual
theorem RepC.unren {X X' : List Addr} {αc α : List Addr} {ρ : Nat → Nat} {h : Heap} (hl : ∀ i a : Nat, α[ρ i]? = some a → αc[i]? = some a) (hx : ∀ a, a ∉ α → a ∉ X' → a ∉ αc ∧ a ∉ X) :
    ∀ {d : D} {v : Value}, RepC X' (some α) h (d.ren ρ) v → RepC X (some αc) h d v
  | .none, _, x => by simpa only [RepC, D.ren] using x
  | .bool _, _, x => by simpa only [RepC, D.ren] using x
  | .int _, _, x => by simpa only [RepC, D.ren] using x
  | .str _, _, x => by simpa only [RepC, D.ren] using x
  | .tup ds, _, x => by
    simp only [RepC, D.ren] at x ⊢
    obtain ⟨a, vs, rfl, ht, hr⟩ := x
    exact ⟨a, vs, rfl, ht, RepsC.unren hl hx hr⟩
  | .lst ds, _, x => by
    simp only [RepC, D.ren] at x ⊢
    obtain ⟨a, vs, α', rfl, hc, hn, hX, hl', hr⟩ := x
    cases hc
    exact ⟨a, vs, αc, rfl, rfl, (hx a hn hX).1, (hx a hn hX).2, hl', RepsC.flatX hr⟩
  | .hdr C ds, _, x => by
    simp only [RepC, D.ren] at x ⊢
    obtain ⟨x, dx, l₀, vs, α', n, hs, t, rfl, hc, h1, h2, h3, e1, e2, e3, hr⟩ := x
    cases hc
    exact ⟨x, dx, l₀, vs, αc, n, hs, t, rfl, rfl, hx x h1.1 h1.2, hx dx h2.1 h2.2, hx l₀ h3.1 h3.2, e1, e2, e3, RepsC.flatX hr⟩
  | .any, _, x => by simp only [RepC, D.ren]
  | .ref i, _, x => by
    simp only [RepC, D.ren] at x ⊢
    obtain ⟨a, α', hc, hi, rfl⟩ := x
    cases hc
    exact ⟨a, αc, rfl, hl i a hi, rfl⟩
  | .val _, _, x => by simpa only [RepC, D.ren] using x
  | .fn .., _, x => by simpa only [RepC, D.ren] using x
theorem RepsC.unren {X X' : List Addr} {αc α : List Addr} {ρ : Nat → Nat} {h : Heap} (hl : ∀ i a : Nat, α[ρ i]? = some a → αc[i]? = some a) (hx : ∀ a, a ∉ α → a ∉ X' → a ∉ αc ∧ a ∉ X) :
    ∀ {ds : List D} {vs : List Value}, RepsC X' (some α) h (D.ren.rens ρ ds) vs → RepsC X (some αc) h ds vs
  | [], _, x => by simpa only [RepsC, D.ren.rens] using x
  | d :: ds, _, x => by
    simp only [RepsC, D.ren.rens] at x ⊢
    obtain ⟨v, r, rfl, h1, h2⟩ := x
    exact ⟨v, r, rfl, RepC.unren hl hx h1, RepsC.unren hl hx h2⟩
end
/-- what a call of f does, for every caller; its lists are new -/
structure Fn (G : Gnd) (n : Nat) (f : Value) (H : List Cont) (args : List D) (kn : List Str) (kws : List D) (d : D) (H' : List Cont) : Prop where
  run : ∀ A α s vals kvals, OKA n A → Gs G s.heap → Labs G α s.heap H → RepsC [] (some α) s.heap args vals → RepsC [] (some α) s.heap kws kvals →
    wpAny (model G.prog G.w) A (call f vals (kn.zip kvals)) (fun v s' => ∃ β, Sp G α s s' ∧ (∀ b ∈ β, s.heap.get? b = none) ∧ Gs G s'.heap ∧ Labs G (α ++ β) s'.heap H' ∧
      ∀ ys : List Addr, (∀ a ∈ ys, (s.heap.get? a).isSome) → RepC ys (some (α ++ β)) s'.heap d v) bot s
noncomputable def selRen (sel : List Nat) (base : Nat) (i : Nat) : Nat := match sel[i]? with | some j => j | none => base + (i - sel.length)
/-- the caller's labels behind the call -/
noncomputable def putSel (ρ : Nat → Nat) : List Nat → List Cont → List Cont → List Cont
  | [], H', H => H ++ H'.map (Cont.ren ρ)
  | j :: sel, c :: H', H => putSel ρ sel H' (H.set j (c.ren ρ))
  | _ :: _, [], H => H
theorem putSel_len (ρ : Nat → Nat) : ∀ (sel : List Nat) (H' H : List Cont), sel.length ≤ H'.length → (putSel ρ sel H' H).length = H.length + (H'.length - sel.length)
  | [], H', H, _ => by simp [putSel]
  | j :: sel, [], H, h => by simp at h
  | j :: sel, c :: H', H, h => by
    rw [putSel, putSel_len ρ sel H' _ (by simpa using h)]
    simp
theorem putSel_get (ρ : Nat → Nat) : ∀ (sel : List Nat) (H' H : List Cont), sel.length ≤ H'.length → sel.Nodup → (∀ j ∈ sel, j < H.length) → ∀ (i : Nat) (c : Cont), (putSel ρ sel H' H)[i]? = some c →
    (∃ (k : Nat) (c' : Cont), sel[k]? = some i ∧ H'[k]? = some c' ∧ c = c'.ren ρ) ∨ (i ∉ sel ∧ H[i]? = some c) ∨ (∃ (k : Nat) (c' : Cont), i = H.length + k ∧ H'[sel.length + k]? = some c' ∧ c = c'.ren ρ)
  | [], H', H, _, _, _, i, c, e => by
    simp only [putSel] at e
    rcases Nat.lt_or_ge i H.length with h | h
    · rw [List.getElem?_append_left h] at e; exact .inr (.inl ⟨by simp, e⟩)
    · rw [List.getElem?_append_right h, List.getElem?_map] at e
      obtain ⟨c', h1, h2⟩ := Option.map_eq_some_iff.mp e
      exact .inr (.inr ⟨i - H.length, c', by omega, by simpa using h1, h2.symm⟩)
  | j :: sel, [], H, h, _, _, _, _, _ => by simp at h
  | j :: sel, c₀ :: H', H, h, nd, hj, i, c, e => by
    rw [putSel] at e
    have nd' := List.nodup_cons.mp nd
    rcases putSel_get ρ sel H' _ (by simpa using h) nd'.2 (fun k hk => by rw [List.length_set]; exact hj k (.tail _ hk)) i c e with ⟨k, c', h1, h2, h3⟩ | ⟨h1, h2⟩ | ⟨k, c', h1, h2, h3⟩
    · exact .inl ⟨k + 1, c', by rw [List.getElem?_cons_succ]; exact h1, by rw [List.getElem?_cons_succ]; exact h2, h3⟩
    · by_cases q : i = j
      · subst q
        rw [List.getElem?_set_self (hj i (.head _))] at h2
        cases h2
        exact .inl ⟨0, c₀, rfl, rfl, rfl⟩
      · rw [List.getElem?_set_ne (Ne.symm q)] at h2
        exact .inr (.inl ⟨by simp [q, h1], h2⟩)
    · exact .inr (.inr ⟨k, c', by rw [List.length_set] at h1; exact h1, by rw [← h2]; simp only [List.length_cons]; rw [show sel.length + 1 + k = (sel.length + k) + 1 from by omega, List.getElem?_cons_succ], h3⟩)
mutual
theorem RepC.nolRen {X X' : List Addr} {αc α : List Addr} {ρ : Nat → Nat} {h : Heap} (hl : ∀ i a : Nat, αc[i]? = some a → α[ρ i]? = some a) : ∀ {d : D} {v : Value}, RepC X (some αc) h d v → d.nol = true → RepC X' (some α) h (d.ren ρ) v
  | .none, _, x, _ => by simpa only [RepC, D.ren] using x
  | .bool _, _, x, _ => by simpa only [RepC, D.ren] using x
  | .int _, _, x, _ => by simpa only [RepC, D.ren] using x
  | .str _, _, x, _ => by simpa only [RepC, D.ren] using x
  | .tup ds, _, x, e => by
    simp only [RepC, D.ren] at x ⊢
    obtain ⟨a, vs, rfl, ht, hr⟩ := x
    exact ⟨a, vs, rfl, ht, RepsC.nolRen hl hr (by simpa only [D.nol] using e)⟩
  | .lst ds, _, x, e => by simp [D.nol] at e
  | .hdr _ _, _, x, e => by simp [D.nol] at e
  | .any, _, x, _ => by simp only [RepC, D.ren]
  | .ref i, _, x, _ => by
    simp only [RepC, D.ren] at x ⊢
    obtain ⟨a, α', hc, hi, rfl⟩ := x
    cases hc
    exact ⟨a, α, rfl, hl i a hi, rfl⟩
  | .val _, _, x, _ => by simpa only [RepC, D.ren] using x
  | .fn .., _, x, _ => by simpa only [RepC, D.ren] using x
theorem RepsC.nolRen {X X' : List Addr} {αc α : List Addr} {ρ : Nat → Nat} {h : Heap} (hl : ∀ i a : Nat, αc[i]? = some a → α[ρ i]? = some a) : ∀ {ds : List D} {vs : List Value}, RepsC X (some αc) h ds vs → D.nol.nols ds = true → RepsC X' (some α) h (D.ren.rens ρ ds) vs
  | [], _, x, _ => by simpa only [RepsC, D.ren.rens] using x
  | d :: ds, _, x, e => by
    simp only [RepsC, D.ren.rens] at x ⊢
    simp only [D.nol.nols, Bool.and_eq_true] at e
    obtain ⟨v, r, rfl, h1, h2⟩ := x
    exact ⟨v, r, rfl, RepC.nolRen hl h1 e.1, RepsC.nolRen hl h2 e.2⟩
end
mutual
theorem RepC.nolUnren {X X' : List Addr} {αc α : List Addr} {ρ : Nat → Nat} {h : Heap} (hl : ∀ i a : Nat, α[ρ i]? = some a → αc[i]? = some a) : ∀ {d : D} {v : Value}, RepC X' (some α) h (d.ren ρ) v → d.nol = true → RepC X (some αc) h d v
  | .none, _, x, _ => by simpa only [RepC, D.ren] using x
  | .bool _, _, x, _ => by simpa only [RepC, D.ren] using x
  | .int _, _, x, _ => by simpa only [RepC, D.ren] using x
  | .str _, _, x, _ => by simpa only [RepC, D.ren] using x
  | .tup ds, _, x, e => by
    simp only [RepC, D.ren] at x ⊢
    obtain ⟨a, vs, rfl, ht, hr⟩ := x
    exact ⟨a, vs, rfl, ht, RepsC.nolUnren hl hr (by simpa only [D.nol] using e)⟩
  | .lst ds, _, x, e => by simp [D.nol] at e
  | .hdr _ _, _, x, e => by simp [D.nol] at e
  | .any, _, x, _ => by simp only [RepC, D.ren]
  | .ref i, _, x, _ => by
    simp only [RepC, D.ren] at x ⊢
    obtain ⟨a, α', hc, hi, rfl⟩ := x
    cases hc
    exact ⟨a, αc, rfl, hl i a hi, rfl⟩
  | .val _, _, x, _ => by simpa only [RepC, D.ren] using x
  | .fn .., _, x, _ => by simpa only [RepC, D.ren] using x
theorem RepsC.nolUnren {X X' : List Addr} {αc α : List Addr} {ρ : Nat → Nat} {h : Heap} (hl : ∀ i a : Nat, α[ρ i]? = some a → αc[i]? = some a) : ∀ {ds : List D} {vs : List Value}, RepsC X' (some α) h (D.ren.rens ρ ds) vs → D.nol.nols ds = true → RepsC X (some αc) h ds vs
  | [], _, x, _ => by simpa only [RepsC, D.ren.rens] using x
  | d :: ds, _, x, e => by
    simp only [RepsC, D.ren.rens] at x ⊢
    simp only [D.nol.nols, Bool.and_eq_true] at e
    obtain ⟨v, r, rfl, h1, h2⟩ := x
    exact ⟨v, r, rfl, RepC.nolUnren hl h1 e.1, RepsC.nolUnren hl h2 e.2⟩
end
theorem D.nol_ren {ρ : Nat → Nat} : ∀ {d : D}, (d.ren ρ).nol = d.nol
  | .none => rfl | .bool _ => rfl | .int _ => rfl | .str _ => rfl | .lst _ => rfl | .hdr _ _ => rfl | .any => rfl | .ref _ => rfl | .val _ => rfl | .fn .. => rfl
  | .tup ds => by simp only [D.ren, D.nol]; exact nols_ren ds
where nols_ren {ρ : Nat → Nat} : ∀ ds : List D, D.nol.nols (D.ren.rens ρ ds) = D.nol.nols ds
  | [] => rfl
  | d :: ds => by simp only [D.ren.rens, D.nol.nols]; rw [D.nol_ren, nols_ren ds]
theorem ContOk.ren {αc α : List Addr} {ρ : Nat → Nat} {h : Heap} {a : Addr} {c : Cont} (hl : ∀ i a : Nat, αc[i]? = some a → α[ρ i]? = some a) (x : ContOk αc h a c) : ContOk α h a (c.ren ρ) := by
  cases c with
  | list ds => exact x
  | inst C j => obtain ⟨d, h1, h2⟩ := x; exact ⟨d, hl _ _ h1, h2⟩
  | dict es =>
    obtain ⟨des, n, h1, h2, h3, h4⟩ := x
    refine ⟨des, n, h1, by simpa using h2, h3, fun i y d hi => ?_⟩
    rw [List.getElem?_map] at hi
    obtain ⟨⟨y', d'⟩, e1, e2⟩ := Option.map_eq_some_iff.mp hi
    cases e2
    obtain ⟨hs, t, v, h5, h0, h6⟩ := h4 i y' d' e1
    exact ⟨hs, t, v, h5, by rw [D.nol_ren]; exact h0, h6.nolRen hl h0⟩
  | obj P => exact x
theorem ContOk.unren {αc α : List Addr} {ρ : Nat → Nat} {h : Heap} {a : Addr} {c : Cont} (hl : ∀ i a : Nat, α[ρ i]? = some a → αc[i]? = some a) (x : ContOk α h a (c.ren ρ)) : ContOk αc h a c := by
  cases c with
  | list ds => exact x
  | inst C j => obtain ⟨d, h1, h2⟩ := x; exact ⟨d, hl _ _ h1, h2⟩
  | dict es =>
    obtain ⟨des, n, h1, h2, h3, h4⟩ := x
    refine ⟨des, n, h1, by simpa using h2, h3, fun i y d hi => ?_⟩
    obtain ⟨hs, t, v, h5, h0, h6⟩ := h4 i y (d.ren ρ) (by rw [List.getElem?_map, hi]; rfl)
    rw [D.nol_ren] at h0
    exact ⟨hs, t, v, h5, h0, h6.nolUnren hl h0⟩
  | obj P => exact x
/-- an argument as the callee sees it: a label of its own, or a list that it only reads -/
noncomputable def ArgOk (σ : AS) (sel : List Nat) (e d : D) : Prop := e = .any ∨ d = e.ren (selRen sel σ.H.length) ∨ ∃ i ds, d = .ref i ∧ e = .lst ds ∧ σ.H[i]? = some (.list ds) ∧ i ∉ sel
noncomputable def ArgsOk (σ : AS) (sel : List Nat) : List D → List D → Prop
  | [], [] => True
  | e :: es, d :: ds => ArgOk σ sel e d ∧ ArgsOk σ sel es ds
  | _, _ => False
/-- a call of the text's own def, seen from the frame: for any way to run it -/
theorem call_gen {G : Gnd} {n m : Nat} {fi : Fi} {σ : AS} {Hc Hc' : List Cont} {args kws dsa dsk : List D} {d : D} {env : Env} {α : List Addr} {s : Shared} {vals kvals : List Value} {Run : (Value → Shared → Prop) → Prop} (sel : List Nat) (hrun : ∀ Q Q' : Value → Shared → Prop, (∀ v s', Q v s' → Q' v s') → Run Q → Run Q')
    (h : ∀ αc, Labs G αc s.heap Hc → RepsC [] (some αc) s.heap args vals → RepsC [] (some αc) s.heap kws kvals → Run (fun v s' => ∃ β, Sp G αc s s' ∧ (∀ b ∈ β, s.heap.get? b = none) ∧ Gs G s'.heap ∧ Labs G (αc ++ β) s'.heap Hc' ∧
      ∀ ys : List Addr, (∀ a ∈ ys, (s.heap.get? a).isSome) → RepC ys (some (αc ++ β)) s'.heap d v)) (hargs : ArgsOk σ sel args dsa) (hkws : ArgsOk σ sel kws dsk)
    (hsel : ∀ (i : Nat) (c : Cont), Hc[i]? = some c → ∃ j, sel[i]? = some j ∧ σ.H[j]? = some (c.ren (selRen sel σ.H.length))) (hlen : sel.length = Hc.length) (hnd : sel.Nodup) (hge : sel.length ≤ Hc'.length)
    (F : Fm G env σ α s) (ra : Reps env α s.heap dsa vals) (rk : Reps env α s.heap dsk kvals) :
    Run (Post G env α s { σ with H := putSel (selRen sel σ.H.length) sel Hc' σ.H } (RD (d.ren (selRen sel σ.H.length)))) := by
  have hLen := F.labs.len
  have hlt : ∀ j ∈ sel, j < σ.H.length := fun j hj => by
    obtain ⟨i, hi⟩ := List.getElem?_of_mem hj
    have hi' : i < Hc.length := by rw [← hlen]; exact (List.getElem?_eq_some_iff.mp hi).1
    obtain ⟨j', h1, h2⟩ := hsel i _ (List.getElem?_eq_getElem hi')
    rw [hi] at h1; cases h1
    exact (List.getElem?_eq_some_iff.mp h2).1
  -- the callee's labels
  let αc : List Addr := sel.map fun j => α.getD j 0
  have hc : ∀ i j, sel[i]? = some j → ∃ a, αc[i]? = some a ∧ α[j]? = some a := fun i j e => by
    have hj : j < α.length := by rw [hLen]; exact hlt j (List.mem_of_getElem? e)
    refine ⟨α[j], ?_, List.getElem?_eq_getElem hj⟩
    show (sel.map _)[i]? = _
    rw [List.getElem?_map, e]
    simp [List.getD_eq_getElem?_getD, List.getElem?_eq_getElem hj]
  have hcl : αc.length = sel.length := by simp [αc]
  have ρin : ∀ i j, sel[i]? = some j → selRen sel σ.H.length i = j := fun i j e => by unfold selRen; rw [e]
  have ρout : ∀ i, sel.length ≤ i → selRen sel σ.H.length i = σ.H.length + (i - sel.length) := fun i hi => by unfold selRen; rw [List.getElem?_eq_none hi]
  have hl0 : ∀ i a : Nat, α[selRen sel σ.H.length i]? = some a → αc[i]? = some a := fun i a e => by
    rcases Nat.lt_or_ge i sel.length with hi | hi
    · obtain ⟨a', h1, h2⟩ := hc i _ (List.getElem?_eq_getElem hi)
      rw [ρin i _ (List.getElem?_eq_getElem hi), h2] at e; cases e; exact h1
    · rw [ρout i hi] at e
      have := (List.getElem?_eq_some_iff.mp e).1
      omega
  have hsub : ∀ a ∈ αc, a ∈ α := fun a ha => by
    obtain ⟨i, hi⟩ := List.getElem?_of_mem ha
    have hi' : i < sel.length := by rw [← hcl]; exact (List.getElem?_eq_some_iff.mp hi).1
    obtain ⟨a', h1, h2⟩ := hc i _ (List.getElem?_eq_getElem hi')
    rw [hi] at h1; cases h1
    exact List.mem_of_getElem? h2
  have hx0 : ∀ a, a ∉ α → a ∉ xsOf env → a ∉ αc ∧ a ∉ ([] : List Addr) := fun a h1 h2 => ⟨fun q => h1 (hsub a q), fun q => nomatch q⟩
  have harg : ∀ (es ds : List D) (vs : List Value), ArgsOk σ sel es ds → Reps env α s.heap ds vs → RepsC [] (some αc) s.heap es vs := by
    intro es
    induction es with
    | nil => intro ds vs x y; cases ds with | nil => exact y | cons d r => exact x.elim
    | cons e es ih =>
      intro ds vs x y
      cases ds with
      | nil => exact x.elim
      | cons d ds =>
        simp only [RepsC] at y ⊢
        obtain ⟨v, r, rfl, y1, y2⟩ := y
        refine ⟨v, r, rfl, ?_, ih ds r x.2 y2⟩
        rcases x.1 with rfl | rfl | ⟨i, ls, rfl, rfl, hi, hns⟩
        · simp only [RepC]
        · exact y1.unren hl0 hx0
        · simp only [RepC] at y1 ⊢
          obtain ⟨a, α', e, h1, rfl⟩ := y1
          cases e
          obtain ⟨vs, h2, h3⟩ := F.labs.ok i a _ h1 hi
          refine ⟨a, vs, αc, rfl, rfl, fun q => ?_, (fun q => nomatch q), h2, h3⟩
          obtain ⟨k, hk⟩ := List.getElem?_of_mem q
          have hk' : k < sel.length := by rw [← hcl]; exact (List.getElem?_eq_some_iff.mp hk).1
          obtain ⟨a', p1, p2⟩ := hc k _ (List.getElem?_eq_getElem hk')
          rw [hk] at p1; cases p1
          have := (List.getElem?_inj (List.getElem?_eq_some_iff.mp h1).1 F.labs.nd).mp (h1.trans p2.symm)
          exact hns (this ▸ List.getElem_mem hk')
  have hlive : ∀ a ∈ xsOf env ++ α, (s.heap.get? a).isSome := fun a ha => by
    rcases List.mem_append.mp ha with q | q
    · rcases List.mem_cons.mp q with rfl | q
      · obtain ⟨m, ⟨o, es, k, h1, _⟩, _⟩ := F.loc; rw [h1]; rfl
      · obtain ⟨v, o, h1, _⟩ := F.cells a q; rw [h1]; rfl
    · obtain ⟨o, e⟩ := F.live q; rw [e]; rfl
  have L : Labs G αc s.heap Hc := by
    refine ⟨hcl.trans hlen, ?_, fun i a c h1 h2 => ?_, fun a ha => F.labs.g0 a (hsub a ha), fun a ha => F.labs.tb a (hsub a ha)⟩
    · rw [List.nodup_iff_pairwise_ne, List.pairwise_iff_getElem]
      intro i j hi hj hij e
      rw [hcl] at hi hj
      obtain ⟨a1, p1, q1⟩ := hc i _ (List.getElem?_eq_getElem hi)
      obtain ⟨a2, p2, q2⟩ := hc j _ (List.getElem?_eq_getElem hj)
      have e1 := (List.getElem?_eq_some_iff.mp p1).2
      have e2 := (List.getElem?_eq_some_iff.mp p2).2
      rw [e1, e2] at e; subst e
      have := (List.getElem?_inj (List.getElem?_eq_some_iff.mp q1).1 F.labs.nd).mp (q1.trans q2.symm)
      exact (List.pairwise_iff_getElem.mp (List.nodup_iff_pairwise_ne.mp hnd)) i j hi hj hij this
    · obtain ⟨j, h3, h4⟩ := hsel i c h2
      obtain ⟨a', p1, p2⟩ := hc i j h3
      rw [h1] at p1; cases p1
      exact (F.labs.ok j a _ p2 h4).unren hl0
  refine hrun _ _ (fun v s' x => ?_) (h αc L (harg _ _ _ hargs ra) (harg _ _ _ hkws rk))
  obtain ⟨β, sp, hb, gs, L', r⟩ := x
  have r := r (xsOf env ++ α) hlive
  have hbl : αc.length + β.length = Hc'.length := by have := L'.len; rwa [List.length_append] at this
  have hl1 : ∀ i a : Nat, (αc ++ β)[i]? = some a → (α ++ β)[selRen sel σ.H.length i]? = some a := fun i a e => by
    rcases Nat.lt_or_ge i sel.length with hi | hi
    · rw [List.getElem?_append_left (by rw [hcl]; exact hi)] at e
      obtain ⟨a', h1, h2⟩ := hc i _ (List.getElem?_eq_getElem hi)
      rw [e] at h1; cases h1
      rw [ρin i _ (List.getElem?_eq_getElem hi), List.getElem?_append_left (List.getElem?_eq_some_iff.mp h2).1]; exact h2
    · rw [List.getElem?_append_right (by rw [hcl]; exact hi), hcl] at e
      rw [ρout i hi, List.getElem?_append_right (by rw [hLen]; omega), hLen, show σ.H.length + (i - sel.length) - σ.H.length = i - sel.length from by omega]; exact e
  have hx1 : ∀ a, a ∉ αc ++ β → a ∉ xsOf env ++ α → a ∉ α ++ β ∧ a ∉ xsOf env := fun a h1 h2' => by
    simp only [List.mem_append, not_or] at h1 h2' ⊢
    exact ⟨⟨h2'.2, h1.2⟩, h2'.1⟩
  have sp' : Sp G α s s' := sp.narrow fun b hb => .inl (hsub b hb)
  have fk := F.labs.frz F.gs sp'
  refine ⟨β, sp', hb, ?_, r.ren hl1 hx1⟩
  refine F.step (H' := putSel (selRen sel σ.H.length) sel Hc' σ.H) gs sp' hb ?_
  refine ⟨?_, ?_, fun i a c h1 h2 => ?_, fun a ha => ?_, fun a ha => ?_⟩
  · rw [List.length_append, putSel_len _ _ _ _ hge, hLen]; omega
  · rw [List.nodup_append]
    refine ⟨F.labs.nd, (List.nodup_append.mp L'.nd).2.1, fun a ha b hb' e => ?_⟩
    obtain ⟨o, ho⟩ := F.live ha
    rw [e, hb b hb'] at ho; cases ho
  · rcases putSel_get _ sel Hc' σ.H hge hnd hlt i c h2 with ⟨k, c', e1, e2, rfl⟩ | ⟨e1, e2⟩ | ⟨k, c', rfl, e2, rfl⟩
    · obtain ⟨a', p1, p2⟩ := hc k i e1
      have hi : i < α.length := (List.getElem?_eq_some_iff.mp p2).1
      rw [List.getElem?_append_left hi, p2] at h1; cases h1
      exact (L'.ok k a c' (by rw [List.getElem?_append_left (List.getElem?_eq_some_iff.mp p1).1]; exact p1) e2).ren hl1
    · have hi : i < α.length := by rw [hLen]; exact (List.getElem?_eq_some_iff.mp e2).1
      rw [List.getElem?_append_left hi] at h1
      refine (F.labs.ok i a c h1 e2).still fk hb fun o e => sp.keep a o (fun q => ?_) (F.labs.tb a (List.mem_of_getElem? h1)) e
      obtain ⟨k, hk⟩ := List.getElem?_of_mem q
      have hk' : k < sel.length := by rw [← hcl]; exact (List.getElem?_eq_some_iff.mp hk).1
      obtain ⟨a', p1, p2⟩ := hc k _ (List.getElem?_eq_getElem hk')
      rw [hk] at p1; cases p1
      have := (List.getElem?_inj hi F.labs.nd).mp (h1.trans p2.symm)
      exact e1 (this ▸ List.getElem_mem hk')
    · rw [← hLen, List.getElem?_append_right (Nat.le_add_right _ _), Nat.add_sub_cancel_left] at h1
      exact (L'.ok (sel.length + k) a c' (by rw [List.getElem?_append_right (by rw [hcl]; omega), hcl, Nat.add_sub_cancel_left]; exact h1) e2).ren hl1
  · rcases List.mem_append.mp ha with q | q
    · exact F.labs.g0 a q
    · exact L'.g0 a (List.mem_append_right _ q)
  · rcases List.mem_append.mp ha with q | q
    · exact F.labs.tb a q
    · exact L'.tb a (List.mem_append_right _ q)
/-- a call of the text's own def, seen from the frame -/
theorem call_fn {G : Gnd} {n m : Nat} {fi : Fi} {σ : AS} {f : Value} {Hc Hc' : List Cont} {args kws dsa dsk : List D} {kn : List Str} {d : D} (sel : List Nat) (h : Fn G m f Hc args kn kws d Hc') (hargs : ArgsOk σ sel args dsa) (hkws : ArgsOk σ sel kws dsk) (hm : m ≤ n := by omega)
    (hsel : ∀ (i : Nat) (c : Cont), Hc[i]? = some c → ∃ j, sel[i]? = some j ∧ σ.H[j]? = some (c.ren (selRen sel σ.H.length))) (hlen : sel.length = Hc.length := by rfl) (hnd : sel.Nodup := by decide) (hge : sel.length ≤ Hc'.length := by decide) :
    CallOk G n fi σ f dsa kn dsk (d.ren (selRen sel σ.H.length)) { σ with H := putSel (selRen sel σ.H.length) sel Hc' σ.H } := .mk fun A env α s vals kvals hA hE F ra rk =>
  call_gen (n := n) (m := m) (fi := fi) sel (Run := fun Q => wpAny (model G.prog G.w) A (call f vals (kn.zip kvals)) Q bot s) (fun _ _ k x => wpAny_mono x k fun _ _ x => x) (fun αc L ra rk => h.run A αc s vals kvals (hA.le hm) F.gs L ra rk) hargs hkws hsel hlen hnd hge F ra rk
end
section
theorem one_of {τ : Type} {l : List τ} {y : τ} (h5 : l.length = 1) (h7 : l[0]? = some y) : l = [y] := by
  obtain ⟨x, rfl⟩ := List.length_eq_one_iff.mp h5
  simpa using h7
noncomputable def hdrConv (k : Nat) (H : List Cont) (C : Addr) (j : Nat) : Option D := if j < k then Option.none else match H[j]? with
  | some (.dict [(x, .ref l)]) => if x ≠ ("_headers" : Str) ∨ l < k then Option.none else match H[l]? with
    | some (.list ds) => some (.hdr C ds)
    | _ => Option.none
  | _ => Option.none
noncomputable def D.conv (k : Nat) (H : List Cont) : D → Option D
  | .ref i => if i < k then some (.ref i) else match H[i]? with
    | some (.list ds) => some (.lst ds)
    | some (.inst C j) => hdrConv k H C j
    | _ => Option.none
  | .tup ds => (convs k H ds).map .tup
  | .lst _ => Option.none
  | .hdr _ _ => Option.none
  | d => some d
where convs (k : Nat) (H : List Cont) : List D → Option (List D)
  | [] => some []
  | d :: r => match D.conv k H d, convs k H r with
    | some d', some r' => some (d' :: r')
    | _, _ => Option.none
noncomputable def D.low (k : Nat) : D → Bool
  | .ref i => decide (i < k)
  | .tup ds => lows k ds
  | _ => true
where lows (k : Nat) : List D → Bool
  | [] => true
  | d :: r => D.low k d && lows k r
noncomputable def Cont.low (k : Nat) : Cont → Bool
  | .inst _ j => decide (j < k)
  | .dict es => es.all fun p => p.2.low k
  | _ => true
section
variable {X γ : List Addr} {h : Heap} {k : Nat} {H : List Cont} {G : Gnd}
mutual
theorem RepC.conv {X₀ : List Addr} (L : Labs G γ h H) (hX : ∀ (i : Nat) (a : Addr), γ[i]? = some a → k ≤ i → a ∉ X) : ∀ {d d' : D} {v : Value}, RepC X₀ (some γ) h d v → d.conv k H = some d' → RepC X (some (γ.take k)) h d' v
  | .none, _, _, x, e => by simp only [D.conv] at e; cases e; simpa only [RepC] using x
  | .bool _, _, _, x, e => by simp only [D.conv] at e; cases e; simpa only [RepC] using x
  | .int _, _, _, x, e => by simp only [D.conv] at e; cases e; simpa only [RepC] using x
  | .str _, _, _, x, e => by simp only [D.conv] at e; cases e; simpa only [RepC] using x
  | .tup ds, _, _, x, e => by
    simp only [D.conv] at e
    obtain ⟨ds', e1, rfl⟩ := Option.map_eq_some_iff.mp e
    simp only [RepC] at x ⊢
    obtain ⟨a, vs, rfl, ht, hr⟩ := x
    exact ⟨a, vs, rfl, ht, RepsC.conv L hX hr e1⟩
  | .lst ds, _, _, x, e => by simp only [D.conv] at e; cases e
  | .hdr C ds, _, _, x, e => by simp only [D.conv] at e; cases e
  | .any, _, _, x, e => by simp only [D.conv] at e; cases e; simp only [RepC]
  | .ref i, _, _, x, e => by
    simp only [RepC] at x
    obtain ⟨a, α, hc, hi, rfl⟩ := x
    cases hc
    simp only [D.conv] at e
    split at e
    · rename_i q
      cases e
      simp only [RepC]
      exact ⟨a, _, rfl, by rw [List.getElem?_take_of_lt q]; exact hi, rfl⟩
    · rename_i q
      have nt : ∀ (i : Nat) (a : Addr), γ[i]? = some a → k ≤ i → a ∉ γ.take k := fun i a hi q z => by
        obtain ⟨j, hj⟩ := List.getElem?_of_mem z
        have hjk : j < k := by
          have := (List.getElem?_eq_some_iff.mp hj).1
          rw [List.length_take] at this; omega
        rw [List.getElem?_take_of_lt hjk] at hj
        have := (List.getElem?_inj (List.getElem?_eq_some_iff.mp hj).1 L.nd).mp (hj.trans hi.symm)
        omega
      have q' : k ≤ i := by omega
      split at e
      · rename_i ds hd
        cases e
        obtain ⟨vs, h1, h2⟩ := L.ok i a _ hi hd
        simp only [RepC]
        exact ⟨a, vs, _, rfl, rfl, nt i a hi q', hX i a hi q', h1, h2.flatX⟩
      · rename_i C j hd
        obtain ⟨d₁, hd₁, ho⟩ := L.ok i a _ hi hd
        unfold hdrConv at e
        split at e
        · cases e
        · rename_i qj
          split at e
          · rename_i x l hdj
            split at e
            · cases e
            · rename_i qx
              split at e
              · rename_i ds hl
                cases e
                have hx : x = ("_headers" : Str) := by
                  by_cases z : x = ("_headers" : Str)
                  · exact z
                  · exact absurd (.inl z) qx
                have hlk : k ≤ l := by
                  by_cases z : l < k
                  · exact absurd (.inr z) qx
                  · omega
                subst hx
                obtain ⟨des, n, hdo, hlen, _, hent⟩ := L.ok j d₁ _ hd₁ hdj
                obtain ⟨hs, t, v, hde, _, hv⟩ := hent 0 _ _ rfl
                simp only [RepC] at hv
                obtain ⟨la, α', hc, hla, rfl⟩ := hv
                cases hc
                obtain ⟨vs, hL, hr⟩ := L.ok l la _ hla hl
                have hdes : des = [⟨hs, .str "_headers" t, .ref la⟩] := one_of hlen hde
                subst hdes
                simp only [RepC]
                exact ⟨a, d₁, la, vs, _, n, hs, t, rfl, rfl, ⟨nt i a hi q', hX i a hi q'⟩, ⟨nt j d₁ hd₁ (by omega), hX j d₁ hd₁ (by omega)⟩, ⟨nt l la hla hlk, hX l la hla hlk⟩, ho, hdo, hL, hr.flatX⟩
              · cases e
          · cases e
      · cases e
  | .val _, _, _, x, e => by simp only [D.conv] at e; cases e; simpa only [RepC] using x
  | .fn .., _, _, x, e => by simp only [D.conv] at e; cases e; simpa only [RepC] using x
theorem RepsC.conv {X₀ : List Addr} (L : Labs G γ h H) (hX : ∀ (i : Nat) (a : Addr), γ[i]? = some a → k ≤ i → a ∉ X) : ∀ {ds ds' : List D} {vs : List Value}, RepsC X₀ (some γ) h ds vs → D.conv.convs k H ds = some ds' → RepsC X (some (γ.take k)) h ds' vs
  | [], _, _, x, e => by simp only [D.conv.convs] at e; cases e; simpa only [RepsC] using x
  | d :: ds, _, _, x, e => by
    simp only [D.conv.convs] at e
    split at e
    · rename_i d' r' h1 h2
      cases e
      simp only [RepsC] at x ⊢
      obtain ⟨v, r, rfl, x1, x2⟩ := x
      exact ⟨v, r, rfl, RepC.conv L hX x1 h1, RepsC.conv L hX x2 h2⟩
    · cases e
end
mutual
theorem RepC.cut : ∀ {d : D} {v : Value}, RepC X (some γ) h d v → d.low k = true → RepC X (some (γ.take k)) h d v
  | .none, _, x, e => by simpa only [RepC] using x
  | .bool _, _, x, e => by simpa only [RepC] using x
  | .int _, _, x, e => by simpa only [RepC] using x
  | .str _, _, x, e => by simpa only [RepC] using x
  | .tup ds, _, x, e => by
    simp only [RepC] at x ⊢
    obtain ⟨a, vs, rfl, ht, hr⟩ := x
    exact ⟨a, vs, rfl, ht, RepsC.cut hr (by simpa only [D.low] using e)⟩
  | .lst ds, _, x, e => by
    simp only [RepC] at x ⊢
    obtain ⟨a, vs, α, rfl, hc, hn, hx, hl, hr⟩ := x
    cases hc
    exact ⟨a, vs, _, rfl, rfl, fun q => hn (List.mem_of_mem_take q), hx, hl, hr⟩
  | .hdr C ds, _, x, e => by
    simp only [RepC] at x ⊢
    obtain ⟨x, dx, l₀, vs, α, n, hs, t, rfl, hc, h1, h2, h3, r⟩ := x
    cases hc
    exact ⟨x, dx, l₀, vs, _, n, hs, t, rfl, rfl, ⟨fun q => h1.1 (List.mem_of_mem_take q), h1.2⟩, ⟨fun q => h2.1 (List.mem_of_mem_take q), h2.2⟩, ⟨fun q => h3.1 (List.mem_of_mem_take q), h3.2⟩, r⟩
  | .any, _, x, e => by simp only [RepC]
  | .ref i, _, x, e => by
    simp only [RepC] at x ⊢
    obtain ⟨a, α, hc, hi, rfl⟩ := x
    cases hc
    simp only [D.low, decide_eq_true_eq] at e
    exact ⟨a, _, rfl, by rw [List.getElem?_take_of_lt e]; exact hi, rfl⟩
  | .val _, _, x, e => by simpa only [RepC] using x
  | .fn .., _, x, e => by simpa only [RepC] using x
theorem RepsC.cut : ∀ {ds : List D} {vs : List Value}, RepsC X (some γ) h ds vs → D.low.lows k ds = true → RepsC X (some (γ.take k)) h ds vs
  | [], _, x, e => by simpa only [RepsC] using x
  | d :: ds, _, x, e => by
    simp only [RepsC] at x ⊢
    simp only [D.low.lows, Bool.and_eq_true] at e
    obtain ⟨v, r, rfl, x1, x2⟩ := x
    exact ⟨v, r, rfl, RepC.cut x1 e.1, RepsC.cut x2 e.2⟩
end
theorem ContOk.cut {a : Addr} {c : Cont} (x : ContOk γ h a c) (e : c.low k = true) : ContOk (γ.take k) h a c := by
  cases c with
  | list ds => exact x
  | inst C j => obtain ⟨d, h1, h2⟩ := x; simp only [Cont.low, decide_eq_true_eq] at e; exact ⟨d, by rw [List.getElem?_take_of_lt e]; exact h1, h2⟩
  | dict es =>
    obtain ⟨des, n, h1, h2, h3, h4⟩ := x
    refine ⟨des, n, h1, h2, h3, fun i y d hi => ?_⟩
    obtain ⟨hs, t, v, h5, h0, h6⟩ := h4 i y d hi
    exact ⟨hs, t, v, h5, h0, h6.cut (by simpa using List.all_eq_true.mp e (y, d) (List.mem_of_getElem? hi))⟩
  | obj P => exact x
theorem Labs.cut (L : Labs G γ h H) (hb : (H.take k).all (Cont.low k) = true) : Labs G (γ.take k) h (H.take k) :=
  ⟨by rw [List.length_take, List.length_take, L.len], L.nd.sublist (List.take_sublist _ _), fun i a c h1 h2 => by
    have hi : i < k := by have := (List.getElem?_eq_some_iff.mp h1).1; rw [List.length_take] at this; omega
    have hc := List.all_eq_true.mp hb c (List.mem_of_getElem? h2)
    rw [List.getElem?_take_of_lt hi] at h1 h2
    exact (L.ok i a c h1 h2).cut hc, fun a ha => L.g0 a (List.mem_of_mem_take ha), fun a ha => L.tb a (List.mem_of_mem_take ha)⟩
end
/-! entering a def -/
noncomputable def bindLoc (k : Str → Option NameKind) : List (Str × D) → List (Str × D) → List (Str × D)
  | [], l => l
  | (x, d) :: r, l => bindLoc k r (if k x = some .local then (x, d) :: l else l)
noncomputable def bindCel (k : Str → Option NameKind) : List (Str × D) → List (Str × D) → List (Str × D)
  | [], l => l
  | (x, d) :: r, l => bindCel k r (if k x = some .local then l else (x, d) :: l)
section
variable {X : List Addr} {c : Option (List Addr)} {h : Heap}
theorem bindL_rep {k : Str → Option NameKind} : ∀ {bs : List (Str × D)} {binds : List (Str × Value)} {l : List (Str × D)} {m : Str → Option Value}, binds.map (·.1) = bs.map (·.1) → RepsC X c h (bs.map (·.2)) (binds.map (·.2)) →
    (∀ x d, l.lookup x = some d → ∃ v, m x = some v ∧ RepC X c h d v) → ∀ x d, (bindLoc k bs l).lookup x = some d → ∃ v, bindL k binds m x = some v ∧ RepC X c h d v
  | [], [], l, m, _, _, hm => hm
  | [], _ :: _, _, _, e, _, _ => by simp at e
  | _ :: _, [], _, _, e, _, _ => by simp at e
  | (y, d₀) :: bs, (z, v₀) :: binds, l, m, e, r, hm => by
    simp only [List.map_cons, List.cons.injEq] at e
    obtain ⟨rfl, e⟩ := e
    simp only [List.map_cons, RepsC] at r
    obtain ⟨v, rr, e2, r1, r2⟩ := r
    cases e2
    simp only [bindLoc, bindL]
    refine bindL_rep e r2 fun x d hd => ?_
    split at hd
    · rename_i hk
      rw [if_pos hk]
      simp only [List.lookup_cons] at hd
      split at hd
      · rename_i q; cases hd; exact ⟨v₀, by simp [beq_iff_eq.mp q], r1⟩
      · rename_i q
        obtain ⟨v, h1, h2⟩ := hm x d hd
        exact ⟨v, by have : ¬ x = z := fun w => by rw [w] at q; simp at q
                     simp [this, h1], h2⟩
    · rename_i hk
      rw [if_neg hk]
      exact hm x d hd
theorem bindC_rep {k : Str → Option NameKind} : ∀ {bs : List (Str × D)} {binds : List (Str × Value)} {l : List (Str × D)} {m : Str → Option Value}, binds.map (·.1) = bs.map (·.1) → RepsC X c h (bs.map (·.2)) (binds.map (·.2)) →
    (∀ x d, l.lookup x = some d → ∃ v, m x = some v ∧ RepC X c h d v) → ∀ x d, (bindCel k bs l).lookup x = some d → ∃ v, bindC k binds m x = some v ∧ RepC X c h d v
  | [], [], l, m, _, _, hm => hm
  | [], _ :: _, _, _, e, _, _ => by simp at e
  | _ :: _, [], _, _, e, _, _ => by simp at e
  | (y, d₀) :: bs, (z, v₀) :: binds, l, m, e, r, hm => by
    simp only [List.map_cons, List.cons.injEq] at e
    obtain ⟨rfl, e⟩ := e
    simp only [List.map_cons, RepsC] at r
    obtain ⟨v, rr, e2, r1, r2⟩ := r
    cases e2
    simp only [bindCel, bindC]
    refine bindC_rep e r2 fun x d hd => ?_
    split at hd
    · rename_i hk
      rw [if_pos hk]
      exact hm x d hd
    · rename_i hk
      rw [if_neg hk]
      simp only [List.lookup_cons] at hd
      split at hd
      · rename_i q; cases hd; exact ⟨v₀, by simp [beq_iff_eq.mp q], r1⟩
      · rename_i q
        obtain ⟨v, h1, h2⟩ := hm x d hd
        exact ⟨v, by have : ¬ x = z := fun w => by rw [w] at q; simp at q
                     simp [this, h1], h2⟩
end
theorem cellsFrom_has : ∀ {names : List (Str × NameKind)} {n : Nat} {acc : List (Str × Addr)} {x : Str}, (names.lookup x = some .cell ∨ ∃ c, acc.lookup x = some c) → ∃ c, (cellsFrom n names acc).lookup x = some c
  | [], _, acc, x, h => by rcases h with h | h; cases h; exact h
  | (y, k) :: r, n, acc, x, h => by
    unfold cellsFrom
    split
    · rename_i hk
      refine cellsFrom_has (names := r) ?_
      by_cases q : x = y
      · exact .inr ⟨n, by simp [q]⟩
      · have q' : (x == y) = false := by simpa using q
        rcases h with h | ⟨c, h⟩
        · rw [List.lookup_cons, q'] at h; exact .inl h
        · exact .inr ⟨c, by rw [List.lookup_cons, q']; exact h⟩
    · rename_i hk
      refine cellsFrom_has (names := r) ?_
      rcases h with h | h
      · rw [List.lookup_cons] at h
        split at h
        · cases h; simp at hk
        · exact .inl h
      · exact .inr h
mutual
/-- an old value in a new frame -/
theorem RepC.liftX {X : List Addr} {α : List Addr} {h : Heap} (hX : ∀ a o, h.get? a = some o → a ∉ X) : ∀ {d : D} {v : Value}, RepC [] (some α) h d v → RepC X (some α) h d v
  | .none, _, x => by simpa only [RepC] using x
  | .bool _, _, x => by simpa only [RepC] using x
  | .int _, _, x => by simpa only [RepC] using x
  | .str _, _, x => by simpa only [RepC] using x
  | .tup ds, _, x => by
    simp only [RepC] at x ⊢
    obtain ⟨a, vs, rfl, ht, hr⟩ := x
    exact ⟨a, vs, rfl, ht, RepsC.liftX hX hr⟩
  | .lst ds, _, x => by
    simp only [RepC] at x ⊢
    obtain ⟨a, vs, α', rfl, hc, hn, hx, hl, hr⟩ := x
    exact ⟨a, vs, α', rfl, hc, hn, hX a _ hl.choose_spec, hl, hr.flatX⟩
  | .hdr C ds, _, x => by
    simp only [RepC] at x ⊢
    obtain ⟨x, dx, l₀, vs, α, n, hs, t, rfl, hc, h1, h2, h3, e1, e2, e3, hr⟩ := x
    exact ⟨x, dx, l₀, vs, α, n, hs, t, rfl, hc, ⟨h1.1, hX _ _ e1⟩, ⟨h2.1, hX _ _ e2⟩, ⟨h3.1, hX _ _ e3.choose_spec⟩, e1, e2, e3, hr.flatX⟩
  | .any, _, x => by simp only [RepC]
  | .ref i, _, x => by simpa only [RepC] using x
  | .val _, _, x => by simpa only [RepC] using x
  | .fn .., _, x => by simpa only [RepC] using x
theorem RepsC.liftX {X : List Addr} {α : List Addr} {h : Heap} (hX : ∀ a o, h.get? a = some o → a ∉ X) : ∀ {ds : List D} {vs : List Value}, RepsC [] (some α) h ds vs → RepsC X (some α) h ds vs
  | [], _, x => by simpa only [RepsC] using x
  | d :: ds, _, x => by
    simp only [RepsC] at x ⊢
    obtain ⟨v, r, rfl, h1, h2⟩ := x
    exact ⟨v, r, rfl, RepC.liftX hX h1, RepsC.liftX hX h2⟩
end
/-- how a def's body ends: the first k labels stay, the others' lists are handed on frozen -/
noncomputable def ExitOk (k : Nat) (d : D) (H' : List Cont) : Out → Prop
  | .ret d₀ σ => d₀.conv k σ.H = some d ∧ σ.H.take k = H' ∧ H'.all (Cont.low k) = true
  | .next σ => d = .none ∧ σ.H.take k = H' ∧ H'.all (Cont.low k) = true
  | _ => False
end
section
theorem RepC.dn {X : List Addr} {c : Option (List Addr)} {h : Heap} {d : D} {v : Value} (f : d.flat = true) (x : RepC X c h d v) : RepC [] none h d v := (RepC.down f x).flatX
theorem RepsC.dn {X : List Addr} {c : Option (List Addr)} {h : Heap} {d : List D} {v : List Value} (f : D.flat.flats d = true) (x : RepsC X c h d v) : RepsC [] none h d v := (RepsC.down f x).flatX
section
variable {τ : Type} {G : Gnd} {n m : Nat} {fi : Fi} {env : Env} {A : Around} {α β : List Addr} {s s₁ s₂ s' : Shared} {σ σ' σ₁ σ₂ σ₃ σ₄ : AS}
theorem Fm.all {h' : Heap} {t : Nat} (F : Fm G env σ α s) (k : ∀ b o, s.heap.get? b = some o → h'.get? b = some o) : Fm G env σ α { s with heap := h', toks := t } := by
  have fk : FrzKeep s.heap h' := fun a o _ e => k a o e
  have lk : LstKeep (xsOf env) (some α) s.heap h' := fun _ _ a o _ _ _ e => k a o e
  have lb : Labs G (α ++ []) h' σ.H := ⟨by rw [List.append_nil]; exact F.labs.len, by rw [List.append_nil]; exact F.labs.nd, fun i a c h1 h2 => by
    rw [List.append_nil] at h1
    exact (F.labs.ok i a c h1 h2).still (β := []) fk (fun _ h => nomatch h) (fun o e => k a o e), by rw [List.append_nil]; exact F.labs.g0, by rw [List.append_nil]; exact F.labs.tb⟩
  have := F.step (s' := { s with heap := h', toks := t }) (β := []) (F.gs.all k) (Sp.all k) (fun _ h => nomatch h) lb
  rwa [List.append_nil] at this
theorem Post.all {R : List Addr → List Addr → Heap → τ → Prop} {v : τ} {h' : Heap} {t : Nat} (F : Fm G env σ α s) (k : ∀ b o, s.heap.get? b = some o → h'.get? b = some o) (r : R (xsOf env) α h' v) : Post G env α s σ R v { s with heap := h', toks := t } :=
  ⟨[], .all k, (fun _ h => nomatch h), by rw [List.append_nil]; exact F.all k, by rw [List.append_nil]; exact r⟩
theorem Fm.keepDs {d : List D} {v : List Value} {h' : Heap} (F : Fm G env σ α s) (k : ∀ b o, s.heap.get? b = some o → h'.get? b = some o) (r : Reps env α s.heap d v) : Reps env α h' d v := by
  have := RepsC.still (c' := some (α ++ [])) (fun a o _ e => k a o e) (fun _ _ a o _ _ _ e => k a o e) (grow_of fun _ h => nomatch h) r
  rwa [List.append_nil] at this
theorem Fm.freshNot (F : Fm G env σ α s) {a : Addr} (h : s.heap.get? a = none) : a ∉ α ∧ a ∉ xsOf env ∧ G.g0.get? a = none ∧ a ∉ G.TB := by
  refine ⟨fun q => ?_, fun q => ?_, ?_, fun q => ?_⟩
  · obtain ⟨o, e⟩ := F.live q; rw [h] at e; cases e
  · rcases List.mem_cons.mp q with rfl | q
    · obtain ⟨m, ⟨o, es, k, h1, _⟩, _⟩ := F.loc; rw [h] at h1; cases h1
    · obtain ⟨v, o, h1, _⟩ := F.cells a q; rw [h] at h1; cases h1
  · cases e : G.g0.get? a with
    | none => rfl
    | some o => rw [F.gs.base a o e] at h; cases h
  · obtain ⟨r, hr, rfl⟩ := List.mem_map.mp q
    obtain ⟨ps, h1, _⟩ := F.gs.tabs r hr
    rw [h] at h1; cases h1
/-- a new list, frozen -/
theorem Post.lst {D₀ : Addr} {h' : Heap} {t : Nat} {ds : List D} {vs : List Value} (F : Fm G env σ α s) (k : ∀ b o, s.heap.get? b = some o → h'.get? b = some o) (hD : s.heap.get? D₀ = none) (hl : h'.PlainList D₀ vs.toArray) (r : RepsC [] none h' ds vs) :
    Post G env α s σ (RD (.lst ds)) (.ref D₀) { s with heap := h', toks := t } :=
  Post.all F k (by simp only [RepC]; exact ⟨D₀, vs, α, rfl, rfl, (F.freshNot hD).1, (F.freshNot hD).2.1, hl, r.flatX⟩)
/-- a new list, labelled -/
theorem Post.lab {D₀ : Addr} {h' : Heap} {t : Nat} {c : Cont} (F : Fm G env σ α s) (k : ∀ b o, s.heap.get? b = some o → h'.get? b = some o) (hD : s.heap.get? D₀ = none) (hc : ContOk (α ++ [D₀]) h' D₀ c) :
    Post G env α s { σ with H := σ.H ++ [c] } (RD (.ref σ.H.length)) (.ref D₀) { s with heap := h', toks := t } := by
  obtain ⟨n1, n2, n3, n4⟩ := F.freshNot hD
  have fk : FrzKeep s.heap h' := fun a o _ e => k a o e
  have lk : LstKeep (xsOf env) (some α) s.heap h' := fun _ _ a o _ _ _ e => k a o e
  have hb : ∀ b ∈ [D₀], s.heap.get? b = none := fun b hb => by rw [List.mem_singleton.mp hb]; exact hD
  have lb : Labs G (α ++ [D₀]) h' (σ.H ++ [c]) := by
    refine ⟨by simp [F.labs.len], by rw [List.nodup_append]; exact ⟨F.labs.nd, by simp, fun a ha b hb e => by rw [List.mem_singleton.mp hb] at e; exact n1 (e ▸ ha)⟩, fun i a c' h1 h2 => ?_, fun a ha => ?_, fun a ha => ?_⟩
    · rcases Nat.lt_or_ge i α.length with hi | hi
      · rw [List.getElem?_append_left hi] at h1
        rw [List.getElem?_append_left (by rw [← F.labs.len]; exact hi)] at h2
        exact (F.labs.ok i a c' h1 h2).still fk hb (fun o e => k a o e)
      · rw [List.getElem?_append_right hi] at h1
        rw [List.getElem?_append_right (by rw [← F.labs.len]; exact hi), ← F.labs.len] at h2
        generalize i - α.length = j at h1 h2
        cases j with
        | zero => simp at h1 h2; subst h1; subst h2; exact hc
        | succ j => simp at h1
    · rcases List.mem_append.mp ha with q | q
      · exact F.labs.g0 a q
      · rw [List.mem_singleton.mp q]; exact n3
    · rcases List.mem_append.mp ha with q | q
      · exact F.labs.tb a q
      · rw [List.mem_singleton.mp q]; exact n4
  refine ⟨[D₀], .all k, hb, F.step (s' := { s with heap := h', toks := t }) (F.gs.all k) (Sp.all k) hb lb, ?_⟩
  simp only [RepC]
  exact ⟨D₀, _, rfl, by rw [← F.labs.len]; simp, rfl⟩
theorem Post.labL {D₀ : Addr} {h' : Heap} {t : Nat} {ds : List D} {vs : List Value} (F : Fm G env σ α s) (k : ∀ b o, s.heap.get? b = some o → h'.get? b = some o) (hD : s.heap.get? D₀ = none) (hl : h'.PlainList D₀ vs.toArray) (r : RepsC [] none h' ds vs) :
    Post G env α s { σ with H := σ.H ++ [.list ds] } (RD (.ref σ.H.length)) (.ref D₀) { s with heap := h', toks := t } :=
  Post.lab F k hD ⟨vs, hl, r⟩
theorem push_all {h : Heap} (o : Obj) : ∀ b o', h.get? b = some o' → (h.push o).get? b = some o' := fun b o' e => Heap.get?_push_of_some _ e
theorem get_size {h : Heap} : h.get? h.objs.size = none := by
  cases q : h.get? h.objs.size with
  | none => rfl
  | some o => exact absurd (Heap.lt_size q) (Nat.lt_irrefl _)
/-- a new tuple -/
theorem Post.tup {D₀ : Addr} {h' : Heap} {t : Nat} {ds : List D} {vs : List Value} (F : Fm G env σ α s) (k : ∀ b o, s.heap.get? b = some o → h'.get? b = some o) (hl : h'.IsTuple D₀ vs.toArray) (r : Reps env α h' ds vs) :
    Post G env α s σ (RD (.tup ds)) (.ref D₀) { s with heap := h', toks := t } := Post.all F k (by simp only [RepC]; exact ⟨D₀, vs, rfl, hl, r⟩)
/-! ints -/
theorem rint {i : Int} {c : Option (List Addr)} {h : Heap} {X : List Addr} {t : Tok} : RepC X c h (.int i) (.int i t) := by simp only [RepC]; exact ⟨t, rfl⟩
theorem rstr {i : Str} {c : Option (List Addr)} {h : Heap} {X : List Addr} {t : Tok} : RepC X c h (.str i) (.str i t) := by simp only [RepC]; exact ⟨t, rfl⟩
theorem rbool {i : Bool} {c : Option (List Addr)} {h : Heap} {X : List Addr} : RepC X c h (.bool i) (.bool i) := by simp only [RepC]
theorem rnone {c : Option (List Addr)} {h : Heap} {X : List Addr} : RepC X c h .none .none := by simp only [RepC]
variable {a b : Int}
theorem o_add : O2 G n fi σ (binaryOp .Add) (.int a) (.int b) (.int (a + b)) σ := .mk fun A env α s u v _ _ F r1 r2 => by
  simp only [RepC] at r1 r2; obtain ⟨t, rfl⟩ := r1; obtain ⟨t', rfl⟩ := r2
  exact P.add_int (Post.tok F rint)
theorem o_iadd : O2 G n fi σ (inplaceOp .Add) (.int a) (.int b) (.int (a + b)) σ := .mk fun A env α s u v _ _ F r1 r2 => by
  simp only [RepC] at r1 r2; obtain ⟨t, rfl⟩ := r1; obtain ⟨t', rfl⟩ := r2
  exact P.iadd_int (Post.tok F rint)
theorem o_sub : O2 G n fi σ (binaryOp .Sub) (.int a) (.int b) (.int (a - b)) σ := .mk fun A env α s u v _ _ F r1 r2 => by
  simp only [RepC] at r1 r2; obtain ⟨t, rfl⟩ := r1; obtain ⟨t', rfl⟩ := r2
  exact P.sub_int (Post.tok F rint)
theorem o_mul (hm : IntMulOk a b) : O2 G n fi σ (binaryOp .Mult) (.int a) (.int b) (.int (a * b)) σ := .mk fun A env α s u v _ _ F r1 r2 => by
  simp only [RepC] at r1 r2; obtain ⟨t, rfl⟩ := r1; obtain ⟨t', rfl⟩ := r2
  exact P.mul_int (Post.tok F rint) hm
theorem o_fdiv (hb : b ≠ 0) (hs : b.natAbs < 1073741824) : O2 G n fi σ (binaryOp .FloorDiv) (.int a) (.int b) (.int (a.fdiv b)) σ := .mk fun A env α s u v _ _ F r1 r2 => by
  simp only [RepC] at r1 r2; obtain ⟨t, rfl⟩ := r1; obtain ⟨t', rfl⟩ := r2
  exact floordiv_int hb (Post.tok F rint) (.inl (PyProof.noPylong_small hs))
theorem o_fmod (hb : b ≠ 0) (hs : b.natAbs < 1073741824) : O2 G n fi σ (binaryOp .Mod) (.int a) (.int b) (.int (a.fmod b)) σ := .mk fun A env α s u v _ _ F r1 r2 => by
  simp only [RepC] at r1 r2; obtain ⟨t, rfl⟩ := r1; obtain ⟨t', rfl⟩ := r2
  exact mod_int' hb (Post.tok F rint)
theorem o_shl (h0 : 0 ≤ b) (h1 : b ≤ 1000000) (h2 : a.natAbs < 2 ^ 64) : O2 G n fi σ (binaryOp .LShift) (.int a) (.int b) (.int (a * 2 ^ b.toNat)) σ := .mk fun A env α s u v _ _ F r1 r2 => by
  simp only [RepC] at r1 r2; obtain ⟨t, rfl⟩ := r1; obtain ⟨t', rfl⟩ := r2
  exact lshift_int_small h0 h1 h2 (Post.tok F rint)
theorem o_shr (h0 : 0 ≤ b) : O2 G n fi σ (binaryOp .RShift) (.int a) (.int b) (.int (a.fdiv (2 ^ b.toNat))) σ := .mk fun A env α s u v _ _ F r1 r2 => by
  simp only [RepC] at r1 r2; obtain ⟨t, rfl⟩ := r1; obtain ⟨t', rfl⟩ := r2
  exact rshift_int h0 (Post.tok F rint)
theorem o_xor : O2 G n fi σ (binaryOp .BitXor) (.int a) (.int b) (.int (Builtin.bitXor a b)) σ := .mk fun A env α s u v _ _ F r1 r2 => by
  simp only [RepC] at r1 r2; obtain ⟨t, rfl⟩ := r1; obtain ⟨t', rfl⟩ := r2
  exact xor_int (Post.tok F rint)
theorem o_neg : O1 G n fi σ (unaryOp .USub) (.int a) (.int (-a)) σ := .mk fun A env α s u _ _ F r1 => by
  simp only [RepC] at r1; obtain ⟨t, rfl⟩ := r1
  exact P.neg_int (Post.tok F rint)
theorem o_inv : O1 G n fi σ (unaryOp .Invert) (.int a) (.int (Builtin.bitNot a)) σ := .mk fun A env α s u _ _ F r1 => by
  simp only [RepC] at r1; obtain ⟨t, rfl⟩ := r1
  exact invert_int (Post.tok F rint)
theorem o_eq : O2 G n fi σ (compareOp .Eq) (.int a) (.int b) (.bool (a == b)) σ := .mk fun A env α s u v _ _ F r1 r2 => by
  simp only [RepC] at r1 r2; obtain ⟨t, rfl⟩ := r1; obtain ⟨t', rfl⟩ := r2
  exact P.eq_int (Post.here F rbool)
theorem o_ne : O2 G n fi σ (compareOp .NotEq) (.int a) (.int b) (.bool (a != b)) σ := .mk fun A env α s u v _ _ F r1 r2 => by
  simp only [RepC] at r1 r2; obtain ⟨t, rfl⟩ := r1; obtain ⟨t', rfl⟩ := r2
  exact P.ne_int (Post.here F rbool)
theorem o_lt : O2 G n fi σ (compareOp .Lt) (.int a) (.int b) (.bool (decide (a < b))) σ := .mk fun A env α s u v _ _ F r1 r2 => by
  simp only [RepC] at r1 r2; obtain ⟨t, rfl⟩ := r1; obtain ⟨t', rfl⟩ := r2
  exact P.lt_int (Post.here F rbool)
theorem o_le : O2 G n fi σ (compareOp .LtE) (.int a) (.int b) (.bool (decide (a ≤ b))) σ := .mk fun A env α s u v _ _ F r1 r2 => by
  simp only [RepC] at r1 r2; obtain ⟨t, rfl⟩ := r1; obtain ⟨t', rfl⟩ := r2
  exact P.le_int (Post.here F rbool)
theorem o_gt : O2 G n fi σ (compareOp .Gt) (.int a) (.int b) (.bool (decide (a > b))) σ := .mk fun A env α s u v _ _ F r1 r2 => by
  simp only [RepC] at r1 r2; obtain ⟨t, rfl⟩ := r1; obtain ⟨t', rfl⟩ := r2
  exact P.gt_int (Post.here F rbool)
theorem o_ge : O2 G n fi σ (compareOp .GtE) (.int a) (.int b) (.bool (decide (a ≥ b))) σ := .mk fun A env α s u v _ _ F r1 r2 => by
  simp only [RepC] at r1 r2; obtain ⟨t, rfl⟩ := r1; obtain ⟨t', rfl⟩ := r2
  exact P.ge_int (Post.here F rbool)
theorem ot_int : OT G n fi σ (.int a) (a != 0) := .mk fun A env α s v _ _ F r => by
  simp only [RepC] at r; obtain ⟨t, rfl⟩ := r
  exact P.truthy_int (Post.here F rfl)
/-- divmod -/
theorem c_divmod (hb : b ≠ 0) (hs : b.natAbs < 1073741824) : CallOk G n fi σ (.builtin "divmod") [.int a, .int b] [] [] (.tup [.int (a.fdiv b), .int (a.fmod b)]) σ := .mk fun A env α s vals kvals hA hE F ra rk => by
  simp only [RepsC, RepC] at ra rk; obtain ⟨_, _, rfl, ⟨t, rfl⟩, _, _, rfl, ⟨t', rfl⟩, rfl⟩ := ra; subst rk
  exact divmod_int hb (Post.tup F (push_all _) ⟨_, Heap.get?_push_size _ rfl, rfl, 0, rfl⟩ (by simp only [RepsC]; exact ⟨_, _, rfl, rint, _, _, rfl, rint, rfl⟩)) (.inl (PyProof.noPylong_small hs))
theorem c_abs : CallOk G n fi σ (.builtin "abs") [.int a] [] [] (.int (if a < 0 then -a else a)) σ := .mk fun A env α s vals kvals hA hE F ra rk => by
  simp only [RepsC, RepC] at ra rk; obtain ⟨_, _, rfl, ⟨t, rfl⟩, rfl⟩ := ra; subst rk
  exact call_abs_int fun u tk => Post.tok F rint
theorem c_bitlen : CallOk G n fi σ (.builtin "int.bit_length") [.int a] [] [] (.int (Builtin.Int.intBits a)) σ := .mk fun A env α s vals kvals hA hE F ra rk => by
  simp only [RepsC, RepC] at ra rk; obtain ⟨_, _, rfl, ⟨t, rfl⟩, rfl⟩ := ra; subst rk
  exact call_int_bit_length (Post.tok F rint)
theorem c_chr (h0 : 0 ≤ a) (h1 : a ≤ 1114111) : CallOk G n fi σ (.builtin "chr") [.int a] [] [] (.str ⟨#[a.toNat]⟩) σ := .mk fun A env α s vals kvals hA hE F ra rk => by
  simp only [RepsC, RepC] at ra rk; obtain ⟨_, _, rfl, ⟨t, rfl⟩, rfl⟩ := ra; subst rk
  exact chr_of_range h0 h1 (Post.tok F rstr)
theorem c_str (h : a.natAbs.log2 < 1920) : CallOk G n fi σ (.type "str") [.int a] [] [] (.str (Str.ofString (toString a))) σ := .mk fun A env α s vals kvals hA hE F ra rk => by
  simp only [RepsC, RepC] at ra rk; obtain ⟨_, _, rfl, ⟨t, rfl⟩, rfl⟩ := ra; subst rk
  exact P.str_of_int h (Post.tok F rstr)
end
end
section
section
variable {τ : Type} {G : Gnd} {n m : Nat} {fi : Fi} {env : Env} {A : Around} {α β : List Addr} {s s₁ s₂ s' : Shared} {σ σ' σ₁ σ₂ σ₃ σ₄ : AS}
theorem sizeFits {k : Nat} (h : k ≤ 1000000) : k ≤ sizeLine := by rw [sizeLine_eq]; omega
/-! displays -/
theorem pe_tuple {es : List Expr} {k : Nat} {pos : Pos} {ds : List D} (h : PEs G n fi σ es ds σ₁) (hz : ds.length ≤ 1000000 := by decide) : PE G n fi σ (.Tuple es k pos) (.tup ds) σ₁ := .mk fun A env α s hA hE F =>
  wpAny_Tuple (seq2 (h.run pos A env α s hA hE F) fun vs β s₁ sp hb F1 r1 => ⟨by rw [r1.length]; exact sizeFits hz,
    Post.up sp hb (Post.tup F1 (push_all _) ⟨_, Heap.get?_push_size _ rfl, rfl, 0, rfl⟩ (F1.keepDs (push_all _) r1))⟩)
theorem pe_list {es : List Expr} {pos : Pos} {ds : List D} (h : PEs G n fi σ es ds σ₁) (hf : D.flat.flats ds = true) (hz : ds.length ≤ 1000000 := by decide) : PE G n fi σ (.List es pos) (.lst ds) σ₁ := .mk fun A env α s hA hE F =>
  wpAny_List (seq2 (h.run pos A env α s hA hE F) fun vs β s₁ sp hb F1 r1 => ⟨by rw [r1.length]; exact sizeFits hz,
    Post.up sp hb (Post.lst F1 (push_all _) get_size ⟨0, Heap.get?_push_size _ rfl⟩ ((F1.keepDs (push_all _) r1).dn hf))⟩)
theorem pe_listL {es : List Expr} {pos : Pos} {ds : List D} (h : PEs G n fi σ es ds σ₁) (hf : D.flat.flats ds = true) (hz : ds.length ≤ 1000000 := by decide) : PE G n fi σ (.List es pos) (.ref σ₁.H.length) { σ₁ with H := σ₁.H ++ [.list ds] } := .mk fun A env α s hA hE F =>
  wpAny_List (seq2 (h.run pos A env α s hA hE F) fun vs β s₁ sp hb F1 r1 => ⟨by rw [r1.length]; exact sizeFits hz,
    Post.up sp hb (Post.labL F1 (push_all _) get_size ⟨0, Heap.get?_push_size _ rfl⟩ ((F1.keepDs (push_all _) r1).dn hf))⟩)
/-! a list, frozen or labelled, to be read -/
noncomputable def IsL (σ : AS) (d : D) (ds : List D) : Prop := d = .lst ds ∨ ∃ i, d = .ref i ∧ σ.H[i]? = some (.list ds)
theorem IsL.get {d : D} {ds : List D} {v : Value} (l : IsL σ d ds) (F : Fm G env σ α s) (r : Rep env α s.heap d v) : ∃ a vs, v = .ref a ∧ s.heap.IsList a (List.toArray vs) ∧ RepsC [] none s.heap ds vs := by
  rcases l with rfl | ⟨i, rfl, hi⟩
  · simp only [RepC] at r
    obtain ⟨a, vs, _, rfl, _, _, _, h1, h2⟩ := r
    exact ⟨a, vs, rfl, h1.isList, h2.flatX⟩
  · simp only [RepC] at r
    obtain ⟨a, α', e, h1, rfl⟩ := r
    cases e
    obtain ⟨vs, h2, h3⟩ := F.labs.ok i a _ h1 hi
    exact ⟨a, vs, rfl, h2.isList, h3⟩
theorem isl {ds : List D} : IsL σ (.lst ds) ds := .inl rfl
theorem islab {ds : List D} {i : Nat} (h : σ.H[i]? = some (.list ds) := by rfl) : IsL σ (.ref i) ds := .inr ⟨i, rfl, h⟩
/-! subscripts -/
theorem pe_item {value slice : Expr} {pos : Pos} {d x : D} {ds : List D} {k : Int} (h1 : PE G n fi σ value d σ₁) (h2 : PE G n fi σ₁ slice (.int k) σ₂) (hl : IsL σ₂ d ds) (h0 : 0 ≤ k) (hhi : k < 2 ^ 63) (hx : ds[k.toNat]? = some x)
    (hs : ∀ o i, subscripted slice false o i = operate [o, i] (getItem o i) := by intro _ _; rfl) : PE G n fi σ (.Subscript value slice pos) x σ₂ := .mk fun A env α s hA hE F =>
  Subscript_ (seq2 (h1.run A env α s hA hE F) fun v β s₁ sp hb F1 r1 => seq2 (h2.run A env _ s₁ hA hE F1) fun i γ s₂ sp2 hb2 F2 r2 => by
    obtain ⟨a, vs, rfl, hL, hr⟩ := hl.get F2 (F1.still sp2 hb2 r1)
    simp only [RepC] at r2; obtain ⟨t, rfl⟩ := r2
    obtain ⟨y, h3, h4⟩ := hr.get hx
    exact tail_any hL.typeIs slot_list_getitem.lookup (wpAny_getItem_list hL h0 hhi (by simpa using h3) (Post.up sp hb (Post.up sp2 hb2 (Post.here F2 h4.flatX.up)))) (hs _ _))
theorem pe_itemT {value slice : Expr} {pos : Pos} {x : D} {ds : List D} {k : Int} {j : Nat} (h1 : PE G n fi σ value (.tup ds) σ₁) (h2 : PE G n fi σ₁ slice (.int k) σ₂) (hlo : -(2 ^ 63) ≤ k := by decide) (hhi : k < 2 ^ 63 := by decide)
    (hj : seqIndex? k ds.length = some j := by rfl) (hx : ds[j]? = some x := by rfl)
    (hs : ∀ o i, subscripted slice false o i = operate [o, i] (getItem o i) := by intro _ _; rfl) : PE G n fi σ (.Subscript value slice pos) x σ₂ := .mk fun A env α s hA hE F =>
  Subscript_ (seq2 (h1.run A env α s hA hE F) fun v β s₁ sp hb F1 r1 => seq2 (h2.run A env _ s₁ hA hE F1) fun i γ s₂ sp2 hb2 F2 r2 => by
    have r1' := F1.still sp2 hb2 r1
    simp only [RepC] at r1' r2; obtain ⟨t, rfl⟩ := r2
    obtain ⟨a, vs, rfl, ht, hr⟩ := r1'
    obtain ⟨y, h3, h4⟩ := hr.get hx
    have ht' : IsTup s₂.heap a (List.toArray vs) := ht
    exact tail_any ht'.typeIs slot_tuple_getitem.lookup (getItem_tuple ht' hlo hhi (j := j) (by rw [List.size_toArray, hr.length]; exact hj) (by simpa using h3) (Post.up sp hb (Post.up sp2 hb2 (Post.here F2 h4)))) (hs _ _))
/-- a bound of a slice -/
noncomputable def PB (G : Gnd) (n : Nat) (fi : Fi) (σ : AS) : Option Expr → Option Int → AS → Prop
  | none, none, σ' => σ' = σ
  | some e, some k, σ' => PE G n fi σ e (.int k) σ'
  | _, _, _ => False
theorem PB.walk {o : Option Expr} {k : Option Int} {Q : Value → Shared → Prop} (h : PB G n fi σ o k σ₁) (hA : OKA n A) (hE : EnvOk env fi) (F : Fm G env σ α s)
    (q : ∀ v β s₁, Sp G α s s₁ → (∀ b ∈ β, s.heap.get? b = none) → Fm G env σ₁ (α ++ β) s₁ → IsPart v k → Q v s₁) : wpAny (model G.prog G.w) A (evalPart o env) Q bot s := by
  cases o with
  | none =>
    cases k with
    | none => cases h; exact wpAny_pure (q _ [] _ .refl (fun _ h => nomatch h) (by rw [List.append_nil]; exact F) .none)
    | some k => exact h.elim
  | some e =>
    cases k with
    | none => exact h.elim
    | some k =>
      refine seq2 (show wpAny (model G.prog G.w) A (eval e env) _ bot s from h.run A env α s hA hE F) fun v β s₁ sp hb F1 r1 => ?_
      simp only [RepC] at r1; obtain ⟨t, rfl⟩ := r1
      exact q _ β s₁ sp hb F1 (.int k t)
noncomputable def pySlice {τ : Type} (l : List τ) (lo hi : Option Int) : List τ := (l.drop (lo.elim 0 (clipAt l.length))).take (hi.elim l.length (clipAt l.length) - lo.elim 0 (clipAt l.length))
theorem RepsC.drop {X : List Addr} {c : Option (List Addr)} {h : Heap} : ∀ {k : Nat} {ds : List D} {vs : List Value}, RepsC X c h ds vs → RepsC X c h (ds.drop k) (vs.drop k)
  | 0, _, _, x => x
  | k + 1, [], _, x => by simp only [RepsC] at x; subst x; simp only [List.drop_nil, RepsC]
  | k + 1, d :: ds, _, x => by simp only [RepsC] at x; obtain ⟨v, r, rfl, _, h2⟩ := x; simpa using h2.drop (k := k)
theorem RepsC.take {X : List Addr} {c : Option (List Addr)} {h : Heap} : ∀ {k : Nat} {ds : List D} {vs : List Value}, RepsC X c h ds vs → RepsC X c h (ds.take k) (vs.take k)
  | 0, _, _, x => by simp only [List.take_zero, RepsC]
  | k + 1, [], _, x => by simp only [RepsC] at x; subst x; simp only [List.take_nil, RepsC]
  | k + 1, d :: ds, _, x => by simp only [RepsC] at x; obtain ⟨v, r, rfl, h1, h2⟩ := x; simp only [List.take_succ_cons, RepsC]; exact ⟨v, _, rfl, h1, h2.take (k := k)⟩
theorem RepsC.reverse {X : List Addr} {c : Option (List Addr)} {h : Heap} : ∀ {ds : List D} {vs : List Value}, RepsC X c h ds vs → RepsC X c h ds.reverse vs.reverse
  | [], _, x => by simp only [RepsC] at x; subst x; simp only [List.reverse_nil, RepsC]
  | d :: ds, _, x => by
    simp only [RepsC] at x; obtain ⟨v, r, rfl, h1, h2⟩ := x
    rw [List.reverse_cons, List.reverse_cons]
    exact h2.reverse.append (by simp only [RepsC]; exact ⟨v, [], rfl, h1, rfl⟩)
theorem RepsC.set {X : List Addr} {c : Option (List Addr)} {h : Heap} : ∀ {k : Nat} {ds : List D} {vs : List Value} {d : D} {v : Value}, RepsC X c h ds vs → RepC X c h d v → RepsC X c h (ds.set k d) (vs.set k v)
  | _, [], _, _, _, x, _ => by simp only [RepsC] at x; subst x; simp only [List.set_nil, RepsC]
  | 0, d :: ds, _, _, _, x, y => by simp only [RepsC] at x; obtain ⟨v, r, rfl, h1, h2⟩ := x; simp only [List.set_cons_zero, RepsC]; exact ⟨_, _, rfl, y, h2⟩
  | k + 1, d :: ds, _, _, _, x, y => by simp only [RepsC] at x; obtain ⟨v, r, rfl, h1, h2⟩ := x; simp only [List.set_cons_succ, RepsC]; exact ⟨_, _, rfl, h1, h2.set y⟩
theorem RepsC.slice {X : List Addr} {c : Option (List Addr)} {h : Heap} {ds : List D} {vs : List Value} {lo hi : Option Int} (x : RepsC X c h ds vs) : RepsC X c h (pySlice ds lo hi) (pySlice vs lo hi) := by
  unfold pySlice
  rw [x.length]
  exact x.drop.take
theorem fitsIdxI {z : Int} (h0 : 0 ≤ z) (h : z ≤ 1000001) : Builtin.List.listFitsIndex z = true := by
  unfold Builtin.List.listFitsIndex
  simp only [Bool.and_eq_true, decide_eq_true_eq, ge_iff_le]
  constructor <;> omega
theorem pe_slice {value : Expr} {lower upper : Option Expr} {p pos : Pos} {d : D} {ds : List D} {lo hi : Option Int} (h1 : PE G n fi σ value d σ₁) (h2 : PB G n fi σ₁ lower lo σ₂) (h3 : PB G n fi σ₂ upper hi σ₃) (hl : IsL σ₃ d ds) (hz : ds.length ≤ 1000000)
    (ht : ∀ o r, letTemporaryGo value o r = pure () := by intro _ _; rfl) : PE G n fi σ (.Subscript value (.Slice lower upper none p) pos) (.lst (pySlice ds lo hi)) σ₃ := .mk fun A env α s hA hE hF =>
  wpAny_Subscript_list_slice (seq2 (h1.run A env α s hA hE hF) fun v β s₁ sp hb F1 r1 => h2.walk hA hE F1 fun vl γ s₂ sp2 hb2 F2 pl => h3.walk hA hE F2 fun vu δ s₃ sp3 hb3 F3 pu => by
    obtain ⟨a, vs, rfl, hL, hr⟩ := hl.get F3 (F2.still sp3 hb3 (F1.still sp2 hb2 r1))
    have hlen := hr.length
    refine ⟨a, _, lo, hi, rfl, hL, by rw [List.size_toArray, hlen]; exact sizeFits hz, pl, pu, ?_⟩
    have e : slicePick vs.toArray lo hi none = (pySlice vs lo hi).toArray := by rw [slicePick_plain]; simp [pySlice]
    rw [e]
    refine Post.up sp hb (Post.up sp2 hb2 (Post.up sp3 hb3 (Post.lst F3 (fun b o e => push_all _ b o (push_all _ b o e)) ?_ ⟨0, by rw [← Heap.size_push s₃.heap]; exact Heap.get?_push_size _ rfl⟩ ?_)))
    · cases q : s₃.heap.get? (s₃.heap.objs.size + 1) with
      | none => rfl
      | some o => exact absurd (Heap.lt_size q) (Nat.not_lt.mpr (Nat.le_succ _))
    · have k : FrzKeep s₃.heap ((s₃.heap.push { cls := .type "slice", data := .fields #[vl, vu, .none] }).push { cls := .type "list", data := .seq (pySlice vs lo hi).toArray }) := fun b o _ e => push_all _ b o (push_all _ b o e)
      exact (hr.flat k).slice) ht
/-! built-ins on lists -/
theorem c_len {d : D} {ds : List D} (hl : IsL σ d ds) (hz : ds.length ≤ 1000000) : CallOk G n fi σ (.builtin "len") [d] [] [] (.int ds.length) σ := .mk fun A env α s vals kvals hA hE F ra rk => by
  simp only [RepsC] at ra rk; obtain ⟨v, _, rfl, r, rfl⟩ := ra; subst rk
  obtain ⟨a, vs, rfl, hL, hr⟩ := hl.get F r
  refine call_len_list hL (by rw [List.size_toArray, hr.length]; omega) (Post.tok F ?_)
  rw [List.size_toArray, hr.length]; exact rint
theorem ot_list {d : D} {ds : List D} (hl : IsL σ d ds) (hz : ds.length ≤ 1000000) : OT G n fi σ d (!ds.isEmpty) := .mk fun A env α s v _ _ F r => by
  obtain ⟨a, vs, rfl, hL, hr⟩ := hl.get F r
  refine wpAny_truthy_list hL (by rw [List.size_toArray, hr.length]; omega) (Post.tok F ?_)
  have := hr.length
  cases vs <;> cases ds <;> simp at this ⊢
theorem c_list {d : D} {ds : List D} (hl : IsL σ d ds) (hz : ds.length ≤ 1000000) : CallOk G n fi σ (.type "list") [d] [] [] (.ref σ.H.length) { σ with H := σ.H ++ [.list ds] } := .mk fun A env α s vals kvals hA hE F ra rk => by
  simp only [RepsC] at ra rk; obtain ⟨v, _, rfl, r, rfl⟩ := ra; subst rk
  obtain ⟨a, vs, rfl, ⟨o, ho, hc, k, hd⟩, hr⟩ := hl.get F r
  refine call_list_seq a (.inl rfl) ho hc hd (fun h' c' keep hn => ?_) (by rw [List.size_toArray, hr.length]; exact sizeFits hz)
  exact Post.labL F keep get_size ⟨c', hn⟩ (hr.flat fun b o _ e => keep b o e)
theorem o_cat {d e : D} {ds es : List D} (hl : IsL σ d ds) (hl2 : IsL σ e es) (hz : ds.length + es.length ≤ 1000000) : O2 G n fi σ (binaryOp .Add) d e (.lst (ds ++ es)) σ := .mk fun A env α s u v _ _ F r1 r2 => by
  obtain ⟨a, vs, rfl, hL, hr⟩ := hl.get F r1
  obtain ⟨b, ws, rfl, hL2, hr2⟩ := hl2.get F r2
  obtain ⟨⟨cls, dd, data, sl⟩, ho, hc, k, hd⟩ := id hL
  obtain ⟨⟨cls2, dd2, data2, sl2⟩, ho2, hc2, k2, hd2⟩ := id hL2
  simp only at hc hd hc2 hd2
  subst hc hd hc2 hd2
  have e : vs.toArray ++ ws.toArray = (vs ++ ws).toArray := by simp
  refine concat_meets ⟨_, ho, rfl⟩ ⟨_, ho2, rfl⟩ noFill_list_add seq_list_add PySem.F.slot_list_add PySem.F.entry_list_add (PySem.F.args_list_add_2 _ _) (list_addW a b vs.toArray ws.toArray k k2 dd dd2 sl sl2 (by
    rw [List.size_toArray, List.size_toArray, hr.length, hr2.length]; exact sizeFits hz)) ⟨ho, ho2, ?_⟩
  rw [e]
  exact Post.lst F (push_all _) get_size ⟨0, Heap.get?_push_size _ rfl⟩ ((hr.append hr2).flat fun b o _ e => push_all _ b o e)
/-- a label's list changed -/
theorem Post.mut {R : List Addr → List Addr → Heap → τ → Prop} {v : τ} {h' : Heap} {t i : Nat} {a : Addr} {c₀ : Cont} {ds : List D} {vs : List Value} (F : Fm G env σ α s) (hi : σ.H[i]? = some c₀) (ha : α[i]? = some a) (hl : h'.PlainList a vs.toArray) (hs : Heap.SameBut a s.heap h')
    (r : RepsC [] none h' ds vs) (hR : R (xsOf env) α h' v) : Post G env α s { σ with H := σ.H.set i (.list ds) } R v { s with heap := h', toks := t } := by
  have ham : a ∈ α := List.mem_of_getElem? ha
  have sp : Sp G α s { s with heap := h', toks := t } := ⟨⟨h', t, _, rfl⟩, fun b o hb _ e => hs.extBut b o (fun q => hb (q ▸ ham)) e, fun b e => by
    by_cases q : b = a
    · obtain ⟨k, ho⟩ := hl; rw [q]; show (h'.get? a).isSome = true; rw [ho]; rfl
    · obtain ⟨o, ho⟩ := Option.isSome_iff_exists.mp e; show (h'.get? b).isSome = true; rw [hs.extBut b o q ho]; rfl⟩
  have fk := F.labs.frz F.gs sp
  have gs : Gs G h' := F.gs.same (F := [a]) sp.live (fun b o hb e => hs.extBut b o (fun q => hb (by simp [q])) e) fun b hb => by
    rw [List.mem_singleton.mp hb]
    exact ⟨F.labs.g0 a ham, F.labs.tb a ham, fun o e f => by obtain ⟨o', h1, h2⟩ := F.labs.notFrz ham; rw [e] at h1; cases h1; exact h2 f⟩
  have lb : Labs G (α ++ []) h' (σ.H.set i (.list ds)) := by
    rw [List.append_nil]
    refine ⟨by rw [List.length_set]; exact F.labs.len, F.labs.nd, fun j b c h1 h2 => ?_, F.labs.g0, F.labs.tb⟩
    by_cases q : j = i
    · subst q
      rw [ha] at h1; cases h1
      rw [List.getElem?_set_self (List.getElem?_eq_some_iff.mp hi).1] at h2; cases h2
      exact ⟨vs, hl, r⟩
    · rw [List.getElem?_set_ne (Ne.symm q)] at h2
      have := (F.labs.ok j b c h1 h2).still (β := []) fk (fun _ h => nomatch h) (fun o e => hs.extBut b o (fun z => q ((List.getElem?_inj (List.getElem?_eq_some_iff.mp h1).1 F.labs.nd).mp (h1.trans (z ▸ ha.symm)))) e)
      rwa [List.append_nil] at this
  exact ⟨[], sp, (fun _ h => nomatch h), F.step gs sp (fun _ h => nomatch h) lb, by rw [List.append_nil]; exact hR⟩
theorem plain_update {h : Heap} {a : Addr} {its : Array Value} {k : Nat} (f : Array Value → Array Value) (ho : h.get? a = some { cls := .type "list", dict := none, data := .seq its k, slots := #[] }) : (h.update a (Obj.mapSeq f)).PlainList a (f its) := by
  refine ⟨if (f its).size == its.size then k else k + 1, ?_⟩
  rw [Heap.get?_update_self _ ho rfl]; rfl
/-- the label's list in the heap -/
theorem Fm.lab {i : Nat} {ds : List D} {v : Value} (F : Fm G env σ α s) (hi : σ.H[i]? = some (.list ds)) (r : Rep env α s.heap (.ref i) v) : ∃ a vs k, v = .ref a ∧ α[i]? = some a ∧ s.heap.get? a = some { cls := .type "list", dict := none, data := .seq (List.toArray vs) k, slots := #[] } ∧ RepsC [] none s.heap ds vs := by
  simp only [RepC] at r
  obtain ⟨a, α', e, h1, rfl⟩ := r
  cases e
  obtain ⟨vs, ⟨k, h2⟩, h3⟩ := F.labs.ok i a _ h1 hi
  exact ⟨a, vs, k, rfl, h1, h2, h3⟩
/-- what a list holds stays when the list itself changes -/
theorem flat_same {a : Addr} {h' : Heap} {ds : List D} {vs : List Value} (F : Fm G env σ α s) (ha : a ∈ α) (hs : Heap.SameBut a s.heap h') (r : RepsC [] none s.heap ds vs) : RepsC [] none h' ds vs :=
  r.flat fun b o f e => hs.extBut b o (fun q => by obtain ⟨o', h1, h2⟩ := F.labs.notFrz ha; rw [← q, e] at h1; cases h1; exact h2 f) e
theorem c_append {i : Nat} {ds : List D} {x : D} (hi : σ.H[i]? = some (.list ds)) (hf : x.flat = true) (hz : ds.length ≤ 1000000) :
    CallOk G n fi σ (.builtin "list.append") [.ref i, x] [] [] .none { σ with H := σ.H.set i (.list (ds ++ [x])) } := .mk fun A env α s vals kvals hA hE F ra rk => by
  simp only [RepsC] at ra rk; obtain ⟨u, _, rfl, r, v, _, rfl, rx, rfl⟩ := ra; subst rk
  obtain ⟨a, vs, k, rfl, ha, ho, hr⟩ := F.lab hi r
  refine wpAny_list_append_plain ⟨k, ho⟩ (fun h' hl hs => ?_) (by rw [List.size_toArray, hr.length]; exact sizeFits hz)
  refine Post.mut (vs := vs ++ [v]) F hi ha (by simpa using hl) hs ((flat_same F (List.mem_of_getElem? ha) hs hr).append (flat_same F (List.mem_of_getElem? ha) hs (ds := [x]) (vs := [v]) ?_)) rnone
  simp only [RepsC]; exact ⟨v, [], rfl, rx.dn hf, rfl⟩
noncomputable def dIns {τ : Type} (l : List τ) (k : Nat) (x : τ) : List τ := l.take k ++ x :: l.drop k
theorem c_insert {i : Nat} {z : Int} {ds : List D} {x : D} (hi : σ.H[i]? = some (.list ds)) (hf : x.flat = true) (h0 : 0 ≤ z) (hk : z.toNat ≤ ds.length) (hz : ds.length ≤ 1000000) :
    CallOk G n fi σ (.builtin "list.insert") [.ref i, .int z, x] [] [] .none { σ with H := σ.H.set i (.list (dIns ds z.toNat x)) } := .mk fun A env α s vals kvals hA hE F ra rk => by
  simp only [RepsC] at ra rk; obtain ⟨u, _, rfl, r, w, _, rfl, rk', v, _, rfl, rx, rfl⟩ := ra; subst rk
  simp only [RepC] at rk'; obtain ⟨t, rfl⟩ := rk'
  obtain ⟨a, vs, k₀, rfl, ha, ho, hr⟩ := F.lab hi r
  have hlen := hr.length
  have hfit : Builtin.List.listFitsIndex z = true := fitsIdxI h0 (by omega)
  refine call_meets PySem.F.slot_list_insert ⟨_, ho, rfl⟩ PySem.F.entry_list_insert (PySem.F.args_list_insert_3 _ _ _) (PySem.AutoSeq1.list_insert_list_int_val_1 a _ k₀ z t v (by rw [hfit]; decide) (by rw [List.size_toArray, hlen]; exact sizeFits hz)) ⟨ho, ?_⟩
  have hs := Heap.SameBut.update s.heap a (Obj.mapSeq fun xs => have k := if z < 0 then (z + (xs.size : Int)).toNat else min z.toNat xs.size; (xs.extract 0 k).push v ++ xs.extract k)
  refine Post.mut (vs := dIns vs z.toNat v) F hi ha ?_ hs ?_ rnone
  · have := plain_update (fun xs => have k := if z < 0 then (z + (xs.size : Int)).toNat else min z.toNat xs.size; (xs.extract 0 k).push v ++ xs.extract k) ho
    have e : (dIns vs z.toNat v).toArray = (have k := if z < 0 then (z + (vs.toArray.size : Int)).toNat else min z.toNat vs.toArray.size; (vs.toArray.extract 0 k).push v ++ vs.toArray.extract k) := by
      have h1 : ¬ (z < 0) := by omega
      have h2 : min z.toNat vs.toArray.size = z.toNat := by rw [List.size_toArray, hlen]; exact Nat.min_eq_left hk
      simp only [h1, if_false, h2]
      rw [kl_ins_eq]; rfl
    rw [e]; exact this
  · exact ((flat_same F (List.mem_of_getElem? ha) hs hr).take).append (by
      simp only [RepsC]
      refine ⟨v, _, rfl, ?_, (flat_same F (List.mem_of_getElem? ha) hs hr).drop⟩
      have := flat_same F (List.mem_of_getElem? ha) hs (ds := [x]) (vs := [v]) (by simp only [RepsC]; exact ⟨v, [], rfl, rx.dn hf, rfl⟩)
      simp only [RepsC] at this
      obtain ⟨v', r', e, h, _⟩ := this
      cases e; exact h)
theorem c_pop {i : Nat} {z : Int} {ds : List D} {x : D} (hi : σ.H[i]? = some (.list ds)) (h0 : 0 ≤ z) (hx : ds[z.toNat]? = some x) (hz : ds.length ≤ 1000000) :
    CallOk G n fi σ (.builtin "list.pop") [.ref i, .int z] [] [] x { σ with H := σ.H.set i (.list (ds.eraseIdx z.toNat)) } := .mk fun A env α s vals kvals hA hE F ra rk => by
  simp only [RepsC] at ra rk; obtain ⟨u, _, rfl, r, w, _, rfl, rk', rfl⟩ := ra; subst rk
  simp only [RepC] at rk'; obtain ⟨t, rfl⟩ := rk'
  obtain ⟨a, vs, k₀, rfl, ha, ho, hr⟩ := F.lab hi r
  have hlen := hr.length
  obtain ⟨y, hy, ry⟩ := hr.get hx
  have hkl : z.toNat < vs.length := (List.getElem?_eq_some_iff.mp hy).1
  have hsi : seqIndex? z vs.toArray.size = some z.toNat := by
    unfold seqIndex?
    rw [List.size_toArray]
    have h1 : ¬ (z < 0) := by omega
    simp only [h1, if_false]
    rw [if_pos (by simp only [Bool.and_eq_true, decide_eq_true_eq]; constructor <;> omega)]
  have hfit : Builtin.List.listFitsIndex z = true := fitsIdxI h0 (by omega)
  refine call_meets PySem.F.slot_list_pop ⟨_, ho, rfl⟩ PySem.F.entry_list_pop (PySem.F.args_list_pop_2 _ _) (PySem.MeetsSeq.list_pop_at a _ k₀ z t z.toNat y hfit hsi (by simpa using hy) (by rw [List.size_toArray, hlen]; exact sizeFits hz)) ⟨ho, ?_⟩
  have hs := Heap.SameBut.update s.heap a (Obj.mapSeq fun xs => xs.eraseIdxIfInBounds z.toNat)
  refine Post.mut (t := s.toks) (vs := vs.eraseIdx z.toNat) F hi ha ?_ hs ?_ ?_
  · have := plain_update (fun xs => xs.eraseIdxIfInBounds z.toNat) ho
    have e : (vs.eraseIdx z.toNat).toArray = vs.toArray.eraseIdxIfInBounds z.toNat := by
      unfold Array.eraseIdxIfInBounds
      rw [dif_pos (by simpa using hkl)]
      apply Array.toList_inj.mp
      rw [Array.toList_eraseIdx]
    rw [e]; exact this
  · have h0 := flat_same F (List.mem_of_getElem? ha) hs hr
    rw [List.eraseIdx_eq_take_drop_succ, List.eraseIdx_eq_take_drop_succ]
    exact h0.take.append h0.drop
  · have := flat_same F (List.mem_of_getElem? ha) hs (ds := [x]) (vs := [y]) (by simp only [RepsC]; exact ⟨y, [], rfl, ry, rfl⟩)
    simp only [RepsC] at this
    obtain ⟨v', r', e, h, _⟩ := this
    cases e; exact h.flatX.up
theorem c_reverse {i : Nat} {ds : List D} (hi : σ.H[i]? = some (.list ds)) (hz : ds.length ≤ 1000000) :
    CallOk G n fi σ (.builtin "list.reverse") [.ref i] [] [] .none { σ with H := σ.H.set i (.list ds.reverse) } := .mk fun A env α s vals kvals hA hE F ra rk => by
  simp only [RepsC] at ra rk; obtain ⟨u, _, rfl, r, rfl⟩ := ra; subst rk
  obtain ⟨a, vs, k₀, rfl, ha, ho, hr⟩ := F.lab hi r
  refine call_meets PySem.F.slot_list_reverse ⟨_, ho, rfl⟩ PySem.F.entry_list_reverse (PySem.F.args_list_reverse_1 _) (PySem.AutoSeq1.list_reverse_list_0 a _ k₀ (by rw [List.size_toArray, hr.length]; exact sizeFits hz)) ⟨ho, ?_⟩
  have hs := Heap.SameBut.update s.heap a (Obj.mapSeq fun x => x.reverse)
  refine Post.mut (vs := vs.reverse) F hi ha ?_ hs (flat_same F (List.mem_of_getElem? ha) hs hr).reverse rnone
  have := plain_update (fun xs => xs.reverse) ho
  simpa using this
end
end
section
section
variable {τ υ : Type} {G : Gnd} {n m : Nat} {fi : Fi} {env : Env} {A : Around} {α β : List Addr} {s s₁ s₂ s' : Shared} {σ σ' σ₁ σ₂ σ₃ σ₄ : AS}
/-- the method that a name finds on a value -/
structure GM (G : Gnd) (n : Nat) (fi : Fi) (σ : AS) (d : D) (name : Str) (f : Value) (fds : List D) : Prop where
  run : ∀ A env α s v (pl : Sem Bool) (Q : Value × List Value → Shared → Prop), OKA n A → EnvOk env fi → Fm G env σ α s → Rep env α s.heap d v → (∀ vs t, Reps env α s.heap fds vs → Q (f, vs) { s with toks := t }) → wpAny (model G.prog G.w) A (getMethod v name pl) Q bot s
theorem gm_blt {d : D} {T id : String} {name : Str} (hT : ∀ α s v, Fm G env σ α s → Rep env α s.heap d v → s.TypeIs v T ∧ ∀ a, v = .ref a → ∃ o, s.heap.get? a = some o ∧ o.dict = none) (pa : PlainAttrs T) (slot : Slot T name id) (hty : typeOf (.builtin id) = pure (.type "method_descriptor")) :
    ∀ A α s v (pl : Sem Bool) (Q : Value × List Value → Shared → Prop), OKA n A → EnvOk env fi → Fm G env σ α s → Rep env α s.heap d v → (∀ vs t, Reps env α s.heap [d] vs → Q (.builtin id, vs) { s with toks := t }) → wpAny (model G.prog G.w) A (getMethod v name pl) Q bot s :=
  fun A α s v pl Q _ _ F r h => getMethod_builtin (hT α s v F r).1 pa slot hty (hT α s v F r).2 (h [v] s.toks (by simp only [RepsC]; exact ⟨v, [], rfl, r, rfl⟩))
theorem gm_list {i : Nat} {ds : List D} {id : String} {name : Str} (hi : σ.H[i]? = some (.list ds)) (slot : Slot "list" name id) (hty : typeOf (.builtin id) = pure (.type "method_descriptor")) : GM G n fi σ (.ref i) name (.builtin id) [.ref i] := .mk fun A env α s v pl Q hA hE F r h =>
  gm_blt (fi := fi) (n := n) (fun α s v F r => by
    obtain ⟨a, vs, k, rfl, ha, ho, hr⟩ := F.lab hi r
    exact ⟨⟨_, ho, rfl⟩, fun b e => by cases e; exact ⟨_, ho, rfl⟩⟩) PySem.F.plainAttrs_list slot hty A α s v pl Q hA hE F r h
theorem gm_str {x : Str} {id : String} {name : Str} (slot : Slot "str" name id) (hty : typeOf (.builtin id) = pure (.type "method_descriptor")) : GM G n fi σ (.str x) name (.builtin id) [.str x] := .mk fun A env α s v pl Q hA hE F r h =>
  gm_blt (fi := fi) (n := n) (fun α s v F r => by
    simp only [RepC] at r; obtain ⟨t, rfl⟩ := r
    exact ⟨typeIs_str _ _ _, fun b e => nomatch e⟩) PySem.F.plainAttrs_str slot hty A α s v pl Q hA hE F r h
theorem gm_int {x : Int} {id : String} {name : Str} (slot : Slot "int" name id) (hty : typeOf (.builtin id) = pure (.type "method_descriptor")) : GM G n fi σ (.int x) name (.builtin id) [.int x] := .mk fun A env α s v pl Q hA hE F r h =>
  gm_blt (fi := fi) (n := n) (fun α s v F r => by
    simp only [RepC] at r; obtain ⟨t, rfl⟩ := r
    exact ⟨typeIs_int _ _ _, fun b e => nomatch e⟩) PySem.F.plainAttrs_int slot hty A α s v pl Q hA hE F r h
theorem pe_mcall {o : Expr} {name : Str} {apos pos : Pos} {args : List Expr} {kws : List Keyword} {f : Value} {e d : D} {fds ds ks : List D} (ho : PE G n fi σ o e σ₁) (gm : GM G n fi σ₁ e name f fds) (ha : PEs G n fi σ₁ args ds σ₂) (hk : PKs G n fi σ₂ kws ks σ₃)
    (keep : ∀ h, Gs G h → KeepsF G h f) (hc : CallOk G n fi σ₃ f (fds ++ ds) (kws.filterMap (·.arg)) ks d σ₄)
    (he : ∀ env, eval (.Call (.Attribute o name apos) args kws pos) env = (do
      let ov ← eval o env
      standAt apos.atName
      let (f, first) ← holding [ov] (getMethod ov name (do return (← importBound o env).getD true))
      callWith pos f first (backTo pos (starEach args env)) (backToKw pos (keywordEach kws env))) := by intro _; rfl)
    (hp : ∀ env, (backTo pos (starEach args env)).any (·.1) = false := by intro _; rfl) (hall : kws.all (·.arg.isSome) = true := by rfl) : PE G n fi σ (.Call (.Attribute o name apos) args kws pos) d σ₄ := .mk fun A env α s hA hE hF =>
  methodCall_KW (pl := (do return (← importBound o env).getD true)) (seq2 (ho.run A env α s hA hE hF) fun v β s₁ sp hb F1 r1 => gm.run A env _ s₁ v _ _ hA hE F1 r1 fun vs t rv =>
    seq2 (EvCall (fds := fds) hE hA (F1.tok (t := t)) rv ha hk (fun h g _ => keep h g) hc (hp env) hall) fun w δ s₃ sp3 hb3 F3 r3 => Post.up (sp.trans .tok) hb ⟨δ, sp3, hb3, F3, r3⟩) (he env)
theorem c_extend {i : Nat} {d : D} {ds es : List D} (hi : σ.H[i]? = some (.list ds)) (hl : d = .lst es) (hz : ds.length + es.length ≤ 1000000) :
    CallOk G n fi σ (.builtin "list.extend") [.ref i, d] [] [] .none { σ with H := σ.H.set i (.list (ds ++ es)) } := .mk fun A env α s vals kvals hA hE F ra rk => by
  subst hl
  simp only [RepsC] at ra rk; obtain ⟨u, _, rfl, r, v, _, rfl, r2, rfl⟩ := ra; subst rk
  obtain ⟨a, vs, k, rfl, ha, ho, hr⟩ := F.lab hi r
  simp only [RepC] at r2
  obtain ⟨b, ws, _, rfl, e, _, _, ⟨k2, ho2⟩, hr2⟩ := r2
  refine call_meets PySem.F.slot_list_extend ⟨_, ho, rfl⟩ PySem.F.entry_list_extend (PySem.F.args_list_extend_2 _ _) (PySem.AutoSeq1.list_extend_list_list_0 a vs.toArray k b ws.toArray k2 (by
    have h1 : vs.toArray.size + ws.toArray.size ≤ sizeLine := by rw [List.size_toArray, List.size_toArray, hr.length, hr2.length]; exact sizeFits hz
    have h2 : Builtin.List.listTooLong (vs.toArray.size + ws.toArray.size) = false := by unfold Builtin.List.listTooLong; exact decide_eq_false (Nat.not_lt.mpr h1)
    rw [h2, Bool.and_false]; exact Bool.false_ne_true) (by rw [List.size_toArray, hr.length]; exact sizeFits (by omega)) (by
    rw [List.size_toArray, List.size_toArray, hr.length, hr2.length]; exact Nat.le_succ_of_le (sizeFits hz))) ⟨ho, ho2, ?_⟩
  have hs := Heap.SameBut.update s.heap a (Obj.mapSeq fun x => x ++ ws.toArray)
  refine Post.mut (vs := vs ++ ws) F hi ha ?_ hs ((flat_same F (List.mem_of_getElem? ha) hs hr).append (flat_same F (List.mem_of_getElem? ha) hs hr2.flatX)) rnone
  have := plain_update (fun xs => xs ++ ws.toArray) ho
  simpa using this
theorem setItem_plain {l : Addr} {items : Array Value} {c : Nat} {k : Int} {t : Tok} {v : Value} {Q : Unit → Shared → Prop} {E : Value → Shared → Prop} {prog : Program} {w : World} (ho : s.heap.get? l = some { cls := .type "list", dict := none, data := .seq items c, slots := #[] })
    (h0 : 0 ≤ k) (hfit : k < 2 ^ 63) (hn : k < items.size) (hQ : Q () { s with heap := s.heap.update l (Obj.mapSeq (·.setIfInBounds k.toNat v)) }) : wpAny (model prog w) A (setItem (.ref l) (.int k t) v) Q E s := by
  have hl : s.heap.IsList l items := ⟨_, ho, rfl, c, rfl⟩
  unfold setItem
  try with_reducible refine wpAny_holding ?_
  first | refine wpAny_bind (wpAny_pure ?_) | skip
  refine wpAny_bind (wpAny_sequenceKey hl.typeIs (by decide) ?_)
  refine wpAny_bind (wpAny_callSpecial?_slot (name := Str.ofString "__setitem__") hl.typeIs slot_list_setitem
    (wpAny_call_entry slot_list_setitem hl.typeIs entry_list_setitem ?_ (args_list_setitem _ _ _)))
  show wpAny _ _ (Builtin.List.listSubscript? (.int k t) >>= _) _ _ s
  refine wpAny_bind (wpAny_listSubscript_int (fitsIndex_of h0 hfit) ?_)
  clear hfit
  obtain ⟨j, rfl⟩ := Int.eq_ofNat_of_zero_le h0
  have hj : j < items.size := by omega
  have hx' : items[j]? = some items[j] := Array.getElem?_eq_getElem hj
  show wpAny _ _ ((seqItemAt l j >>= fun r => pure (r.map (j, ·))) >>= _) _ _ s
  refine wpAny_bind (wpAny_bind (wpAny_seqItemAt ho rfl (wpAny_pure ?_)))
  rw [hx']
  show wpAny _ _ (setSeqItemAt l j v >>= _) _ _ s
  refine wpAny_bind (wpAny_setSeqItemAt ho rfl ?_)
  first
    | exact wpAny_bind (wpAny_pure (wpAny_pure ⟨.none, rfl, wpAny_pure hQ⟩))
    | exact wpAny_pure ⟨.none, rfl, wpAny_pure hQ⟩
theorem s_setitem {o i e : Expr} {p pos : Pos} {x : D} {l : Nat} {k : Int} {ds : List D} {Q : Out → Prop} (h1 : PE G n fi σ e x σ₁) (h2 : PE G n fi σ₁ o (.ref l) σ₂) (h3 : PE G n fi σ₂ i (.int k) σ₃) (hi : σ₃.H[l]? = some (.list ds)) (hf : x.flat = true)
    (h0 : 0 ≤ k) (hk : k.toNat < ds.length) (hz : ds.length ≤ 1000000) (q : Q (.next { σ₃ with H := σ₃.H.set l (.list (ds.set k.toNat x)) }))
    (hs : ∀ env, swapsWith e (some (.Subscript o i p)) pos.line env = pure false := by intro _; rfl) : S1 G n fi σ (.Assign [.Subscript o i p] e pos) Q := .mk fun A env α s hA hE F =>
  wpAny_Assign_Subscript (seq2 (h1.run A env α s hA hE F) fun u β s₁ sp hb F1 r1 => seq2 (h2.run A env _ s₁ hA hE F1) fun v γ s₂ sp2 hb2 F2 r2 => seq2 (h3.run A env _ s₂ hA hE F2) fun w δ s₃ sp3 hb3 F3 r3 => by
    have r1' := F2.still sp3 hb3 (F1.still sp2 hb2 r1)
    obtain ⟨a, vs, c, rfl, ha, ho, hr⟩ := F3.lab hi (F2.still sp3 hb3 r2)
    simp only [RepC] at r3; obtain ⟨t, rfl⟩ := r3
    have hlen := hr.length
    refine setItem_plain ho h0 (by omega) (by rw [List.size_toArray, hlen]; omega) ?_
    have hss := Heap.SameBut.update s₃.heap a (Obj.mapSeq (·.setIfInBounds k.toNat u))
    have ham := List.mem_of_getElem? ha
    have hx : RepC [] none (s₃.heap.update a (Obj.mapSeq (·.setIfInBounds k.toNat u))) x u := by
      have := flat_same F3 ham hss (ds := [x]) (vs := [u]) (by simp only [RepsC]; exact ⟨u, [], rfl, r1'.dn hf, rfl⟩)
      simp only [RepsC] at this
      obtain ⟨v', r', e, h, _⟩ := this
      cases e; exact h
    have P : Post G env _ s₃ { σ₃ with H := σ₃.H.set l (.list (ds.set k.toNat x)) } (fun _ _ _ (_ : Unit) => True) () { s₃ with heap := s₃.heap.update a (Obj.mapSeq (·.setIfInBounds k.toNat u)), toks := s₃.toks } :=
      Post.mut (vs := vs.set k.toNat u) F3 hi ha (by have := plain_update (fun xs => xs.setIfInBounds k.toNat u) ho; simpa using this) hss ((flat_same F3 ham hss hr).set hx) trivial
    obtain ⟨ε, sp4, hb4, F4, _⟩ := P
    exact SPost.up sp.foot hb (SPost.up sp2.foot hb2 (SPost.up sp3.foot hb3 ⟨.next _, ε, q, sp4.foot, hb4, F4, rfl⟩))) (hs env)
theorem dRep_eq (k : Nat) (v : Value) : (List.foldl (fun x1 x2 => x1 ++ x2) #[] (List.replicate k #[v])) = (List.replicate k v).toArray := by
  have : ∀ (acc : Array Value), List.foldl (fun x1 x2 => x1 ++ x2) acc (List.replicate k #[v]) = acc ++ (List.replicate k v).toArray := by
    induction k with
    | zero => intro acc; simp
    | succ k ih =>
      intro acc
      rw [List.replicate_succ, List.foldl_cons, ih, List.replicate_succ]
      apply Array.toList_inj.mp
      simp
  rw [this]; simp
theorem RepsC.replicate {X : List Addr} {c : Option (List Addr)} {h : Heap} {d : D} {v : Value} (r : RepC X c h d v) : ∀ k, RepsC X c h (List.replicate k d) (List.replicate k v)
  | 0 => by simp only [List.replicate_zero, RepsC]
  | k + 1 => by simp only [List.replicate_succ, RepsC]; exact ⟨v, _, rfl, r, RepsC.replicate r k⟩
/-- [x] * k -/
theorem o_rep {k : Int} {x : D} (h0 : 0 ≤ k) (hk : k ≤ 1000000) : O2 G n fi σ (binaryOp .Mult) (.lst [x]) (.int k) (.ref σ.H.length) { σ with H := σ.H ++ [.list (List.replicate k.toNat x)] } := .mk fun A env α s u v _ _ F r1 r2 => by
  simp only [RepC, RepsC] at r1 r2
  obtain ⟨a, vs, _, rfl, _, _, _, ⟨c, ho⟩, ⟨y, _, rfl, ry, rfl⟩⟩ := r1
  obtain ⟨t, rfl⟩ := r2
  refine wpAny_binaryOp_repeat_ref (T := "list") (U := "int") (by decide) ⟨_, ho, rfl⟩ (fun s' => typeIs_int s' k t) noFill_list_mul PySem.F.fills_int_mul PySem.F.slot_int_rmul repeat_list PySem.F.slot_int_index.lookup
    (call_meets PySem.F.slot_int_rmul (typeIs_int s k t) PySem.F.entry_int_rmul (PySem.F.args_int_rmul_2 _ _) (int___rmul___int_list k t a _ c)
      ⟨ho, rfl, ⟨_, ho, rfl⟩, call_meets PySem.F.slot_list_mul ⟨_, ho, rfl⟩ PySem.F.entry_list_mul (PySem.F.args_list_mul_2 _ _)
        (AutoListH.list___mul___list_int_3 a _ c k t (by simp [Builtin.List.listFitsIndex]; omega) (by
          have : [y].toArray.size = 1 := rfl
          rw [this]; omega) (by
          simp [Builtin.List.listTooLong, sizeLine]; omega)) ⟨ho, ?_⟩⟩)
  have e : (List.foldl (fun x1 x2 => x1 ++ x2) #[] (List.replicate (if ([y].toArray).isEmpty = true then 0 else k.toNat) [y].toArray)) = (List.replicate k.toNat y).toArray := by
    rw [← dRep_eq]; rfl
  rw [e]
  exact Post.labL F (push_all _) get_size ⟨0, Heap.get?_push_size _ rfl⟩ ((RepsC.replicate ry _).flatX.flat fun b o _ e => push_all _ b o e)
/-! comparisons -/
theorem o_isNone {d : D} (hd : d ≠ .none) (ha : d ≠ .any) (hv : ∀ u, d = .val u → u ≠ .none) : O2 G n fi σ (compareOp .Is) d .none (.bool false) σ := .mk fun A env α s u v _ _ F r1 r2 => by
  simp only [RepC] at r2; subst r2
  refine is_none ?_
  have : (u == Value.none) = false := by
    cases d with
    | none => exact absurd rfl hd
    | bool b => simp only [RepC] at r1; subst r1; rfl
    | int i => simp only [RepC] at r1; obtain ⟨t, rfl⟩ := r1; rfl
    | str i => simp only [RepC] at r1; obtain ⟨t, rfl⟩ := r1; rfl
    | tup ds => simp only [RepC] at r1; obtain ⟨a, vs, rfl, _⟩ := r1; rfl
    | lst ds => simp only [RepC] at r1; obtain ⟨a, vs, _, rfl, _⟩ := r1; rfl
    | hdr C ds => simp only [RepC] at r1; obtain ⟨a, _, _, _, _, _, _, _, rfl, _⟩ := r1; rfl
    | any => exact absurd rfl ha
    | ref i => simp only [RepC] at r1; obtain ⟨a, _, _, _, rfl⟩ := r1; rfl
    | val w => simp only [RepC] at r1; subst r1; simpa using hv _ rfl
    | fn => simp only [RepC] at r1; obtain ⟨a, _, _, _, _, rfl, _⟩ := r1; rfl
  rw [this]; exact Post.here F rbool
theorem o_noneIsNone : O2 G n fi σ (compareOp .Is) .none .none (.bool true) σ := .mk fun A env α s u v _ _ F r1 r2 => by
  simp only [RepC] at r1 r2; subst r1; subst r2
  exact is_none (Post.here F rbool)
theorem o_isNotNone {d : D} (hd : d ≠ .none) (ha : d ≠ .any) (hv : ∀ u, d = .val u → u ≠ .none) : O2 G n fi σ (compareOp .IsNot) d .none (.bool true) σ := .mk fun A env α s u v _ _ F r1 r2 => by
  simp only [RepC] at r2; subst r2
  refine isNot_none ?_
  have : (u == Value.none) = false := by
    cases d with
    | none => exact absurd rfl hd
    | bool b => simp only [RepC] at r1; subst r1; rfl
    | int i => simp only [RepC] at r1; obtain ⟨t, rfl⟩ := r1; rfl
    | str i => simp only [RepC] at r1; obtain ⟨t, rfl⟩ := r1; rfl
    | tup ds => simp only [RepC] at r1; obtain ⟨a, vs, rfl, _⟩ := r1; rfl
    | lst ds => simp only [RepC] at r1; obtain ⟨a, vs, _, rfl, _⟩ := r1; rfl
    | hdr C ds => simp only [RepC] at r1; obtain ⟨a, _, _, _, _, _, _, _, rfl, _⟩ := r1; rfl
    | any => exact absurd rfl ha
    | ref i => simp only [RepC] at r1; obtain ⟨a, _, _, _, rfl⟩ := r1; rfl
    | val w => simp only [RepC] at r1; subst r1; simpa using hv _ rfl
    | fn => simp only [RepC] at r1; obtain ⟨a, _, _, _, _, rfl, _⟩ := r1; rfl
  rw [this]; exact Post.here F rbool
theorem o_noneIsNotNone : O2 G n fi σ (compareOp .IsNot) .none .none (.bool false) σ := .mk fun A env α s u v _ _ F r1 r2 => by
  simp only [RepC] at r1 r2; subst r1; subst r2
  exact isNot_none (Post.here F rbool)
/-- == of two data, wherever they stand -/
noncomputable def EqD (k : Nat) (x y : D) (b : Bool) : Prop := ∀ (A : Around) (s : Shared) (X X' : List Addr) (c c' : Option (List Addr)) (u v : Value), A.units + k < cLine → RepC X c s.heap x u → RepC X' c' s.heap y v → SeqAt.EqAt A s u v b
/-- an encoding whose == is equality -/
structure Enc {τ : Type} [DecidableEq τ] (k : Nat) (f : τ → D) : Prop where
  eq : ∀ a b, EqD k (f a) (f b) (decide (a = b))
  uniq : ∀ a b X X' c c' h v, RepC X c h (f a) v → RepC X' c' h (f b) v → a = b
theorem enc_int {k : Nat} : Enc k D.int := by
  refine ⟨fun a b A s X X' c c' u v _ r1 r2 => ?_, fun a b X X' c c' h v r1 r2 => ?_⟩
  · simp only [RepC] at r1 r2; obtain ⟨t, rfl⟩ := r1; obtain ⟨t', rfl⟩ := r2
    exact SeqAt.EqAt.int_int _ _ _ _
  · simp only [RepC] at r1 r2; obtain ⟨t, rfl⟩ := r1; obtain ⟨t', e⟩ := r2
    cases e; rfl
theorem enc_str {k : Nat} : Enc k D.str := by
  refine ⟨fun a b A s X X' c c' u v _ r1 r2 => ?_, fun a b X X' c c' h v r1 r2 => ?_⟩
  · simp only [RepC] at r1 r2; obtain ⟨t, rfl⟩ := r1; obtain ⟨t', rfl⟩ := r2
    have : decide (a = b) = (a == b) := by rw [Bool.eq_iff_iff, beq_iff_eq, decide_eq_true_eq]
    rw [this]
    exact SeqAt.EqAt.str_str _ _ _ _
  · simp only [RepC] at r1 r2; obtain ⟨t, rfl⟩ := r1; obtain ⟨t', e⟩ := r2
    cases e; rfl
theorem all_range_zip {α β : Type} (p : Nat → Bool) (q : α → β → Bool) : ∀ (xs : List α) (ys : List β), xs.length = ys.length → (∀ i x y, xs[i]? = some x → ys[i]? = some y → p i = q x y) → (List.range xs.length).all p = (xs.zip ys).all fun z => q z.1 z.2 := by
  intro xs
  induction xs generalizing p with
  | nil => intro ys _ _; rfl
  | cons x xs ih =>
    intro ys hl h
    cases ys with
    | nil => simp at hl
    | cons y ys =>
      rw [List.length_cons, List.range_succ_eq_map, List.all_cons, List.zip_cons_cons, List.all_cons, List.all_map]
      rw [h 0 x y rfl rfl]
      congr 1
      exact ih (p ∘ Nat.succ) ys (by simpa using hl) fun i a b h1 h2 => h (i + 1) a b (by simpa using h1) (by simpa using h2)
theorem zip_all_eq {α : Type} [DecidableEq α] : ∀ (xs ys : List α), xs.length = ys.length → ((xs.zip ys).all fun z => decide (z.1 = z.2)) = decide (xs = ys)
  | [], [], _ => by simp
  | [], _ :: _, h => by simp at h
  | _ :: _, [], h => by simp at h
  | x :: xs, y :: ys, h => by
    rw [List.zip_cons_cons, List.all_cons, zip_all_eq xs ys (by simpa using h)]
    by_cases hx : x = y <;> by_cases hy : xs = ys <;> simp [hx, hy]
theorem rep_map_get {X : List Addr} {c : Option (List Addr)} {h : Heap} {f : υ → D} {xs : List υ} {vs : List Value} (r : RepsC X c h (xs.map f) vs) {i : Nat} (hi : i < vs.toArray.size) : ∃ x, xs[i]? = some x ∧ RepC X c h (f x) vs.toArray[i] := by
  have hi' : i < vs.length := by simpa using hi
  obtain ⟨d, h1, h2⟩ := r.back (List.getElem?_eq_getElem hi')
  rw [List.getElem?_map] at h1
  obtain ⟨x, h3, h4⟩ := Option.map_eq_some_iff.mp h1
  exact ⟨x, h3, by rw [h4]; simpa using h2⟩
theorem o_eqL [DecidableEq υ] {f : υ → D} (hf : Enc 50 f) {d e : D} {xs ys : List υ} (h1 : IsL σ d (xs.map f)) (h2 : IsL σ e (ys.map f)) : O2 G n fi σ (compareOp .Eq) d e (.bool (decide (xs = ys))) σ := .mk fun A env α s u v hA _ F r1 r2 => by
  obtain ⟨a, vs, rfl, hL, hr⟩ := h1.get F r1
  obtain ⟨b, ws, rfl, hL2, hr2⟩ := h2.get F r2
  have l1 : vs.length = xs.length := by rw [hr.length, List.length_map]
  have l2 : ws.length = ys.length := by rw [hr2.length, List.length_map]
  by_cases hl : xs.length = ys.length
  · have hu : A.in1.units + 50 < cLine := by have := hA.u; unfold cLine; simp only [Around.in1]; omega
    have key : ∀ (i : Nat) (x y : υ), xs[i]? = some x → ys[i]? = some y → (fun i => match xs[i]?, ys[i]? with | some x, some y => decide (x = y) | _, _ => false) i = decide (x = y) := fun i x y hx hy => by simp only [hx, hy]
    refine SeqAt.eq_listAt (e := fun i => match xs[i]?, ys[i]? with | some x, some y => decide (x = y) | _, _ => false) hL hL2 (by simp [l1, l2, hl]) hA.units (fun j q1 q2 => ?_) ?_
    · obtain ⟨x, hx, rx⟩ := rep_map_get hr q1
      obtain ⟨y, hy, ry⟩ := rep_map_get hr2 q2
      simp only [hx, hy]
      exact hf.eq x y A.in1 s _ _ _ _ _ _ hu rx ry
    · rw [List.size_toArray, l1, all_range_zip _ (fun x y => decide (x = y)) xs ys hl key, zip_all_eq xs ys hl]
      exact Post.here F rbool
  · refine SeqAt.eq_list_lengthsAt hL hL2 (by simp [l1, l2]; exact hl) hA.units ?_
    have : decide (xs = ys) = false := decide_eq_false fun e => hl (by rw [e])
    rw [this]
    exact Post.here F rbool
theorem o_neL [DecidableEq υ] {f : υ → D} (hf : Enc 50 f) {d e : D} {xs ys : List υ} (h1 : IsL σ d (xs.map f)) (h2 : IsL σ e (ys.map f)) : O2 G n fi σ (compareOp .NotEq) d e (.bool (!decide (xs = ys))) σ := .mk fun A env α s u v hA _ F r1 r2 => by
  obtain ⟨a, vs, rfl, hL, hr⟩ := h1.get F r1
  obtain ⟨b, ws, rfl, hL2, hr2⟩ := h2.get F r2
  have l1 : vs.length = xs.length := by rw [hr.length, List.length_map]
  have l2 : ws.length = ys.length := by rw [hr2.length, List.length_map]
  by_cases hl : xs.length = ys.length
  · have hu : A.in1.units + 50 < cLine := by have := hA.u; unfold cLine; simp only [Around.in1]; omega
    have key : ∀ (i : Nat) (x y : υ), xs[i]? = some x → ys[i]? = some y → (fun i => match xs[i]?, ys[i]? with | some x, some y => decide (x = y) | _, _ => false) i = decide (x = y) := fun i x y hx hy => by simp only [hx, hy]
    refine SeqAt.RcNeAt.lists (e := fun i => match xs[i]?, ys[i]? with | some x, some y => decide (x = y) | _, _ => false) hL hL2 (by simp [l1, l2, hl]) hA.units (fun j q1 q2 => ?_) _ _ _ _ ?_
    · obtain ⟨x, hx, rx⟩ := rep_map_get hr q1
      obtain ⟨y, hy, ry⟩ := rep_map_get hr2 q2
      simp only [hx, hy]
      exact hf.eq x y A.in1 s _ _ _ _ _ _ hu rx ry
    · rw [List.size_toArray, l1, all_range_zip _ (fun x y => decide (x = y)) xs ys hl key, zip_all_eq xs ys hl]
      exact Post.here F rbool
  · refine SeqAt.RcNeAt.lists_lengths hL hL2 (by simp [l1, l2]; exact hl) hA.units _ _ _ _ ?_
    have : decide (xs = ys) = false := decide_eq_false fun e => hl (by rw [e])
    rw [this]
    exact Post.here F rbool
theorem enc_pair {k : Nat} {υ' : Type} [DecidableEq υ] [DecidableEq υ'] {f : υ → D} {g : υ' → D} (hf : Enc k f) (hg : Enc k g) : Enc (k + 1) fun (p : υ × υ') => D.tup [f p.1, g p.2] := by
  have uq : ∀ (p q : υ × υ') X X' c c' h v, RepC X c h (D.tup [f p.1, g p.2]) v → RepC X' c' h (D.tup [f q.1, g q.2]) v → p = q := fun p q X X' c c' h v r1 r2 => by
    simp only [RepC, RepsC] at r1 r2
    obtain ⟨a, vs, rfl, ⟨o, ho, hc, n, hd⟩, v1, _, rfl, x1, v2, _, rfl, x2, rfl⟩ := r1
    obtain ⟨b, ws, e, ⟨o', ho', hc', n', hd'⟩, w1, _, rfl, y1, w2, _, rfl, y2, rfl⟩ := r2
    cases e
    rw [ho] at ho'; cases ho'
    rw [hd] at hd'; cases hd'
    exact Prod.ext (hf.uniq _ _ _ _ _ _ _ _ x1 y1) (hg.uniq _ _ _ _ _ _ _ _ x2 y2)
  refine ⟨fun p q A s X X' c c' u v hu r1 r2 => ?_, uq⟩
  have r1' := r1
  have r2' := r2
  simp only [RepC, RepsC] at r1' r2'
  obtain ⟨a, vs, rfl, ht, v1, _, rfl, x1, v2, _, rfl, x2, rfl⟩ := r1'
  obtain ⟨b, ws, rfl, ht2, w1, _, rfl, y1, w2, _, rfl, y2, rfl⟩ := r2'
  by_cases hab : a = b
  · subst hab
    have : p = q := uq _ _ _ _ _ _ _ _ r1 r2
    rw [decide_eq_true this]
    exact SeqAt.EqAt.same _
  · have hu1 : A.in1.units + k < cLine := by simp only [Around.in1]; omega
    have := SeqAt.RcAt.tuples (A := A) (e := fun j => if j = 0 then decide (p.1 = q.1) else decide (p.2 = q.2)) ht ht2 (by omega) (fun j h1 h2 => by
      match j, h1, h2 with
      | 0, _, _ => exact hf.eq _ _ A.in1 s _ _ _ _ _ _ hu1 x1 y1
      | 1, _, _ => exact hg.eq _ _ A.in1 s _ _ _ _ _ _ hu1 x2 y2
      | j + 2, h1, _ => exact absurd (show j + 2 < 2 from h1) (by omega))
    have e : ((List.range (min [v1, v2].toArray.size [w1, w2].toArray.size)).all (fun j => if j = 0 then decide (p.1 = q.1) else decide (p.2 = q.2)) && [v1, v2].toArray.size == [w1, w2].toArray.size) = decide (p = q) := by
      show (((List.range 2).all fun j => if j = 0 then decide (p.1 = q.1) else decide (p.2 = q.2)) && true) = decide (p = q)
      simp only [List.range_succ, List.range_zero, List.nil_append, List.cons_append, List.all_cons, List.all_nil, Bool.and_true, if_true, Nat.one_ne_zero, if_false]
      rw [Bool.eq_iff_iff]
      simp [Prod.ext_iff]
    rw [e] at this
    exact SeqAt.EqAt.of_refs hab this
end
end
section
/-- an iterator's object: what nothing else of a frame is -/
noncomputable def ItObj (o : Obj) : Prop := ∃ vs, o.data = .fields vs ∧ ∀ q t, vs[1]? ≠ some (.str q t)
theorem ItObj.notFrz {o : Obj} (x : ItObj o) : ¬ Frz o := fun f => by
  obtain ⟨vs, h1, h2⟩ := x
  rcases f with ⟨_, xs, n, h3⟩ | ⟨fd, h3⟩ | ⟨us, q, t, h3, h4⟩
  · rw [h1] at h3; cases h3
  · rw [h1] at h3; cases h3
  · rw [h1] at h3; cases h3; exact h2 q t h4
structure Itr (G : Gnd) (A : Around) (I : Addr) (fp wr : List Addr) (tgt : Expr) (h₀ : Heap) (src : List D) (St : Nat → Heap → Prop) (Mid : Nat → Value → Heap → Prop) : Prop where
  sub : ∀ b ∈ wr, b ∈ fp
  frame : ∀ i h h', St i h → (∀ b ∈ fp, ∀ o, h.get? b = some o → h'.get? b = some o) → St i h'
  obj : ∀ i h, St i h → ∀ b ∈ wr, ∃ o, h.get? b = some o ∧ ItObj o
  objM : ∀ i v h, Mid i v h → ∀ b ∈ wr, ∃ o, h.get? b = some o ∧ ItObj o
  item : ∀ i (s : Shared) (Q : Option Value → Shared → Prop) (E : Value → Shared → Prop), i < src.length → St i s.heap → FrzKeep h₀ s.heap →
    (∀ v h' tk d, src[i]? = some d → RepC [] none h' d v → Mid i v h' → (∀ b o, b ∉ wr → s.heap.get? b = some o → h'.get? b = some o) → Q (some v) { s with heap := h', toks := tk }) → wpAny (model G.prog G.w) A (pyNext (.ref I)) Q E s
  go : ∀ i v (s : Shared) (Q : Unit → Shared → Prop) (E : Value → Shared → Prop), Mid i v s.heap →
    (∀ h', St (i + 1) h' → (∀ b o, b ∉ wr → s.heap.get? b = some o → h'.get? b = some o) → Q () { s with heap := h' }) → wpAny (model G.prog G.w) A (letOwnedTupleGo tgt (.ref I) v) Q E s
  done : ∀ (s : Shared) (Q : Option Value → Shared → Prop) (E : Value → Shared → Prop), St src.length s.heap →
    (∀ h' tk, (∀ b o, b ∉ wr → s.heap.get? b = some o → h'.get? b = some o) → Q none { s with heap := h', toks := tk }) → wpAny (model G.prog G.w) A (pyNext (.ref I)) Q E s
  self : ∀ i (s : Shared) (Q : Value → Shared → Prop) (E : Value → Shared → Prop), St i s.heap → Q (.ref I) s → wpAny (model G.prog G.w) A (pyIter (.ref I)) Q E s
/-- a loop's change: the labels, and the iterator's own objects -/
structure Spw (G : Gnd) (F wr : List Addr) (s s' : Shared) : Prop where
  same : ∃ h tk dr, s' = { s with heap := h, toks := tk, drawn := dr }
  keep : ∀ b o, b ∉ F → b ∉ wr → b ∉ G.TB → s.heap.get? b = some o → s'.heap.get? b = some o
  live : ∀ b, b ∉ wr → (s.heap.get? b).isSome → (s'.heap.get? b).isSome
section
variable {τ υ : Type} {G : Gnd} {n m : Nat} {fi : Fi} {env : Env} {A : Around} {α β wr fp : List Addr} {s s₀ s₁ s₂ s' : Shared} {σ σ' σ₁ σ₂ σ₃ σ₄ : AS} {h' : Heap} {t : Nat}
theorem Spw.refl {F : List Addr} : Spw G F wr s s := ⟨⟨s.heap, s.toks, _, rfl⟩, fun _ _ _ _ _ e => e, fun _ _ e => e⟩
theorem Spw.sp {F : List Addr} (x : Spw G F wr s s₁) (y : Sp G F s₁ s₂) : Spw G F wr s s₂ := by
  obtain ⟨⟨h, t, dr, rfl⟩, k, l⟩ := x
  obtain ⟨⟨h', t', dr', rfl⟩, k', l'⟩ := y
  exact ⟨⟨h', t', _, rfl⟩, fun b o hf hw ht e => k' b o hf ht (k b o hf hw ht e), fun b hw e => l' b (l b hw e)⟩
/-- the iterator steps, or something new changes -/
theorem Spw.next {F : List Addr} {ch : List Addr} (x : Spw G F wr s s₁) (k : ∀ b o, b ∉ ch → s₁.heap.get? b = some o → h'.get? b = some o) (hc : ∀ b ∈ ch, b ∈ wr ∨ s.heap.get? b = none) : Spw G F wr s { s₁ with heap := h', toks := t } := by
  obtain ⟨⟨h, t, dr, rfl⟩, kp, l⟩ := x
  refine ⟨⟨h', _, _, rfl⟩, fun b o hf hw ht e => k b o (fun q => ?_) (kp b o hf hw ht e), fun b hw e => ?_⟩
  · rcases hc b q with q | q
    · exact hw q
    · rw [q] at e; cases e
  · obtain ⟨o, ho⟩ := Option.isSome_iff_exists.mp (l b hw e)
    rw [k b o (fun q => ?_) ho]; rfl
    rcases hc b q with q | q
    · exact hw q
    · rw [q] at e; cases e
theorem Sp.spw {F : List Addr} (x : Sp G F s s₁) (y : Spw G F wr s₁ s₂) (hw : ∀ b ∈ wr, s.heap.get? b = none) : Sp G F s s₂ := by
  obtain ⟨⟨h, t, dr, rfl⟩, k, l⟩ := x
  obtain ⟨⟨h', t', dr', rfl⟩, k', l'⟩ := y
  refine ⟨⟨h', t', _, rfl⟩, fun b o hf ht e => k' b o hf (fun q => ?_) ht (k b o hf ht e), fun b e => l' b (fun q => ?_) (l b e)⟩
  · rw [hw b q] at e; cases e
  · rw [hw b q] at e; cases e
/-- the iterator's objects at the loop's start -/
structure WrOk (G : Gnd) (env : Env) (α wr : List Addr) (h : Heap) : Prop where
  obj : ∀ b ∈ wr, ∃ o, h.get? b = some o ∧ ItObj o
  nα : ∀ b ∈ wr, b ∉ α
  nx : ∀ b ∈ wr, b ∉ xsOf env
  ng : ∀ b ∈ wr, G.g0.get? b = none
  nt : ∀ b ∈ wr, b ∉ G.TB
theorem Spw.frz (sp : Spw G α wr s s') (gs : Gs G s.heap) (hα : ∀ a ∈ α, ∃ o, s.heap.get? a = some o ∧ ¬ Frz o) (w : ∀ b ∈ wr, ∃ o, s.heap.get? b = some o ∧ ItObj o) : FrzKeep s.heap s'.heap := fun a o f e =>
  sp.keep a o (fun q => by obtain ⟨o', h1, h2⟩ := hα a q; rw [e] at h1; cases h1; exact h2 f) (fun q => by obtain ⟨o', h1, h2⟩ := w a q; rw [e] at h1; cases h1; exact h2.notFrz f)
    (fun q => by obtain ⟨o', h1, h2⟩ := gs.notFrz q; rw [e] at h1; cases h1; exact h2 f) e
theorem Spw.lst {X : List Addr} (sp : Spw G α wr s s') (gs : Gs G s.heap) (w : ∀ b ∈ wr, ∃ o, s.heap.get? b = some o ∧ ItObj o) : LstKeep X (some α) s.heap s'.heap := fun α' e a o ha hx hl ho => by
  cases e
  refine sp.keep a o ha (fun q => ?_) (fun q => ?_) ho
  · obtain ⟨o', h1, vs, h2, _⟩ := w a q; rw [ho] at h1; cases h1; exact hl _ h2
  · obtain ⟨r, hr, rfl⟩ := List.mem_map.mp q
    obtain ⟨ps, h1, _⟩ := gs.tabs r hr
    rw [ho] at h1; cases h1
    exact hl _ rfl
theorem stillα {X : List Addr} {h h' : Heap} (fk : FrzKeep h h') (lk : LstKeep X (some α) h h') {d : D} {v : Value} (r : RepC X (some α) h d v) : RepC X (some α) h' d v := by
  have := RepC.still (c' := some (α ++ [])) fk lk (grow_of fun _ h => nomatch h) r
  rwa [List.append_nil] at this
theorem Labs.chg {H : List Cont} {ch : List Addr} {h : Heap} (L : Labs G α h H) (k : ∀ b o, b ∉ ch → h.get? b = some o → h'.get? b = some o) (hc : ∀ b ∈ ch, b ∉ α) (fk : FrzKeep h h') : Labs G α h' H := by
  refine ⟨L.len, L.nd, fun i a c h1 h2 => ?_, L.g0, L.tb⟩
  have := (L.ok i a c h1 h2).still (β := []) fk (fun _ h => nomatch h) (fun o e => k a o (fun q => hc a q (List.mem_of_getElem? h1)) e)
  rwa [List.append_nil] at this
theorem Gs.chg {ch : List Addr} {h : Heap} (gs : Gs G h) (k : ∀ b o, b ∉ ch → h.get? b = some o → h'.get? b = some o) (hg : ∀ b ∈ ch, G.g0.get? b = none) (ht : ∀ b ∈ ch, b ∉ G.TB) (hf : ∀ b ∈ ch, ∀ o, h.get? b = some o → ¬ Frz o) : Gs G h' := by
  refine ⟨fun b o e => k b o (fun q => by rw [hg b q] at e; cases e) (gs.base b o e), fun q hq => ?_, fun q hq => let ⟨f, e⟩ := gs.fx q hq; ⟨f, k _ _ (fun z => hf _ z _ e f) e⟩⟩
  obtain ⟨ps, h1, h2⟩ := gs.tabs q hq
  refine ⟨ps, k _ _ (fun z => ht _ z (List.mem_map_of_mem hq)) h1, h2.imp id fun ⟨c', e, r⟩ => ⟨c', e, frz_code (fun a o f e => k a o (fun z => hf a z o e f) e) r⟩⟩
/-- the frame at a later state of the loop -/
theorem Fm.reframe (F : Fm G env σ α s) (sp : Spw G α wr s s') (gs : Gs G s'.heap) (lb : Labs G α s'.heap σ.H) (w : WrOk G env α wr s.heap) : Fm G env σ α s' := by
  have fk := sp.frz F.gs (fun a ha => F.labs.notFrz ha) w.obj
  have lk := sp.lst (X := xsOf env) F.gs w.obj
  refine ⟨gs, lb, ?_, fun x d e => ?_, fun c hc => ?_, F.nd, F.la, F.ca, F.lg, F.cg⟩
  · obtain ⟨m, hn, hr⟩ := F.loc
    exact ⟨m, hn.at' fun o e => sp.keep _ _ F.la (fun q => w.nx _ q (.head _)) F.ltb e, fun x d e => let ⟨v, h1, h2⟩ := hr x d e; ⟨v, h1, stillα fk lk h2⟩⟩
  · obtain ⟨c, v, h1, ⟨o, h2, h2'⟩, h3⟩ := F.cel x d e
    have hc := mem_cells h1
    exact ⟨c, v, h1, ⟨o, sp.keep _ _ (F.ca c hc) (fun q => w.nx _ q (.tail _ hc)) (F.ctb hc) h2, h2'⟩, stillα fk lk h3⟩
  · obtain ⟨v, o, h2, h2'⟩ := F.cells c hc
    exact ⟨v, o, sp.keep _ _ (F.ca c hc) (fun q => w.nx _ q (.tail _ hc)) (F.ctb hc) h2, h2'⟩
/-! a comprehension's own frame -/
noncomputable def relF (scope outer : Scope) : Scope := { scope with names := scope.names.map fun (n, k) => if (k == .free && outer.kind == .function && outer.names.lookup n == some .cell) then (n, .cell) else (n, k) }
noncomputable def fiC (fi : Fi) (scope : Scope) : Fi := ⟨relF scope fi.scope, fi.code, false, none⟩
noncomputable def clOf (env : Env) : List (Str × NameKind) → List (Str × Addr) → List (Str × Addr)
  | [], acc => acc
  | (n, k) :: r, acc => clOf env r (if k == .free then (n, (env.cells.lookup n).getD 0) :: acc else acc)
noncomputable def celF (scope : Scope) (σ : AS) : List (Str × D) := σ.cel.filter fun p => scope.names.lookup p.1 == some .free
theorem closure_ok {names : List (Str × NameKind)} {acc : List (Str × Addr)} (h : ∀ x ∈ names, x.2 = .free → ∃ c, env.cells.lookup x.1 = some c) :
    (forIn names acc (fun x (r : List (Str × Addr)) => if (x.2 == NameKind.free) = true then (cellOf env x.1 >>= fun c => pure (ForInStep.yield ((x.1, c) :: r)) : Sem (ForInStep (List (Str × Addr)))) else pure (ForInStep.yield r))) = pure (clOf env names acc) := by
  induction names generalizing acc with
  | nil => rfl
  | cons x r ih =>
    obtain ⟨n, k⟩ := x
    rw [List.forIn_cons, clOf]
    by_cases hk : k = .free
    · subst hk
      obtain ⟨c, hc⟩ := h (n, .free) (.head _) rfl
      simp only [beq_self_eq_true, if_true]
      have : cellOf env n = pure c := by unfold cellOf; rw [hc]
      rw [this, hc]
      simp only [pure_bind, Option.getD_some]
      exact ih fun y hy => h y (.tail _ hy)
    · have hb : (k == NameKind.free) = false := by simpa using hk
      simp only [hb, Bool.false_eq_true, if_false, pure_bind]
      exact ih fun y hy => h y (.tail _ hy)
theorem closureFor_ok {scope : Scope} (h : ∀ x ∈ scope.names, x.2 = .free → ∃ c, env.cells.lookup x.1 = some c) : closureFor scope env = pure (clOf env scope.names []) := by
  rw [← closure_ok h]
  unfold closureFor
  simp only [bind_pure]
end
end
section
section
variable {τ υ : Type} {G : Gnd} {n m : Nat} {fi : Fi} {env : Env} {A : Around} {α β wr fp : List Addr} {s s₀ s₁ s₂ s' : Shared} {σ σ' σ₁ σ₂ σ₃ σ₄ : AS} {h' : Heap} {t : Nat}
theorem clOf_mem : ∀ {names : List (Str × NameKind)} {acc : List (Str × Addr)} {x : Str} {c : Addr}, (∀ y ∈ names, y.2 = .free → ∃ c, env.cells.lookup y.1 = some c) → (∀ p ∈ acc, env.cells.lookup p.1 = some p.2) → (x, c) ∈ clOf env names acc → env.cells.lookup x = some c
  | [], acc, x, c, _, ha, h => ha _ h
  | (n, k) :: r, acc, x, c, hf, ha, h => by
    rw [clOf] at h
    refine clOf_mem (fun y hy => hf y (.tail _ hy)) (fun p hp => ?_) h
    split at hp
    · rename_i hk
      rcases List.mem_cons.mp hp with rfl | hp
      · obtain ⟨c, hc⟩ := hf (n, k) (.head _) (by simpa using hk)
        show env.cells.lookup n = some _
        rw [hc]; rfl
      · exact ha p hp
    · exact ha p hp
theorem clOf_names : ∀ {names : List (Str × NameKind)} {acc : List (Str × Addr)}, (clOf env names acc).map (·.1) = ((names.filter fun x => x.2 == .free).map (·.1)).reverse ++ acc.map (·.1)
  | [], acc => by simp [clOf]
  | (n, k) :: r, acc => by
    rw [clOf, clOf_names]
    cases hk : (k == NameKind.free) <;> simp [List.filter_cons, hk]
theorem clOf_has {names : List (Str × NameKind)} {x : Str} (hf : ∀ y ∈ names, y.2 = .free → ∃ c, env.cells.lookup y.1 = some c) (h : names.lookup x = some .free) : ∃ c, (clOf env names []).lookup x = some c ∧ env.cells.lookup x = some c := by
  have hm : x ∈ (clOf env names []).map (·.1) := by
    rw [clOf_names]
    simp only [List.map_nil, List.append_nil, List.mem_reverse, List.mem_map, List.mem_filter]
    exact ⟨(x, .free), ⟨mem_of_lookup h, rfl⟩, rfl⟩
  have : ∃ c, (clOf env names []).lookup x = some c := by
    generalize clOf env names [] = l at hm
    induction l with
    | nil => simp at hm
    | cons p r ih =>
      obtain ⟨y, c⟩ := p
      rw [List.lookup_cons]
      by_cases q : x = y
      · subst q; simp
      · have : (x == y) = false := by simpa using q
        rw [this]
        exact ih (by simpa [q] using hm)
  obtain ⟨c, hc⟩ := this
  exact ⟨c, hc, clOf_mem hf (by simp) (mem_of_lookup hc)⟩
theorem clOf_nd {names : List (Str × NameKind)} (hf : ∀ y ∈ names, y.2 = .free → ∃ c, env.cells.lookup y.1 = some c) (hn : (names.map (·.1)).Nodup) (nd : (env.cells.map (·.2)).Nodup) : ((clOf env names []).map (·.2)).Nodup := by
  have hN : ((clOf env names []).map (·.1)).Nodup := by
    rw [clOf_names]
    simp only [List.map_nil, List.append_nil]
    exact (List.reverse_perm _).nodup_iff.mpr (hn.sublist (List.filter_sublist.map _))
  have hm : ∀ p ∈ clOf env names [], env.cells.lookup p.1 = some p.2 := fun p hp => clOf_mem hf (by simp) hp
  generalize clOf env names [] = l at hN hm
  have pw : env.cells.Pairwise fun x y => x.2 ≠ y.2 := List.pairwise_map.mp nd
  induction l with
  | nil => simp
  | cons p r ih =>
    simp only [List.map_cons, List.nodup_cons] at hN ⊢
    refine ⟨fun q => ?_, ih hN.2 fun p hp => hm p (.tail _ hp)⟩
    obtain ⟨p', hp', e⟩ := List.mem_map.mp q
    have h1 := hm p (.head _)
    have h2 := hm p' (.tail _ hp')
    have := name_of_addr pw (mem_of_lookup (e ▸ h2)) (mem_of_lookup h1)
    exact hN.1 (this ▸ List.mem_map_of_mem hp')
mutual
/-- a value of the frame in a frame of fewer cells and a new table of names -/
theorem RepC.liftY {X Y : List Addr} {α : List Addr} {h : Heap} (hX : ∀ a o, h.get? a = some o → a ∉ X → a ∉ Y) : ∀ {d : D} {v : Value}, RepC X (some α) h d v → RepC Y (some α) h d v
  | .none, _, x => by simpa only [RepC] using x
  | .bool _, _, x => by simpa only [RepC] using x
  | .int _, _, x => by simpa only [RepC] using x
  | .str _, _, x => by simpa only [RepC] using x
  | .tup ds, _, x => by
    simp only [RepC] at x ⊢
    obtain ⟨a, vs, rfl, ht, hr⟩ := x
    exact ⟨a, vs, rfl, ht, RepsC.liftY hX hr⟩
  | .lst ds, _, x => by
    simp only [RepC] at x ⊢
    obtain ⟨a, vs, α', rfl, hc, hn, hx, hl, hr⟩ := x
    exact ⟨a, vs, α', rfl, hc, hn, hX a _ hl.choose_spec hx, hl, hr.flatX⟩
  | .hdr C ds, _, x => by
    simp only [RepC] at x ⊢
    obtain ⟨x, dx, l₀, vs, α, n, hs, t, rfl, hc, h1, h2, h3, e1, e2, e3, hr⟩ := x
    exact ⟨x, dx, l₀, vs, α, n, hs, t, rfl, hc, ⟨h1.1, hX _ _ e1 h1.2⟩, ⟨h2.1, hX _ _ e2 h2.2⟩, ⟨h3.1, hX _ _ e3.choose_spec h3.2⟩, e1, e2, e3, hr.flatX⟩
  | .any, _, x => by simp only [RepC]
  | .ref i, _, x => by simpa only [RepC] using x
  | .val _, _, x => by simpa only [RepC] using x
  | .fn .., _, x => by simpa only [RepC] using x
theorem RepsC.liftY {X Y : List Addr} {α : List Addr} {h : Heap} (hX : ∀ a o, h.get? a = some o → a ∉ X → a ∉ Y) : ∀ {ds : List D} {vs : List Value}, RepsC X (some α) h ds vs → RepsC Y (some α) h ds vs
  | [], _, x => by simpa only [RepsC] using x
  | d :: ds, _, x => by
    simp only [RepsC] at x ⊢
    obtain ⟨v, r, rfl, h1, h2⟩ := x
    exact ⟨v, r, rfl, RepC.liftY hX h1, RepsC.liftY hX h2⟩
end
theorem lookup_filter {ε : Type} (p : Str → Bool) : ∀ (l : List (Str × ε)) (x : Str) (d : ε), (l.filter fun q => p q.1).lookup x = some d → p x = true ∧ l.lookup x = some d
  | [], x, d, h => by simp at h
  | (y, e) :: r, x, d, h => by
    rw [List.filter_cons] at h
    split at h
    · rename_i hp
      rw [List.lookup_cons] at h ⊢
      split at h
      · rename_i q; cases h; rw [beq_iff_eq.mp q]; exact ⟨hp, rfl⟩
      · exact lookup_filter p r x d h
    · rename_i hp
      obtain ⟨h1, h2⟩ := lookup_filter p r x d h
      refine ⟨h1, ?_⟩
      rw [List.lookup_cons]
      have : (x == y) = false := by
        simp only [beq_eq_false_iff_ne]
        intro q; rw [q] at h1; exact hp h1
      rw [this]; exact h2
theorem lookup_of_nd {ε : Type} : ∀ {cs : List (Str × ε)} {n : Str} {c : ε}, (cs.map (·.1)).Nodup → (n, c) ∈ cs → cs.lookup n = some c
  | [], _, _, _, h => nomatch h
  | (y, e) :: r, n, c, nd, h => by
    simp only [List.map_cons, List.nodup_cons] at nd
    rw [List.lookup_cons]
    rcases List.mem_cons.mp h with h' | h'
    · cases h'; simp
    · have : (n == y) = false := by
        simp only [beq_eq_false_iff_ne]
        intro q; exact nd.1 (List.mem_map.mpr ⟨(n, c), h', q⟩)
      rw [this]; exact lookup_of_nd nd.2 h'
structure CompOk (fi : Fi) (scope : Scope) : Prop where
  own : fi.own = true
  kind : scope.kind = .function
  free : ∀ x ∈ scope.names, x.2 = .free → fi.scope.names.lookup x.1 = some .cell
  cell : ∀ x ∈ scope.names, x.2 ≠ .cell
  nd : (scope.names.map (·.1)).Nodup
theorem CompOk.cells {scope : Scope} (c : CompOk fi scope) (E : EnvOk env fi) : ∀ x ∈ scope.names, x.2 = .free → ∃ c, env.cells.lookup x.1 = some c := fun x hx hf => E.cl c.own x.1 (c.free x hx hf)
theorem CompOk.locals {scope : Scope} (c : CompOk fi scope) : ∀ x ∈ scope.names, x.2 = .local → scope.names.lookup x.1 = some .local := fun x hx hl => by
  rw [← hl]
  exact lookup_of_nd c.nd (by obtain ⟨a, b⟩ := x; exact hx)
theorem envC_ok {scope : Scope} {C : Addr} (c : CompOk fi scope) (E : EnvOk env fi) : EnvOk (compEnvC scope (clOf env scope.names []) C env) (fiC fi scope) := by
  refine ⟨?_, E.gl, E.bi, c.kind, E.code, (fun h => nomatch h), (fun _ h => nomatch h)⟩
  show relabel scope env = relF scope fi.scope
  rw [← E.sc]; rfl
theorem Fm.comp {scope : Scope} {C : Addr} {m : Str → Option Value} {locs : List (Str × D)} (c : CompOk fi scope) (E : EnvOk env fi) (F : Fm G env σ α s) (sp : Spw G α wr s s') (gs : Gs G s'.heap) (lb : Labs G α s'.heap σ.H) (w : WrOk G env α wr s.heap)
    (hC : s.heap.get? C = none) (hn : s'.heap.Ns C m) (hl : ∀ x d, locs.lookup x = some d → ∃ v, m x = some v ∧ RepC [] none s'.heap d v) : Fm G (compEnvC scope (clOf env scope.names []) C env) ⟨locs, celF scope σ, σ.H⟩ α s' := by
  have hf := c.cells E
  have fk := sp.frz F.gs (fun a ha => F.labs.notFrz ha) w.obj
  have hsub : ∀ a ∈ (clOf env scope.names []).map (·.2), a ∈ env.cells.map (·.2) := fun a ha => by
    obtain ⟨p, hp, rfl⟩ := List.mem_map.mp ha
    exact mem_cells (clOf_mem hf (by simp) hp)
  have lk := sp.lst (X := C :: (clOf env scope.names []).map (·.2)) F.gs w.obj
  have cellK : ∀ c ∈ env.cells.map (·.2), ∀ v, s.heap.IsCell c v → s'.heap.IsCell c v := fun c hc v ⟨o, h2, h2'⟩ => ⟨o, sp.keep _ _ (F.ca c hc) (fun q => w.nx _ q (.tail _ hc)) (F.ctb hc) h2, h2'⟩
  refine ⟨gs, lb, ⟨m, hn, fun x d e => ?_⟩, fun x d e => ?_, fun a ha => ?_, clOf_nd hf c.nd F.nd, (F.freshNot hC).1, fun a ha => F.ca a (hsub a ha), (F.freshNot hC).2.2.1, fun a ha => F.cg a (hsub a ha)⟩
  · obtain ⟨v, h1, h2⟩ := hl x d e
    exact ⟨v, h1, h2.flatX.up⟩
  · obtain ⟨h1, h2⟩ := lookup_filter (fun x => scope.names.lookup x == some .free) σ.cel x d e
    obtain ⟨c₀, h3, h4⟩ := clOf_has hf (by simpa using h1)
    obtain ⟨c₁, v, h5, h6, h7⟩ := F.cel x d h2
    rw [h4] at h5; cases h5
    refine ⟨c₀, v, h3, cellK c₀ (mem_cells h4) _ h6, ?_⟩
    refine stillα fk lk (h7.liftY fun a o ho hx q => ?_)
    rcases List.mem_cons.mp q with rfl | q
    · rw [hC] at ho; cases ho
    · exact hx (.tail _ (hsub a q))
  · obtain ⟨v, hv⟩ := F.cells a (hsub a ha)
    exact ⟨v, cellK a (hsub a ha) v hv⟩
/-! targets -/
structure TgtOk (G : Gnd) (fi : Fi) (tgt : Expr) (d : D) (locs : List (Str × D)) : Prop where
  run : ∀ (A : Around) (env : Env) (s : Shared) (v : Value) (m : Str → Option Value) (Q : Unit → Shared → Prop) (E : Value → Shared → Prop), A.handled = none → EnvOk env fi → s.heap.Ns env.locals m → RepC [] none s.heap d v →
    (∀ h' m' tk, h'.Ns env.locals m' → (∀ b o, b ∉ [env.locals] → s.heap.get? b = some o → h'.get? b = some o) → (∀ x d, locs.lookup x = some d → ∃ v, m' x = some v ∧ RepC [] none h' d v) → (∀ x, locs.lookup x = none → m' x = m x) → Q () { s with heap := h', toks := tk }) →
    wpAny (model G.prog G.w) A (assign tgt env v) Q E s
theorem ns_notFrz {h : Heap} {a : Addr} {m : Str → Option Value} (n : h.Ns a m) : ∀ o, h.get? a = some o → ¬ Frz o := fun o e => by
  obtain ⟨o', es, k, h1, h2, _⟩ := n
  rw [e] at h1; cases h1
  exact fun f => f.not_dict h2
theorem flat_keep {ch : List Addr} {h h' : Heap} {d : D} {v : Value} (k : ∀ b o, b ∉ ch → h.get? b = some o → h'.get? b = some o) (hf : ∀ b ∈ ch, ∀ o, h.get? b = some o → ¬ Frz o) (r : RepC [] none h d v) : RepC [] none h' d v := by
  have := RepsC.flat (ds := [d]) (vs := [v]) (h' := h') (fun a o f e => k a o (fun q => hf a q o e f) e) (by simp only [RepsC]; exact ⟨v, [], rfl, r, rfl⟩)
  simp only [RepsC] at this
  obtain ⟨v', r', e, h, _⟩ := this
  cases e; exact h
theorem tgt_name {x : Str} {px : Pos} {d : D} (hk : fi.scope.names.lookup x = some .local := by rfl) : TgtOk G fi (.Name x px) d [(x, d)] := .mk fun A env s v m Q E hh hE hm r k => by
  have hk' := hE.kind
  refine wpAny_assign_Name (wpAny_storeName_local (hE.of hk) hm (fun h' hn hs => ?_) (by rw [hE.sc, hE.kind]; rfl))
  refine k h' _ _ hn (fun b o hb e => hs.extBut b o (fun q => hb (by simp [q])) e) (fun y e he => ?_) (fun y hy => ?_)
  · simp only [List.lookup_cons] at he
    split at he
    · rename_i q
      cases he
      exact ⟨v, by simp [beq_iff_eq.mp q], flat_keep (ch := [env.locals]) (fun b o hb e => hs.extBut b o (fun q => hb (by simp [q])) e) (fun b hb => by rw [List.mem_singleton.mp hb]; exact ns_notFrz hm) r⟩
    · simp at he
  · simp only [List.lookup_cons] at hy
    split at hy
    · cases hy
    · rename_i q
      have : ¬ y = x := fun z => by rw [z] at q; simp at q
      simp [this]
end
end
section
section
variable {prog : Program} {w : World} {A : Around} {R : Result → Shared → Prop} {s : Shared}
theorem codeAny_compLoop_gen {elt target iter : Expr} {ifs : List Expr} {scope : Scope} {pos : Pos} {it acc : Value} {env : Env} (I : Nat → Shared → Prop)
    (turn : ∀ n s, I n s → wpAny (model prog w) A (pyNext it) (fun r s₁ => match r with
      | none => R (.ok .next) s₁
      | some v => wpAny (model prog w) A (letOwnedTupleGo target it v) (fun _ s₁' => wpAny (model prog w) A (assign target env v) (fun _ s₂ =>
          wpAny (model prog w) A (forIn ifs true fun c r => if r = true then do let ok ← isTrue c env (eval c env); pure (ForInStep.yield ok) else pure (ForInStep.yield r)) (fun ok s₃ =>
            if ok = true then wpAny (model prog w) A (eval elt env) (fun x s₄ =>
              wpAny (model prog w) A (call (.builtin "list.append") [acc, x]) (fun _ s₅ => ∃ m, m < n ∧ I m s₅) bot s₄) bot s₃
            else ∃ m, m < n ∧ I m s₃) bot s₂) bot s₁') bot s₁) bot s)
    (n : Nat) (h : I n s) : codeAny (model prog w) A (.compLoop (.ListComp elt [⟨target, iter, ifs, 0⟩] scope pos) 0 it acc env) R s := by
  refine codeAny_loop rfl I (fun n s hI => ?_) n h
  show wpAny _ A ((compTurn (.ListComp elt [⟨target, iter, ifs, 0⟩] scope pos) 0 it acc env).onRaise (fun x => do noteFrame x env; theTreesLotGoes x)) _ _ s
  refine wpAny_noted ?_
  rw [compTurn_list]
  refine wpAny_bind (wpAny_standAt (wpAny_bind (wpAny_mono (turn n s hI) (fun r s₁ h₁ => ?_) fun _ _ h' => h'.elim)))
  cases r with
  | none => exact wpAny_pure h₁
  | some v =>
    refine wpAny_bind (wpAny_mono h₁ (fun _ s₁' h₁' => ?_) fun _ _ h' => h'.elim)
    refine wpAny_bind (wpAny_mono h₁' (fun _ s₂ h₂ => wpAny_bind (wpAny_mono h₂ (fun ok s₃ h₃ => ?_) fun _ _ h' => h'.elim)) fun _ _ h' => h'.elim)
    cases ok with
    | false => exact wpAny_pure ⟨rfl, h₃⟩
    | true =>
      exact wpAny_bind (wpAny_bind (wpAny_mono h₃ (fun x s₄ h₄ => wpAny_bind (wpAny_mono h₄ (fun _ s₅ h₅ => wpAny_pure (wpAny_pure ⟨rfl, h₅⟩)) fun _ _ h' => h'.elim)) fun _ _ h' => h'.elim))
end
section
variable {τ υ : Type} {G : Gnd} {n m : Nat} {fi : Fi} {env : Env} {A : Around} {α β wr fp : List Addr} {s s₀ s₁ s₂ s' : Shared} {σ σ' σ₁ σ₂ σ₃ σ₄ : AS} {h' : Heap} {t : Nat}
/-- the tests of a clause -/
structure PTs (G : Gnd) (n : Nat) (fi : Fi) (σ : AS) (ifs : List Expr) (b : Bool) : Prop where
  run : Ev G n fi σ (fun env => (forIn ifs true fun c r => if r = true then do let ok ← isTrue c env (eval c env); pure (ForInStep.yield ok) else pure (ForInStep.yield r) : Sem Bool)) σ (fun _ _ _ v => v = b)
theorem pts_nil : PTs G n fi σ [] true := .mk fun A env α s _ _ hF => wpAny_tests_nil (Post.here hF rfl)
theorem pts_one {e : Expr} {b : Bool} (h : PT G n fi σ e b σ) : PTs G n fi σ [e] b := .mk fun A env α s hA hE hF => wpAny_tests_one (h.run A env α s hA hE hF)
/-- what a comprehension's turns give -/
inductive CompB (G : Gnd) (n : Nat) (fi : Fi) (cel : List (Str × D)) (H : List Cont) (tgt elt : Expr) (ifs : List Expr) : List D → List D → Prop
  | nil : CompB G n fi cel H tgt elt ifs [] []
  | skip {d : D} {locs : List (Str × D)} {src out : List D} : TgtOk G fi tgt d locs → PTs G n fi ⟨locs, cel, H⟩ ifs false → CompB G n fi cel H tgt elt ifs src out → CompB G n fi cel H tgt elt ifs (d :: src) out
  | keep {d d' : D} {locs : List (Str × D)} {src out : List D} : TgtOk G fi tgt d locs → PTs G n fi ⟨locs, cel, H⟩ ifs true → PE G n fi ⟨locs, cel, H⟩ elt d' ⟨locs, cel, H⟩ → d'.flat = true →
      CompB G n fi cel H tgt elt ifs src out → CompB G n fi cel H tgt elt ifs (d :: src) (d' :: out)
theorem none_of_len {α β : List Addr} {h : Heap} {H : List Cont} (L : Labs G (α ++ β) h H) (l : α.length = H.length) : β = [] := by
  have := L.len
  rw [List.length_append] at this
  exact List.length_eq_zero_iff.mp (by omega)
/-- an iterable of the frame: its list of items and how it is walked -/
inductive SrcAt (G : Gnd) (A : Around) (env : Env) (α : List Addr) (σ : AS) (tgt : Expr) (src : List D) (s : Shared) (it : Value) (s₂ : Shared) : Prop
  | mk (β : List Addr) (I : Addr) (fp wr : List Addr) (St : Nat → Heap → Prop) (Mid : Nat → Value → Heap → Prop) (e : it = .ref I) (sp : Sp G α s s₂) (hb : ∀ b ∈ β, s.heap.get? b = none) (F : Fm G env σ (α ++ β) s₂) (It : Itr G A I fp wr tgt s₂.heap src St Mid) (st : St 0 s₂.heap)
    (wok : WrOk G env (α ++ β) wr s₂.heap) (hw : ∀ b ∈ wr, s.heap.get? b = none) (hf : ∀ b ∈ fp, (s₂.heap.get? b).isSome ∧ (b ∈ wr ∨ (b ∉ α ++ β ∧ b ∉ xsOf env ∧ b ∉ G.TB)))
structure PI (G : Gnd) (n : Nat) (fi : Fi) (σ : AS) (iter tgt : Expr) (src : List D) (σ' : AS) : Prop where
  run : ∀ A env α s, OKA n A → EnvOk env fi → Fm G env σ α s → wpAny (model G.prog G.w) A (eval iter env) (fun x s₁ => wpAny (model G.prog G.w) A (pyIter x) (SrcAt G A env α σ' tgt src s) bot s₁) bot s
theorem comp_core {tgt elt iter : Expr} {ifs : List Expr} {scope : Scope} {pos : Pos} {src out : List D} {I : Addr} {St : Nat → Heap → Prop} {Mid : Nat → Value → Heap → Prop} {RR : Value → Addr → Result → Shared → Prop} (c : CompOk fi scope) (hA : OKA n A) (hE : EnvOk env fi) (F : Fm G env σ α s)
    (It : Itr G A I fp wr tgt s.heap src St Mid) (st : St 0 s.heap) (wok : WrOk G env α wr s.heap) (hfp : ∀ b ∈ fp, (s.heap.get? b).isSome ∧ (b ∈ wr ∨ (b ∉ α ∧ b ∉ xsOf env ∧ b ∉ G.TB)))
    (hz : src.length ≤ 1000000) (hB : CompB G n (fiC fi scope) (celF scope σ) σ.H tgt elt ifs src out)
    (hRR : ∀ D C s' m ys, Spw G α wr s s' → Fm G env σ α s' → s.heap.get? D = none → s.heap.get? C = none → D ≠ C → s'.heap.Ns C m → s'.heap.PlainList D (List.toArray ys) → RepsC [] none s'.heap out ys → RR (.ref D) C (.ok .next) s') :
    wpAny (model G.prog G.w) A (newList []) (fun acc s₃ => wpAny (model G.prog G.w) A (newFunctionEnv scope env.globals (clOf env scope.names []) [] env.qual none .none (some env)) (fun cenv s₄ =>
      codeAny (model G.prog G.w) A (.compStart (.ListComp elt [⟨tgt, iter, ifs, 0⟩] scope pos) 0 (.ref I) acc { cenv with scope := relabel scope env }) (RR acc cenv.locals) s₄) bot s₃) bot s := by
  refine wpAny_newObj_type (wpAny_newFunctionEnv c.cell (by intro y hy; simp at hy) (fun h₁ hns₁ hsb₁ => ?_) c.kind)
  dsimp only at hns₁ hsb₁ ⊢
  generalize hH2 : s.heap.push { cls := .type "list", dict := none, data := .seq ([] : List Value).toArray } = H2 at hns₁ hsb₁ ⊢
  have hC : H2.objs.size = s.heap.objs.size + 1 := by rw [← hH2, Heap.size_push]
  have hDC : s.heap.objs.size ≠ H2.objs.size := by rw [hC]; exact Nat.ne_of_lt (Nat.lt_succ_self _)
  have below : ∀ b, b < s.heap.objs.size → b ≠ H2.objs.size ∧ b ≠ s.heap.objs.size := fun b hb => ⟨by rw [hC]; exact Nat.ne_of_lt (Nat.lt_succ_of_lt hb), Nat.ne_of_lt hb⟩
  have old : ∀ b o, s.heap.get? b = some o → h₁.get? b = some o := fun b o e => hsb₁.extBut b o (below b (Heap.lt_size e)).1 (Heap.get?_push_of_some _ (hH2 ▸ Heap.get?_push_of_some _ e))
  have hacc : h₁.PlainList s.heap.objs.size (List.toArray []) := ⟨0, hsb₁.extBut _ _ hDC (Heap.get?_push_of_some _ (hH2 ▸ Heap.get?_push_size _ rfl))⟩
  have fresh : ∀ a, s.heap.objs.size ≤ a → s.heap.get? a = none := fun a ha => by
    cases e : s.heap.get? a with
    | none => rfl
    | some o' => exact absurd (Heap.lt_size e) (Nat.not_lt.mpr ha)
  have hD0 : s.heap.get? s.heap.objs.size = none := fresh _ (Nat.le_refl _)
  have hC0 : s.heap.get? H2.objs.size = none := fresh _ (by rw [hC]; exact Nat.le_succ _)
  generalize hDD : s.heap.objs.size = D at hacc hD0 hDC ⊢
  generalize hCC : H2.objs.size = C at hC0 hDC hns₁ ⊢
  clear hC below hsb₁ hH2 fresh
  have lenα : α.length = σ.H.length := F.labs.len
  have hf := c.cells hE
  have hEc : EnvOk (compEnvC scope (clOf env scope.names []) C env) (fiC fi scope) := envC_ok c hE
  obtain ⟨dn1, dn2, dn3, dn4⟩ := F.freshNot hD0
  obtain ⟨cn1, cn2, cn3, cn4⟩ := F.freshNot hC0
  have hDw : D ∉ wr := fun q => by obtain ⟨o, h, _⟩ := wok.obj D q; rw [hD0] at h; cases h
  have hCw : C ∉ wr := fun q => by obtain ⟨o, h, _⟩ := wok.obj C q; rw [hC0] at h; cases h
  have hDf : D ∉ fp := fun q => by have := (hfp D q).1; rw [hD0] at this; cases this
  have hCf : C ∉ fp := fun q => by have := (hfp C q).1; rw [hC0] at this; cases this
  have start : ∀ s₃ : Shared, s₃ = { s with heap := h₁, toks := s.toks + ([] : List (Str × Value)).length } →
      codeAny (model G.prog G.w) A (.compLoop (.ListComp elt [⟨tgt, iter, ifs, 0⟩] scope pos) 0 (.ref I) (.ref D) (compEnvC scope (clOf env scope.names []) C env)) (RR (.ref D) C) s₃ := by
    rintro s₃ rfl
    refine codeAny_compLoop_gen
      (fun k s' => ∃ (i : Nat) (outs rest : List Mine.D) (ys : List Value) (m : Str → Option Value), out = outs ++ rest ∧ i ≤ src.length ∧ outs.length ≤ i ∧ CompB G n (fiC fi scope) (celF scope σ) σ.H tgt elt ifs (src.drop i) rest ∧ k = src.length + 1 - i ∧
        Spw G α wr s s' ∧ Gs G s'.heap ∧ Labs G α s'.heap σ.H ∧ s'.heap.Ns C m ∧ St i s'.heap ∧ s'.heap.PlainList D (List.toArray ys) ∧ RepsC [] none s'.heap outs ys) ?_ (src.length + 1)
      ⟨0, [], out, [], _, rfl, Nat.zero_le _, Nat.le_refl _, by simpa using hB, rfl, ?_, F.gs.all old, ?_, hns₁, It.frame _ _ _ st fun b _ o e => old b o e, hacc, by simp only [RepsC]⟩
    rotate_left
    · exact ⟨⟨h₁, _, _, rfl⟩, fun b o _ _ _ e => old b o e, fun b _ e => by obtain ⟨o, ho⟩ := Option.isSome_iff_exists.mp e; rw [old b o ho]; rfl⟩
    · exact F.labs.chg (ch := []) (fun b o _ e => old b o e) (fun _ h => nomatch h) (fun a o _ e => old a o e)
    rintro k s' ⟨i, outs, rest, ys, m, hout, hi, hlo, hB', rfl, spw, gs, lb, hn, hst, hl, hr⟩
    -- a change of some addresses of the loop alone
    have wrF : ∀ h : Heap, (∀ b ∈ wr, ∃ o, h.get? b = some o ∧ ItObj o) → ∀ b ∈ wr, ∀ o, h.get? b = some o → ¬ Frz o := fun h q b hb o e f => by obtain ⟨o', h1, h2⟩ := q b hb; rw [e] at h1; cases h1; exact h2.notFrz f
    by_cases hlt : i < src.length
    · refine It.item i _ _ _ hlt hst (spw.frz F.gs (fun a ha => F.labs.notFrz ha) wok.obj) fun v h₂ tk₂ d hd rd mid k₂ => ?_
      have fk₂ : FrzKeep s'.heap h₂ := fun a o f e => k₂ a o (fun q => wrF _ (It.obj _ _ hst) a q o e f) e
      have spw₂ : Spw G α wr s { s' with heap := h₂, toks := tk₂ } := spw.next k₂ fun b hb => .inl hb
      have gs₂ : Gs G h₂ := gs.chg k₂ wok.ng wok.nt (wrF _ (It.obj _ _ hst))
      have lb₂ : Labs G α h₂ σ.H := lb.chg k₂ wok.nα fk₂
      have hn₂ : h₂.Ns C m := hn.at' fun o e => k₂ _ o hCw e
      have hl₂ : h₂.PlainList D ys.toArray := let ⟨kk, ho⟩ := hl; ⟨kk, k₂ _ _ hDw ho⟩
      have hr₂ := hr.flat fk₂
      refine It.go i v _ _ _ mid fun h₃ hst₃ k₃ => ?_
      have fk₃ : FrzKeep h₂ h₃ := fun a o f e => k₃ a o (fun q => wrF _ (It.objM _ _ _ mid) a q o e f) e
      have spw₃ : Spw G α wr s { s' with heap := h₃, toks := tk₂ } := spw₂.next k₃ fun b hb => .inl hb
      have gs₃ : Gs G h₃ := gs₂.chg k₃ wok.ng wok.nt (wrF _ (It.objM _ _ _ mid))
      have lb₃ : Labs G α h₃ σ.H := lb₂.chg k₃ wok.nα fk₃
      have hn₃ : h₃.Ns C m := hn₂.at' fun o e => k₃ _ o hCw e
      have hl₃ : h₃.PlainList D ys.toArray := let ⟨kk, ho⟩ := hl₂; ⟨kk, k₃ _ _ hDw ho⟩
      have hr₃ := hr₂.flat fk₃
      have rd₃ : RepC [] none h₃ d v := flat_keep k₃ (wrF _ (It.objM _ _ _ mid)) rd
      -- the target
      have hdrop : src.drop i = d :: src.drop (i + 1) := by
        rw [List.drop_eq_getElem_cons hlt]
        rw [List.getElem?_eq_getElem hlt] at hd; cases hd; rfl
      rw [hdrop] at hB'
      have tail : ∀ locs, TgtOk G (fiC fi scope) tgt d locs → wpAny (model G.prog G.w) A (assign tgt (compEnvC scope (clOf env scope.names []) C env) v) (fun _ s₄ => ∃ m₄, Spw G α wr s s₄ ∧ Gs G s₄.heap ∧ Labs G α s₄.heap σ.H ∧ s₄.heap.Ns C m₄ ∧ St (i + 1) s₄.heap ∧ s₄.heap.PlainList D ys.toArray ∧ RepsC [] none s₄.heap outs ys ∧
          Fm G (compEnvC scope (clOf env scope.names []) C env) ⟨locs, celF scope σ, σ.H⟩ α s₄) bot { s' with heap := h₃, toks := tk₂ } := fun locs tok => by
        refine tok.run A _ _ v m _ _ hA.hh hEc hn₃ rd₃ fun h₄ m₄ tk₄ hn₄ k₄ hl₄ _ => ?_
        have nf : ∀ b ∈ [C], ∀ o, h₃.get? b = some o → ¬ Frz o := fun b hb => by rw [List.mem_singleton.mp hb]; exact ns_notFrz hn₃
        have fk₄ : FrzKeep h₃ h₄ := fun a o f e => k₄ a o (fun q => nf a q o e f) e
        have spw₄ : Spw G α wr s { s' with heap := h₄, toks := tk₄ } := spw₃.next (s₁ := { s' with heap := h₃, toks := tk₂ }) k₄ fun b hb => .inr (by rw [List.mem_singleton.mp hb]; exact hC0)
        have gs₄ : Gs G h₄ := gs₃.chg k₄ (fun b hb => by rw [List.mem_singleton.mp hb]; exact cn3) (fun b hb => by rw [List.mem_singleton.mp hb]; exact cn4) nf
        have lb₄ : Labs G α h₄ σ.H := lb₃.chg k₄ (fun b hb => by rw [List.mem_singleton.mp hb]; exact cn1) fk₄
        exact ⟨m₄, spw₄, gs₄, lb₄, hn₄, It.frame _ _ _ hst₃ fun b hb o e => k₄ b o (fun q => hCf (show C ∈ fp from (show b = C from List.mem_singleton.mp q) ▸ hb)) e,
          (let ⟨kk, ho⟩ := hl₃; ⟨kk, k₄ _ _ (fun q => hDC (List.mem_singleton.mp q)) ho⟩), hr₃.flat fk₄, F.comp c hE spw₄ gs₄ lb₄ wok hC0 hn₄ hl₄⟩
      -- behind a tree of the comprehension's frame
      have behind : ∀ {locs : List (Str × Mine.D)} {s₄ s₅ : Shared} {β : List Addr}, Spw G α wr s s₄ → St (i + 1) s₄.heap → s₄.heap.PlainList D ys.toArray → RepsC [] none s₄.heap outs ys → Fm G (compEnvC scope (clOf env scope.names []) C env) ⟨locs, celF scope σ, σ.H⟩ α s₄ →
          Sp G α s₄ s₅ → Fm G (compEnvC scope (clOf env scope.names []) C env) ⟨locs, celF scope σ, σ.H⟩ (α ++ β) s₅ →
          β = [] ∧ Spw G α wr s s₅ ∧ Gs G s₅.heap ∧ Labs G α s₅.heap σ.H ∧ (∃ m₅, s₅.heap.Ns C m₅) ∧ St (i + 1) s₅.heap ∧ s₅.heap.PlainList D ys.toArray ∧ RepsC [] none s₅.heap outs ys ∧ Fm G (compEnvC scope (clOf env scope.names []) C env) ⟨locs, celF scope σ, σ.H⟩ α s₅ := by
        intro locs s₄ s₅ β sp₄ st₄ l₄ r₄ F₄ sp F₅
        have hβ : β = [] := none_of_len F₅.labs lenα
        subst hβ
        rw [List.append_nil] at F₅
        refine ⟨rfl, sp₄.sp sp, F₅.gs, F₅.labs, (let ⟨m₅, h, _⟩ := F₅.loc; ⟨m₅, h⟩), It.frame _ _ _ st₄ fun b hb o e => sp.keep b o ?_ ?_ e, (let ⟨kk, ho⟩ := l₄; ⟨kk, sp.keep _ _ dn1 dn4 ho⟩), r₄.flat (F₄.labs.frz F₄.gs sp), F₅⟩
        · exact (hfp b hb).2.elim (wok.nα b) fun q => q.1
        · exact (hfp b hb).2.elim (wok.nt b) fun q => q.2.2
      cases hB' with
      | skip tok ht hB'' =>
        refine wpAny_mono (tail _ tok) (fun _ s₄ ⟨m₄, sp₄, gs₄, lb₄, hn₄, st₄, l₄, r₄, F₄⟩ => ?_) fun _ _ x => x
        refine seq2 (ht.run A _ α s₄ hA hEc F₄) fun b β s₅ sp hb F₅ rb => ?_
        subst rb
        obtain ⟨rfl, sp₅, gs₅, lb₅, ⟨m₅, hn₅⟩, st₅, l₅, r₅, F₅'⟩ := behind sp₄ st₄ l₄ r₄ F₄ sp F₅
        simp only [Bool.false_eq_true, if_false]
        exact ⟨src.length + 1 - (i + 1), by omega, i + 1, outs, rest, ys, m₅, hout, hlt, by omega, hB'', rfl, sp₅, gs₅, lb₅, hn₅, st₅, l₅, r₅⟩
      | @keep _ d' _ _ rest' tok ht he hfl hB'' =>
        refine wpAny_mono (tail _ tok) (fun _ s₄ ⟨m₄, sp₄, gs₄, lb₄, hn₄, st₄, l₄, r₄, F₄⟩ => ?_) fun _ _ x => x
        refine seq2 (ht.run A _ α s₄ hA hEc F₄) fun b β s₅ sp hb F₅ rb => ?_
        subst rb
        obtain ⟨rfl, sp₅, gs₅, lb₅, ⟨m₅, hn₅⟩, st₅, l₅, r₅, F₅'⟩ := behind sp₄ st₄ l₄ r₄ F₄ sp F₅
        simp only [if_true]
        refine seq2 (he.run A _ α s₅ hA hEc F₅') fun y β s₆ sp' hb' F₆ ry => ?_
        obtain ⟨rfl, sp₆, gs₆, lb₆, ⟨m₆, hn₆⟩, st₆, l₆, r₆, F₆'⟩ := behind sp₅ st₅ l₅ r₅ F₅' sp' F₆
        have ry' : RepC [] none s₆.heap d' y := ry.dn hfl
        refine wpAny_list_append_plain l₆ (fun h₇ l₇ hs₇ => ?_) (by rw [List.size_toArray, r₆.length]; exact sizeFits (by omega))
        have nfD : ∀ b ∈ [D], ∀ o, s₆.heap.get? b = some o → ¬ Frz o := fun b hb o e f => by
          obtain ⟨kk, ho⟩ := l₆
          rw [List.mem_singleton.mp hb] at e
          rw [e] at ho; cases ho
          exact f.not_seq rfl rfl
        have k₇ : ∀ b o, b ∉ [D] → s₆.heap.get? b = some o → h₇.get? b = some o := fun b o hb e => hs₇.extBut b o (fun q => hb (by simp [q])) e
        have fk₇ : FrzKeep s₆.heap h₇ := fun a o f e => k₇ a o (fun q => nfD a q o e f) e
        refine ⟨src.length + 1 - (i + 1), by omega, i + 1, outs ++ [d'], rest', ys ++ [y], m₆, by rw [List.append_assoc]; exact hout, hlt, by rw [List.length_append, List.length_singleton]; omega, hB'', rfl, sp₆.next k₇ (fun b hb => .inr (by rw [List.mem_singleton.mp hb]; exact hD0)),
          gs₆.chg k₇ (fun b hb => by rw [List.mem_singleton.mp hb]; exact dn3) (fun b hb => by rw [List.mem_singleton.mp hb]; exact dn4) nfD, lb₆.chg k₇ (fun b hb => by rw [List.mem_singleton.mp hb]; exact dn1) fk₇,
          hn₆.at' fun o e => k₇ _ o (fun q => hDC (List.mem_singleton.mp q).symm) e, It.frame _ _ _ st₆ fun b hb o e => k₇ b o (fun q => hDf ((show b = D from List.mem_singleton.mp q) ▸ hb)) e, by simpa using l₇, ?_⟩
        refine (r₆.flat fk₇).append ?_
        simp only [RepsC]
        exact ⟨y, [], rfl, flat_keep k₇ nfD ry', rfl⟩
    · have hin : i = src.length := by omega
      subst hin
      refine It.done _ _ _ hst fun h₂ tk₂ k₂ => ?_
      have fk₂ : FrzKeep s'.heap h₂ := fun a o f e => k₂ a o (fun q => wrF _ (It.obj _ _ hst) a q o e f) e
      have spw₂ : Spw G α wr s { s' with heap := h₂, toks := tk₂ } := spw.next k₂ fun b hb => .inl hb
      have gs₂ : Gs G h₂ := gs.chg k₂ wok.ng wok.nt (wrF _ (It.obj _ _ hst))
      have lb₂ : Labs G α h₂ σ.H := lb.chg k₂ wok.nα fk₂
      rw [List.drop_length] at hB'
      cases hB'
      rw [List.append_nil] at hout
      subst hout
      exact hRR D C _ m ys spw₂ (F.reframe spw₂ gs₂ lb₂ wok) hD0 hC0 hDC (hn.at' fun o e => k₂ _ o hCw e) (let ⟨kk, ho⟩ := hl; ⟨kk, k₂ _ _ hDw ho⟩) (hr.flat fk₂)
  exact codeAny_compStart_list (start _ rfl) (It.self 0 _ _ _ (It.frame _ _ _ st fun b _ o e => old b o e) (start _ rfl))
end
end
section
section
variable {τ υ : Type} {G : Gnd} {n m : Nat} {fi : Fi} {env : Env} {A : Around} {α β wr fp : List Addr} {s s₀ s₁ s₂ s' : Shared} {σ σ' σ₁ σ₂ σ₃ σ₄ : AS} {h' : Heap} {t : Nat}
theorem pe_comp {tgt elt iter : Expr} {ifs : List Expr} {scope : Scope} {pos : Pos} {src out : List D} (c : CompOk fi scope) (hit : PI G n fi σ iter tgt src σ₁) (hB : CompB G n (fiC fi scope) (celF scope σ₁) σ₁.H tgt elt ifs src out) (hz : src.length ≤ 1000000)
    (hs : ∀ env x, foldedSetIterable iter env x = pure x := by intro _ _; rfl) : PE G n fi σ (.ListComp elt [⟨tgt, iter, ifs, 0⟩] scope pos) (.lst out) σ₁ := .mk fun A env α s hA hE F => by
  show wpAny _ A (eval (.ListComp elt [⟨tgt, iter, ifs, 0⟩] scope pos) env) _ _ _
  rw [eval_ListComp]
  refine wpAny_comprehension_free (use := none) rfl (hs env) (closureFor_ok (c.cells hE)) c.kind c.locals (wpAny_mono (hit.run A env α s hA hE F) (fun x s₁ h₁ => wpAny_mono h₁ (fun it s₂ h₂ => ?_) fun _ _ e => e) fun _ _ e => e)
  obtain ⟨β, I, fp, wr, St, Mid, rfl, sp, hb, F₂, It, st, wok, hwr, hfp⟩ := h₂
  refine comp_core (RR := fun acc C => compPost (model G.prog G.w) A bot none (Post G env α s σ₁ (RD (.lst out))) acc C) c hA hE F₂ It st wok hfp hz hB fun D C s' m ys spw F' hD hC hDC hn hl hr => ?_
  refine ⟨m, hn, fun h'' hs'' => ?_⟩
  obtain ⟨dn1, dn2, dn3, dn4⟩ := F₂.freshNot hD
  obtain ⟨cn1, cn2, cn3, cn4⟩ := F₂.freshNot hC
  have k : ∀ b o, b ∉ [C] → s'.heap.get? b = some o → h''.get? b = some o := fun b o hb e => hs''.extBut b o (fun q => hb (by simp [q])) e
  have nf : ∀ b ∈ [C], ∀ o, s'.heap.get? b = some o → ¬ Frz o := fun b hb => by rw [List.mem_singleton.mp hb]; exact ns_notFrz hn
  have fk : FrzKeep s'.heap h'' := fun a o f e => k a o (fun q => nf a q o e f) e
  have spw' : Spw G (α ++ β) wr s₂ { s' with heap := h'', toks := s'.toks } := spw.next k fun b hb => .inr (by rw [List.mem_singleton.mp hb]; exact hC)
  have gs' : Gs G h'' := F'.gs.chg k (fun b hb => by rw [List.mem_singleton.mp hb]; exact cn3) (fun b hb => by rw [List.mem_singleton.mp hb]; exact cn4) nf
  have lb' : Labs G (α ++ β) h'' σ₁.H := F'.labs.chg k (fun b hb => by rw [List.mem_singleton.mp hb]; exact cn1) fk
  have F'' := F₂.reframe spw' gs' lb' wok
  refine ⟨β, ?_, hb, F'', ?_⟩
  · have sp2 : Sp G (α ++ β) s s₂ := sp.narrow fun b hb => .inl (List.mem_append_left _ hb)
    exact (sp2.spw spw' hwr).narrow fun b hq => (List.mem_append.mp hq).imp id fun q => hb b q
  · simp only [RepC]
    obtain ⟨kk, ho⟩ := hl
    exact ⟨D, ys, _, rfl, rfl, dn1, dn2, ⟨kk, k D _ (fun q => hDC (List.mem_singleton.mp q)) ho⟩, (hr.flat fk).flatX⟩
theorem two {P : Addr → Prop} {a b : Addr} (h1 : P a) (h2 : P b) : ∀ c ∈ [a, b], P c := fun c hc => by
  simp only [List.mem_cons, List.not_mem_nil, or_false] at hc
  rcases hc with rfl | rfl
  · exact h1
  · exact h2
/-- x = [..] in a def -/
theorem s_assignC {tgt elt iter : Expr} {ifs : List Expr} {scope : Scope} {y : Str} {py pos spos : Pos} {src out : List D} {Q : Out → Prop} (c : CompOk fi scope) (hit : PI G n fi σ iter tgt src σ₁) (hB : CompB G n (fiC fi scope) (celF scope σ₁) σ₁.H tgt elt ifs src out) (hz : src.length ≤ 1000000)
    (q : Q (.next (σ₁.set y (.lst out)))) (hy : fi.scope.names.lookup y = some .local := by rfl) (hl : (py.line == pos.line && !(scope.names.any fun (n, k) => n == y && (k == .local || k == .cell))) = true := by decide)
    (hs : ∀ env x, foldedSetIterable iter env x = pure x := by intro _ _; rfl) : S1 G n fi σ (.Assign [.Name y py] (.ListComp elt [⟨tgt, iter, ifs, 0⟩] scope pos) spos) Q := .mk fun A env α s hA hE F => by
  have hsw : swapsWith (.ListComp elt [⟨tgt, iter, ifs, 0⟩] scope pos) (some (.Name y py)) spos.line env = pure true := by
    unfold swapsWith
    have h1 : env.blockKind = .function := by
      unfold Env.blockKind
      rw [hE.sc, hE.kind]; rfl
    have h2 := hE.of hy
    simp only [h1, h2]
    simp only [Bool.and_eq_true] at hl
    show (pure (true && true && (py.line == pos.line) && !(scope.names.any fun (n, k) => n == y && (k == .local || k == .cell))) : Sem Bool) = _
    rw [hl.1, hl.2]; rfl
  rw [exec_Assign_Name_used _ _ _ _ hsw]
  refine wpAny_bind (wpAny_standAt (wpAny_bind ?_))
  show wpAny _ A (do let _ ← comprehension (.ListComp elt [⟨tgt, iter, ifs, 0⟩] scope pos) scope env _ (newList []) false (eval iter env) (some (assign (.Name y py) env))) _ _ s
  refine wpAny_bind (wpAny_mono (wpAny_comprehension_free (use := some (assign (.Name y py) env)) (Q := fun _ s' => SPost G env α s Q .next s') rfl (hs env) (closureFor_ok (c.cells hE)) c.kind c.locals
    (wpAny_mono (hit.run A env α s hA hE F) (fun x s₁ h₁ => wpAny_mono h₁ (fun it s₂ h₂ => ?_) fun _ _ e => e) fun _ _ e => e)) (fun _ s' hq => wpAny_pure (wpAny_pure hq)) fun _ _ e => e)
  obtain ⟨β, I, fp, wr, St, Mid, rfl, sp, hb, F₂, It, st, wok, hwr, hfp⟩ := h₂
  refine comp_core (RR := fun acc C => compPost (model G.prog G.w) A bot (some (assign (.Name y py) env)) (fun _ s' => SPost G env α s Q .next s') acc C) c hA hE F₂ It st wok hfp hz hB fun D C s' m ys spw F' hD hC hDC hn hl hr => ?_
  obtain ⟨dn1, dn2, dn3, dn4⟩ := F₂.freshNot hD
  obtain ⟨cn1, cn2, cn3, cn4⟩ := F₂.freshNot hC
  obtain ⟨mL, hmL, hrL⟩ := F₂.loc
  have keepL : ∀ o, s₂.heap.get? env.locals = some o → s'.heap.get? env.locals = some o := fun o e => spw.keep _ _ F₂.la (fun q => wok.nx _ q (.head _)) F₂.ltb e
  have hCL : C ≠ env.locals := fun q => by obtain ⟨o, _, _, ho, _⟩ := hmL; rw [← q, hC] at ho; cases ho
  have hDL : D ≠ env.locals := fun q => by obtain ⟨o, _, _, ho, _⟩ := hmL; rw [← q, hD] at ho; cases ho
  show wpAny _ A (assign (.Name y py) env (.ref D)) _ _ _
  refine wpAny_assign_Name (wpAny_storeName_local (hE.of hy) (hmL.at' keepL) (fun h₂ hn₂ hs₂ => ?_) (by rw [hE.sc, hE.kind]; rfl))
  refine ⟨m, hn.sameBut hs₂ hCL, fun h₃ hs₃ => ?_⟩
  have k : ∀ b o, b ∉ [env.locals, C] → s'.heap.get? b = some o → h₃.get? b = some o := fun b o hb e => by
    simp only [List.mem_cons, List.not_mem_nil, or_false, not_or] at hb
    exact hs₃.extBut b o hb.2 (hs₂.extBut b o hb.1 e)
  have nf : ∀ b ∈ [env.locals, C], ∀ o, s'.heap.get? b = some o → ¬ Frz o := fun b hb => by
    simp only [List.mem_cons, List.not_mem_nil, or_false] at hb
    rcases hb with rfl | rfl
    · exact ns_notFrz (hmL.at' keepL)
    · exact ns_notFrz hn
  have fk : FrzKeep s'.heap h₃ := fun a o f e => k a o (fun q => nf a q o e f) e
  have spw' : Spw G (env.locals :: (α ++ β)) wr s₂ { s' with heap := h₃, toks := (s'.toks) } := by
    obtain ⟨⟨hh, tt, dr, rfl⟩, kp, lv⟩ := spw
    refine ⟨⟨h₃, _, _, rfl⟩, fun b o hf hw ht e => k b o (fun q => ?_) (kp b o (fun q => hf (.tail _ q)) hw ht e), fun b hw e => ?_⟩
    · simp only [List.mem_cons, List.not_mem_nil, or_false] at q
      rcases q with rfl | rfl
      · exact hf (.head _)
      · rw [hC] at e; cases e
    · by_cases q : b = env.locals
      · obtain ⟨o, _, _, ho, _⟩ := hn₂.sameBut hs₃ hCL.symm; rw [q]; show (h₃.get? _).isSome = true; rw [ho]; rfl
      · obtain ⟨o, ho⟩ := Option.isSome_iff_exists.mp (lv b hw e)
        show (h₃.get? b).isSome = true
        rw [k b o (fun z => ?_) ho]; rfl
        simp only [List.mem_cons, List.not_mem_nil, or_false] at z
        rcases z with z | rfl
        · exact q z
        · rw [hC] at e; cases e
  have gs' : Gs G h₃ := F'.gs.chg k (two (P := fun b => G.g0.get? b = none) F₂.lg cn3) (two (P := fun b => b ∉ G.TB) F₂.ltb cn4) nf
  have lb' : Labs G (α ++ β) h₃ σ₁.H := F'.labs.chg k (two (P := fun b => b ∉ α ++ β) F₂.la cn1) fk
  have hsz : FrzKeep s₂.heap h₃ := fun a o f e => fk a o f (spw.frz F₂.gs (fun a ha => F₂.labs.notFrz ha) wok.obj a o f e)
  have lkk : LstKeep (xsOf env) (some (α ++ β)) s₂.heap h₃ := fun _ e a o ha hx hl ho => by
    have := spw.lst (X := xsOf env) F₂.gs wok.obj _ e a o ha hx hl ho
    cases e
    refine k a o (fun q => ?_) this
    simp only [List.mem_cons, List.not_mem_nil, or_false] at q
    rcases q with rfl | rfl
    · exact hx (.head _)
    · rw [hC] at ho; cases ho
  have rD : Rep env (α ++ β) h₃ (.lst out) (.ref D) := by
    simp only [RepC]
    obtain ⟨kk, ho⟩ := hl
    exact ⟨D, ys, _, rfl, rfl, dn1, dn2, ⟨kk, k D _ (fun q => two (P := fun b => D ≠ b) hDL hDC D q rfl) ho⟩, (hr.flat fk).flatX⟩
  have Fm' : Fm G env (σ₁.set y (.lst out)) (α ++ β) { s' with heap := h₃, toks := s'.toks } := by
    have nc : ∀ c ∈ env.cells.map (·.2), ∀ o, s₂.heap.get? c = some o → h₃.get? c = some o := fun c hc o e => by
      refine k c o (fun q => ?_) (spw.keep c o (F₂.ca c hc) (fun q => wok.nx _ q (.tail _ hc)) (F₂.ctb hc) e)
      simp only [List.mem_cons, List.not_mem_nil, or_false] at q
      rcases q with q | rfl
      · exact F₂.lc hc q
      · rw [hC] at e; cases e
    refine ⟨gs', lb', ⟨_, hn₂.sameBut hs₃ hCL.symm, fun x d e => ?_⟩, fun x d e => ?_, fun c hc => ?_, F₂.nd, F₂.la, F₂.ca, F₂.lg, F₂.cg⟩
    · simp only [AS.set, List.lookup_cons] at e
      split at e
      · rename_i z
        cases e
        exact ⟨_, by simp [beq_iff_eq.mp z], rD⟩
      · rename_i z
        obtain ⟨u, h1, h2⟩ := hrL x d e
        have : ¬ x = y := fun w => by rw [w] at z; simp at z
        exact ⟨u, by simp [this, h1], stillα hsz lkk h2⟩
    · obtain ⟨c, v, h1, ⟨o, h2, h2'⟩, h3⟩ := F₂.cel x d e
      exact ⟨c, v, h1, ⟨o, nc c (mem_cells h1) _ h2, h2'⟩, stillα hsz lkk h3⟩
    · obtain ⟨v, o, h2, h2'⟩ := F₂.cells c hc
      exact ⟨v, o, nc c hc _ h2, h2'⟩
  refine ⟨.next _, β, q, ?_, hb, Fm'.tok, rfl⟩
  have sp2 : Sp G (env.locals :: (α ++ β)) s s₂ := sp.narrow fun b hb => .inl (List.mem_cons_of_mem _ (List.mem_append_left _ hb))
  have := sp2.spw spw' hwr
  have := this.narrow (F' := foot env α) fun b hq => by
    rcases List.mem_cons.mp hq with rfl | hq
    · exact .inl (.head _)
    · exact (List.mem_append.mp hq).imp (fun q => sub_foot b q) fun q => hb b q
  exact this.trans .tok
end
end
section
section
variable {τ υ : Type} {G : Gnd} {n m : Nat} {fi : Fi} {env : Env} {A : Around} {α β wr fp : List Addr} {s s₀ s₁ s₂ s' : Shared} {σ σ' σ₁ σ₂ σ₃ σ₄ : AS} {h' : Heap} {t : Nat}
theorem Itr.ofWalks {I : Addr} {k : Nat} {P : Nat → Value → Prop} {St : Nat → Heap → Prop} {h₀ : Heap} {tgt : Expr} {src : List D} (W : Walks G.prog G.w A I fp wr k P St) (hk : src.length = k) (hP : ∀ i v h, i < k → P i v → FrzKeep h₀ h → ∃ d, src[i]? = some d ∧ RepC [] none h d v)
    (ho : ∀ i h, St i h → ∀ b ∈ wr, ∃ o, h.get? b = some o ∧ ItObj o) (hgo : ∀ i v (s : Shared) (Q : Unit → Shared → Prop) (E : Value → Shared → Prop), St (i + 1) s.heap → P i v → Q () s → wpAny (model G.prog G.w) A (letOwnedTupleGo tgt (.ref I) v) Q E s) :
    Itr G A I fp wr tgt h₀ src St (fun i v h => P i v ∧ St (i + 1) h) := by
  subst hk
  refine ⟨W.sub, W.frame, ho, fun i v h x => ho _ _ x.2, fun i s Q E hi st fk hQ => ?_, fun i v s Q E x hQ => hgo i v s Q E x.2 x.1 (hQ s.heap x.2 fun b o _ e => e), W.done, W.self⟩
  refine W.item i s Q E hi st fun v h' tk hp st' k => ?_
  have fk' : FrzKeep h₀ h' := fun a o f e => k a o (fun q => by obtain ⟨o', h1, h2⟩ := ho _ _ st a q; rw [fk a o f e] at h1; cases h1; exact h2.notFrz f) (fk a o f e)
  obtain ⟨d, h1, h2⟩ := hP i v h' hi hp fk'
  exact hQ v h' tk d h1 h2 ⟨hp, st'⟩ k
theorem wrok_one {I : Addr} {o : Obj} {s₁ : Shared} (F : Fm G env σ α s₁) (hI : s₁.heap.get? I = none) (ho : s.heap.get? I = some o) (hi : ItObj o) : WrOk G env α [I] s.heap := by
  obtain ⟨n1, n2, n3, n4⟩ := F.freshNot hI
  exact ⟨fun b hb => by rw [List.mem_singleton.mp hb]; exact ⟨o, ho, hi⟩, fun b hb => by rw [List.mem_singleton.mp hb]; exact n1, fun b hb => by rw [List.mem_singleton.mp hb]; exact n2, fun b hb => by rw [List.mem_singleton.mp hb]; exact n3, fun b hb => by rw [List.mem_singleton.mp hb]; exact n4⟩
theorem it_list {I ax : Addr} {i : Nat} {h : Heap} (x : h.IsListIter I ax i) : ∃ o, h.get? I = some o ∧ ItObj o := by
  obtain ⟨o, h1, h2, h3⟩ := x
  exact ⟨o, h1, _, h3, fun q t e => by simp at e⟩
theorem it_range {I : Addr} {a b c : Int} {h : Heap} (x : IsRangeIter h I a b c) : ∃ o, h.get? I = some o ∧ ItObj o := ⟨_, x, _, rfl, fun q t e => by simp [rawInt] at e⟩
theorem it_rev {I ax : Addr} {i : Int} {h : Heap} (x : h.IsRevIter I ax i) : ∃ o, h.get? I = some o ∧ ItObj o := by
  obtain ⟨o, h1, h2, h3⟩ := x
  exact ⟨o, h1, _, h3, fun q t e => by simp [rawInt] at e⟩
/-- a target that asks nothing of the iterator (one name), or a tuple over a list -/
inductive TgtL : Expr → Prop
  | name (x : Str) (p : Pos) : TgtL (.Name x p)
  | tup (es : List Expr) (k : Nat) (p : Pos) : TgtL (.Tuple es k p)
theorem go_list {tgt : Expr} (T : TgtL tgt) {I l : Addr} {i : Nat} {v : Value} {Q : Unit → Shared → Prop} {E : Value → Shared → Prop} {prog : Program} {w : World} (hit : s.heap.IsListIter I l i) (hQ : Q () s) : wpAny (model prog w) A (letOwnedTupleGo tgt (.ref I) v) Q E s := by
  cases T with
  | name x p => exact wpAny_pure hQ
  | tup es k p =>
    cases v with
    | ref T => exact wpAny_letOwnedTupleGo_listiter hit hQ
    | _ => exact wpAny_pure hQ
theorem fresh_size {h : Heap} {a : Addr} (ha : h.objs.size ≤ a) : h.get? a = none := by
  cases e : h.get? a with
  | none => rfl
  | some o' => exact absurd (Heap.lt_size e) (Nat.not_lt.mpr ha)
theorem src_list {tgt : Expr} (T : TgtL tgt) {d : D} {src : List D} {v : Value} (hh : A.handled = none) (sp : Sp G α s s₁) (hb : ∀ b ∈ β, s.heap.get? b = none) (F : Fm G env σ (α ++ β) s₁) (r : Rep env (α ++ β) s₁.heap (.lst src) v) :
    wpAny (model G.prog G.w) A (pyIter v) (SrcAt G A env α σ tgt src s) bot s₁ := by
  simp only [RepC] at r
  obtain ⟨a, vs, _, rfl, e, hna, hnx, hl, hr⟩ := r
  cases e
  obtain ⟨kk, ho⟩ := id hl
  refine wpAny_pyIter_list hl.isList ?_
  have hax : a < s₁.heap.objs.size := Heap.lt_size ho
  have hne : a ≠ s₁.heap.objs.size := Nat.ne_of_lt hax
  have k : ∀ b o, s₁.heap.get? b = some o → (s₁.heap.push { cls := .type "list_iterator", data := .fields #[.ref a, .int 0 0] }).get? b = some o := push_all _
  have F' := F.all (t := s₁.toks) k
  have hit : (s₁.heap.push { cls := .type "list_iterator", data := .fields #[.ref a, .int 0 0] }).IsListIter s₁.heap.objs.size a 0 := ⟨_, Heap.get?_push_size _ rfl, rfl, rfl⟩
  refine ⟨β, s₁.heap.objs.size, _, _, _, _, rfl, sp.trans (Sp.all (t := s₁.toks) k), hb, F', Itr.ofWalks (Walks.list hh s₁.heap.objs.size a hne vs.toArray) (by rw [List.size_toArray, hr.length]) (fun i v h hi hp fk => ?_) (fun i h st b hb => ?_) (fun i v s Q E st _ hQ => go_list T st.1 hQ), ⟨hit, hl.isList.push _⟩, ?_, fun b hb => ?_, fun b hb => ?_⟩
  · obtain ⟨d, h1, h2⟩ := hr.back (by simpa using hp)
    refine ⟨d, h1, ?_⟩
    have fk' : FrzKeep s₁.heap h := fun a o f e => fk a o f (k a o e)
    have := (hr.flatX (X' := [])).flat fk'
    obtain ⟨v', h3, h4⟩ := this.get h1
    rw [show vs[i]? = some v from by simpa using hp] at h3
    cases h3; exact h4
  · rw [List.mem_singleton.mp hb]; exact it_list st.1
  · exact wrok_one (s₁ := s₁) F (fresh_size (Nat.le_refl _)) (Heap.get?_push_size _ rfl) ⟨_, rfl, fun q t e => by simp at e⟩
  · rw [List.mem_singleton.mp hb]; exact sp.gone (fresh_size (Nat.le_refl _))
  · rcases List.mem_cons.mp hb with rfl | hb
    · exact ⟨by rw [Heap.get?_push_size _ rfl]; rfl, .inl (.head _)⟩
    · rw [List.mem_singleton.mp hb]
      refine ⟨by rw [k _ _ ho]; rfl, .inr ⟨hna, hnx, fun q => ?_⟩⟩
      obtain ⟨q', hq, e⟩ := List.mem_map.mp q
      obtain ⟨ps, h1, _⟩ := F.gs.tabs q' hq
      rw [e, ho] at h1; cases h1
theorem pi_list {iter tgt : Expr} {src : List D} (h : PE G n fi σ iter (.lst src) σ₁) (T : TgtL tgt := by first | exact .name _ _ | exact .tup _ _ _) : PI G n fi σ iter tgt src σ₁ := .mk fun A env α s hA hE F =>
  wpAny_mono (h.run A env α s hA hE F) (fun v s₁ ⟨β, sp, hb, F1, r⟩ => src_list (d := .none) T hA.hh sp hb F1 r) fun _ _ x => x
noncomputable def rngD (a c : Int) (k : Nat) : List D := (List.range k).map fun (i : Nat) => D.int (a + (i : Int) * c)
theorem rngD_len {a c : Int} {k : Nat} : (rngD a c k).length = k := by simp [rngD]
theorem src_range {x : Str} {px : Pos} {r : Addr} {a b c : Int} {k : Nat} {t u v : Tok} (hh : A.handled = none) (hr : IsRange s₁.heap r a b c t u v) (hs : Builtin.Range.small a b c = true) (hk : Builtin.Range.rangeSize a b c = k) (sp : Sp G α s s₁) (hb : ∀ b ∈ β, s.heap.get? b = none) (F : Fm G env σ (α ++ β) s₁) :
    wpAny (model G.prog G.w) A (pyIter (.ref r)) (SrcAt G A env α σ (.Name x px) (rngD a c k) s) bot s₁ := by
  refine wpAny_pyIter_range hr hs ?_
  have kp : ∀ q o, s₁.heap.get? q = some o → (s₁.heap.push { cls := .type "range_iterator", data := .fields #[rawInt a, rawInt (Builtin.Range.rangeSize a b c), rawInt c] }).get? q = some o := push_all _
  have F' := F.all (t := s₁.toks) kp
  refine ⟨β, s₁.heap.objs.size, _, _, _, _, rfl, sp.trans (Sp.all (t := s₁.toks) kp), hb, F', Itr.ofWalks (Walks.range hh s₁.heap.objs.size a c k) rngD_len (fun i v h hi hp fk => ?_) (fun i h st b hb => ?_) (fun i v s Q E st _ hQ => wpAny_pure hQ), ?_, ?_, fun b hb => ?_, fun b hb => ?_⟩
  · obtain ⟨t, rfl⟩ := hp
    exact ⟨.int (a + i * c), by unfold rngD; rw [List.getElem?_map, List.getElem?_range hi]; rfl, rint⟩
  · rw [List.mem_singleton.mp hb]; exact it_range st
  · show IsRangeIter _ _ _ _ _
    rw [hk]; simpa using Heap.get?_push_size _ rfl
  · exact wrok_one (s₁ := s₁) F (fresh_size (Nat.le_refl _)) (Heap.get?_push_size _ rfl) ⟨_, rfl, fun q t e => by simp [rawInt] at e⟩
  · rw [List.mem_singleton.mp hb]; exact sp.gone (fresh_size (Nat.le_refl _))
  · rw [List.mem_singleton.mp hb]
    exact ⟨by rw [Heap.get?_push_size _ rfl]; rfl, .inl (.head _)⟩
theorem Sp.newRange (F : Fm G env σ (α ++ β) s₁) (sp : Sp G α s s₁) {h' : Heap} {t : Nat} (k : ∀ b o, s₁.heap.get? b = some o → h'.get? b = some o) : Sp G α s { s₁ with heap := h', toks := t } ∧ Fm G env σ (α ++ β) { s₁ with heap := h', toks := t } := ⟨sp.trans (Sp.all k), F.all k⟩
section
variable {a b c : Int} {k : Nat} {x : Str} {px p pos : Pos}
theorem pi_range1 {e : Expr} (hf : PE G n fi σ (.Name "range" p) (.val (.type "range")) σ) (h : PE G n fi σ e (.int b) σ₁) (hs : Builtin.Range.small 0 b 1 = true) (hk : Builtin.Range.rangeSize 0 b 1 = k)
    (he : ∀ env, starEach [e] env = (false, eval e env) :: starEach [] env := by intro _; rfl)
    (hq : ∀ env, eval (.Call (.Name "range" p) [e] [] pos) env = (do callWith pos (← eval (.Name "range" p) env) [] (backTo pos (starEach [e] env)) (backToKw pos (keywordEach [] env))) := by intro _; rfl) (hp : ∀ env, (backTo pos (starEach [e] env)).any (·.1) = false := by intro _; rfl) : PI G n fi σ (.Call (.Name "range" p) [e] [] pos) (.Name x px) (rngD 0 1 k) σ₁ := .mk fun A env α s hA hE F =>
  ev_callQ hE hA F hf (pes_cons h pes_nil he) pks_nil (fun _ _ => keeps_type) (fun β s₁ vals kvals sp hb F1 r1 r2 => by
    simp only [RepsC, RepC] at r1 r2; obtain ⟨_, _, rfl, ⟨t, rfl⟩, rfl⟩ := r1; subst r2
    refine call_range_1 ?_
    obtain ⟨sp', F'⟩ := Sp.newRange F1 sp (t := s₁.toks + 1 + 1) (push_all { cls := .type "range", data := .fields #[.int 0 s₁.toks, .int b t, .int 1 (s₁.toks + 1)] })
    exact src_range hA.hh (IsRange.new _ _ _ _ _ _ _) hs hk sp' hb F') hq hp
theorem pi_range2 {e1 e2 : Expr} (hf : PE G n fi σ (.Name "range" p) (.val (.type "range")) σ) (h1 : PE G n fi σ e1 (.int a) σ₁) (h2 : PE G n fi σ₁ e2 (.int b) σ₂) (hs : Builtin.Range.small a b 1 = true) (hk : Builtin.Range.rangeSize a b 1 = k)
    (he : ∀ env, starEach [e1, e2] env = (false, eval e1 env) :: starEach [e2] env := by intro _; rfl) (he2 : ∀ env, starEach [e2] env = (false, eval e2 env) :: starEach [] env := by intro _; rfl)
    (hq : ∀ env, eval (.Call (.Name "range" p) [e1, e2] [] pos) env = (do callWith pos (← eval (.Name "range" p) env) [] (backTo pos (starEach [e1, e2] env)) (backToKw pos (keywordEach [] env))) := by intro _; rfl) (hp : ∀ env, (backTo pos (starEach [e1, e2] env)).any (·.1) = false := by intro _; rfl) : PI G n fi σ (.Call (.Name "range" p) [e1, e2] [] pos) (.Name x px) (rngD a 1 k) σ₂ := .mk fun A env α s hA hE F =>
  ev_callQ hE hA F hf (pes_cons h1 (pes_cons h2 pes_nil he2) he) pks_nil (fun _ _ => keeps_type) (fun β s₁ vals kvals sp hb F1 r1 r2 => by
    simp only [RepsC, RepC] at r1 r2; obtain ⟨_, _, rfl, ⟨t, rfl⟩, _, _, rfl, ⟨u, rfl⟩, rfl⟩ := r1; subst r2
    refine call_range_2 ?_
    obtain ⟨sp', F'⟩ := Sp.newRange F1 sp (t := s₁.toks + 1) (push_all { cls := .type "range", data := .fields #[.int a t, .int b u, .int 1 s₁.toks] })
    exact src_range hA.hh (IsRange.new _ _ _ _ _ _ _) hs hk sp' hb F') hq hp
theorem pi_range3 {e1 e2 e3 : Expr} (hf : PE G n fi σ (.Name "range" p) (.val (.type "range")) σ) (h1 : PE G n fi σ e1 (.int a) σ₁) (h2 : PE G n fi σ₁ e2 (.int b) σ₂) (h3 : PE G n fi σ₂ e3 (.int c) σ₃) (hc : c ≠ 0) (hc2 : c.natAbs < 1073741824) (hs : Builtin.Range.small a b c = true) (hk : Builtin.Range.rangeSize a b c = k)
    (he : ∀ env, starEach [e1, e2, e3] env = (false, eval e1 env) :: starEach [e2, e3] env := by intro _; rfl) (he2 : ∀ env, starEach [e2, e3] env = (false, eval e2 env) :: starEach [e3] env := by intro _; rfl) (he3 : ∀ env, starEach [e3] env = (false, eval e3 env) :: starEach [] env := by intro _; rfl)
    (hq : ∀ env, eval (.Call (.Name "range" p) [e1, e2, e3] [] pos) env = (do callWith pos (← eval (.Name "range" p) env) [] (backTo pos (starEach [e1, e2, e3] env)) (backToKw pos (keywordEach [] env))) := by intro _; rfl) (hp : ∀ env, (backTo pos (starEach [e1, e2, e3] env)).any (·.1) = false := by intro _; rfl) : PI G n fi σ (.Call (.Name "range" p) [e1, e2, e3] [] pos) (.Name x px) (rngD a c k) σ₃ := .mk fun A env α s hA hE F =>
  ev_callQ hE hA F hf (pes_cons h1 (pes_cons h2 (pes_cons h3 pes_nil he3) he2) he) pks_nil (fun _ _ => keeps_type) (fun β s₁ vals kvals sp hb F1 r1 r2 => by
    simp only [RepsC, RepC] at r1 r2; obtain ⟨_, _, rfl, ⟨t, rfl⟩, _, _, rfl, ⟨u, rfl⟩, _, _, rfl, ⟨v, rfl⟩, rfl⟩ := r1; subst r2
    refine call_range_3 hc ?_ (.inl (PyProof.noPylong_small hc2))
    obtain ⟨sp', F'⟩ := Sp.newRange F1 sp (t := s₁.toks) (push_all { cls := .type "range", data := .fields #[.int a t, .int b u, .int c v] })
    exact src_range hA.hh (IsRange.new _ _ _ _ _ _ _) hs hk sp' hb F') hq hp
end
theorem pi_reversed {x : Str} {px p pos : Pos} {e : Expr} {src : List D} (hf : PE G n fi σ (.Name "reversed" p) (.val (.type "reversed")) σ) (h : PE G n fi σ e (.lst src) σ₁)
    (he : ∀ env, starEach [e] env = (false, eval e env) :: starEach [] env := by intro _; rfl)
    (hq : ∀ env, eval (.Call (.Name "reversed" p) [e] [] pos) env = (do callWith pos (← eval (.Name "reversed" p) env) [] (backTo pos (starEach [e] env)) (backToKw pos (keywordEach [] env))) := by intro _; rfl) (hp : ∀ env, (backTo pos (starEach [e] env)).any (·.1) = false := by intro _; rfl) : PI G n fi σ (.Call (.Name "reversed" p) [e] [] pos) (.Name x px) src.reverse σ₁ := .mk fun A env α s hA hE F =>
  ev_callQ hE hA F hf (pes_cons h pes_nil he) pks_nil (fun _ _ => keeps_type) (fun β s₁ vals kvals sp hb F1 r1 r2 => by
    simp only [RepsC] at r1 r2; obtain ⟨v, _, rfl, r, rfl⟩ := r1; subst r2
    simp only [RepC] at r
    obtain ⟨a, vs, _, rfl, e, hna, hnx, hl, hr⟩ := r
    cases e
    obtain ⟨kk, ho⟩ := id hl
    refine call_reversed_list hl.isList ?_
    have hax : a < s₁.heap.objs.size := Heap.lt_size ho
    have hne : a ≠ s₁.heap.objs.size := Nat.ne_of_lt hax
    have k : ∀ b o, s₁.heap.get? b = some o → (s₁.heap.push (revObj a ((vs.toArray.size : Int) - 1))).get? b = some o := push_all _
    have F' := F1.all (t := s₁.toks) k
    have hit : (s₁.heap.push (revObj a ((vs.toArray.size : Int) - 1))).IsRevIter s₁.heap.objs.size a ((vs.toArray.size : Int) - 1) := ⟨_, Heap.get?_push_size _ rfl, rfl, rfl⟩
    refine wpAny_pyIter_revIter hit ?_
    refine ⟨β, s₁.heap.objs.size, _, _, _, _, rfl, sp.trans (Sp.all (t := s₁.toks) k), hb, F', Itr.ofWalks (Walks.listRev hA.hh s₁.heap.objs.size a hne vs.toArray) (by rw [List.length_reverse, List.size_toArray, hr.length]) (fun i v h hi hp fk => ?_) (fun i h st b hb => ?_) (fun i v s Q E st _ hQ => wpAny_pure hQ), ⟨Nat.zero_le _, by simpa using hit, hl.isList.push _⟩, ?_, fun b hb => ?_, fun b hb => ?_⟩
    · rw [List.size_toArray] at hp hi
      have hp' : vs[vs.length - 1 - i]? = some v := by simpa using hp
      obtain ⟨d, h1, h2⟩ := hr.back hp'
      refine ⟨d, ?_, ?_⟩
      · rw [List.getElem?_reverse (by rw [← hr.length]; exact hi), ← hr.length]; exact h1
      · have fk' : FrzKeep s₁.heap h := fun a o f e => fk a o f (k a o e)
        have := (hr.flatX (X' := [])).flat fk'
        obtain ⟨v', h3, h4⟩ := this.get h1
        rw [hp'] at h3
        cases h3; exact h4
    · rw [List.mem_singleton.mp hb]; exact it_rev st.2.1
    · exact wrok_one (s₁ := s₁) F1 (fresh_size (Nat.le_refl _)) (Heap.get?_push_size _ rfl) ⟨_, rfl, fun q t e => by simp [rawInt] at e⟩
    · rw [List.mem_singleton.mp hb]; exact sp.gone (fresh_size (Nat.le_refl _))
    · rcases List.mem_cons.mp hb with rfl | hb
      · exact ⟨by rw [Heap.get?_push_size _ rfl]; rfl, .inl (.head _)⟩
      · rw [List.mem_singleton.mp hb]
        refine ⟨by rw [k _ _ ho]; rfl, .inr ⟨hna, hnx, fun q => ?_⟩⟩
        obtain ⟨q', hq, e⟩ := List.mem_map.mp q
        obtain ⟨ps, h1, _⟩ := F1.gs.tabs q' hq
        rw [e, ho] at h1; cases h1) hq hp
end
end
section
section
variable {τ υ : Type} {G : Gnd} {n m : Nat} {fi : Fi} {env : Env} {A : Around} {α β wr fp : List Addr} {s s₀ s₁ s₂ s' : Shared} {σ σ' σ₁ σ₂ σ₃ σ₄ : AS} {h' : Heap} {t : Nat}
theorem Spw.frzF {F : List Addr} (sp : Spw G F wr s s') (gs : Gs G s.heap) (hF : ∀ a ∈ F, ∀ o, s.heap.get? a = some o → ¬ Frz o) (w : ∀ b ∈ wr, ∃ o, s.heap.get? b = some o ∧ ItObj o) : FrzKeep s.heap s'.heap := fun a o f e =>
  sp.keep a o (fun q => hF a q o e f) (fun q => by obtain ⟨o', h1, h2⟩ := w a q; rw [e] at h1; cases h1; exact h2.notFrz f)
    (fun q => by obtain ⟨o', h1, h2⟩ := gs.notFrz q; rw [e] at h1; cases h1; exact h2 f) e
/-- the frame behind a step of an iterator -/
theorem Fm.iter (F : Fm G env σ α s) (wok : WrOk G env α wr s.heap) (k : ∀ b o, b ∉ wr → s.heap.get? b = some o → h'.get? b = some o) : Fm G env σ α { s with heap := h', toks := t } := by
  have nf : ∀ b ∈ wr, ∀ o, s.heap.get? b = some o → ¬ Frz o := fun b hb o e f => by obtain ⟨o', h1, h2⟩ := wok.obj b hb; rw [e] at h1; cases h1; exact h2.notFrz f
  have fk : FrzKeep s.heap h' := fun a o f e => k a o (fun q => nf a q o e f) e
  exact F.reframe (s' := { s with heap := h', toks := t }) (Spw.refl.next k fun b hb => .inl hb) (F.gs.chg k wok.ng wok.nt nf) (F.labs.chg k wok.nα fk) wok
/-- the turns of a for over the items -/
noncomputable def ForB (G : Gnd) (n : Nat) (fi : Fi) (x : Str) (body : List Stmt) (Q : Out → Prop) : List D → AS → Prop
  | [], σ => Q (.next σ)
  | d :: src, σ => ∃ σ', SN G n fi σ x d σ' ∧ σ'.H = σ.H ∧ SE G n fi σ' body (fun o => match o with
    | .next σ'' => σ''.H.length = σ.H.length ∧ ForB G n fi x body Q src σ''
    | .cont σ'' => σ''.H.length = σ.H.length ∧ ForB G n fi x body Q src σ''
    | .brk _ => False
    | .ret d σ'' => Q (.ret d σ''))
theorem s_for {x : Str} {px pos : Pos} {iter : Expr} {body : List Stmt} {src : List D} {Q : Out → Prop} (hit : PI G n fi σ iter (.Name x px) src σ₁) (hB : ForB G n fi x body Q src σ₁)
    (hs : ∀ env x, foldedSetIterable iter env x = pure x := by intro _ _; rfl) : S1 G n fi σ (.For (.Name x px) iter body [] pos) Q := .mk fun A env α s hA hE F => by
  refine wpAny_For (wpAny_mono (hit.run A env α s hA hE F) (fun xv s₁ h₁ => wpAny_mono h₁ (fun it s₂ h₂ => ?_) fun _ _ e => e) fun _ _ e => e) (hs env)
  obtain ⟨β, I, fp, wr, St, Mid, rfl, sp, hb, F₂, It, st, wok, hwr, hfp⟩ := h₂
  have lenα : (α ++ β).length = σ₁.H.length := F₂.labs.len
  generalize hγ : α ++ β = γ at *
  have bot_of : ∀ {E : Value → Shared → Prop} e s, bot e s → E e s := fun e s x => x.elim
  refine codeAny_forLoop_any
    (fun k s' => ∃ (i : Nat) (σi : AS), i ≤ src.length ∧ σi.H.length = γ.length ∧ ForB G n fi x body Q (src.drop i) σi ∧ k = src.length + 1 - i ∧ Spw G (foot env γ) wr s₂ s' ∧ Fm G env σi γ s' ∧ St i s'.heap) ?_ (src.length + 1)
    ⟨0, σ₁, Nat.zero_le _, lenα.symm, by simpa using hB, rfl, .refl, F₂, st⟩
  rintro k s' ⟨i, σi, hi, hlen, hB', rfl, spw, Fi, hst⟩
  have wokAt : ∀ {h : Heap}, (∀ b ∈ wr, ∃ o, h.get? b = some o ∧ ItObj o) → WrOk G env γ wr h := fun o => ⟨o, wok.nα, wok.nx, wok.ng, wok.nt⟩
  -- the whole, from the loop's start
  have whole : ∀ {s₃ : Shared} {δ : List Addr} {o : Out} {fl : Flow}, Q o → Spw G (foot env γ) wr s₂ s₃ → (∀ b ∈ δ, s₂.heap.get? b = none) → Fm G env o.st (γ ++ δ) s₃ → FlowOk (xsOf env) (γ ++ δ) s₃.heap o fl → SPost G env α s Q fl s₃ := by
    intro s₃ δ o fl q spw₃ hδ F₃ fo
    refine ⟨o, β ++ δ, q, ?_, fun b h => ?_, by rw [← List.append_assoc, hγ]; exact F₃, by rw [← List.append_assoc, hγ]; exact fo⟩
    · have sp2 : Sp G (foot env γ) s s₂ := sp.narrow fun b hb => .inl (by rw [← hγ]; exact sub_foot b (List.mem_append_left _ hb))
      refine (sp2.spw spw₃ hwr).narrow fun b hq => ?_
      rw [← hγ] at hq
      exact (foot_more b hq).imp id fun q => hb b q
    · rcases List.mem_append.mp h with h | h
      · exact hb b h
      · exact sp.gone (hδ b h)
  by_cases hlt : i < src.length
  · refine It.item i _ _ _ hlt hst (spw.frzF F₂.gs F₂.footNot wok.obj) fun v h₂ tk₂ d hd rd mid k₂ => ?_
    have Fi₂ : Fm G env σi γ { s' with heap := h₂, toks := tk₂ } := Fi.iter (wokAt (It.obj _ _ hst)) k₂
    have spw₂ : Spw G (foot env γ) wr s₂ { s' with heap := h₂, toks := tk₂ } := spw.next k₂ fun b hb => .inl hb
    refine It.go i v _ _ _ mid fun h₃ hst₃ k₃ => ?_
    have Fi₃ : Fm G env σi γ { s' with heap := h₃, toks := tk₂ } := Fi₂.iter (wokAt (It.objM _ _ _ mid)) k₃
    have spw₃ : Spw G (foot env γ) wr s₂ { s' with heap := h₃, toks := tk₂ } := spw₂.next k₃ fun b hb => .inl hb
    have rd₃ : RepC [] none h₃ d v := flat_keep k₃ (fun b hb o e f => by obtain ⟨o', h1, h2⟩ := It.objM _ _ _ mid b hb; rw [e] at h1; cases h1; exact h2.notFrz f) rd
    have hdrop : src.drop i = d :: src.drop (i + 1) := by
      rw [List.drop_eq_getElem_cons hlt]
      rw [List.getElem?_eq_getElem hlt] at hd; cases hd; rfl
    rw [hdrop] at hB'
    obtain ⟨σ', hsn, hH', hse⟩ := hB'
    refine wpAny_assign_Name (wpAny_mono (hsn.run A env γ _ v hA hE Fi₃ (rd₃.flatX.up)) (fun _ s₄ ⟨sp₄, F₄⟩ => ?_) bot_of)
    have spw₄ := spw₃.sp (locFoot (α := γ) (h := sp₄))
    have keepFp : ∀ {sa sb : Shared} {F : List Addr}, (∀ b ∈ F, b ∈ foot env γ) → Sp G F sa sb → St (i + 1) sa.heap → St (i + 1) sb.heap := fun hF spx stx => It.frame _ _ _ stx fun b hb o e => spx.keep b o (fun q => by
      have q := hF b q
      have nα : b ∉ γ := (hfp b hb).2.elim (wok.nα b) fun q => q.1
      have nx : b ∉ xsOf env := (hfp b hb).2.elim (wok.nx b) fun q => q.2.1
      unfold foot at q
      rcases List.mem_cons.mp q with rfl | q
      · exact nx (.head _)
      · rcases List.mem_append.mp q with q | q
        · exact nx (.tail _ (ownC_sub q))
        · exact nα q) ((hfp b hb).2.elim (wok.nt b) fun q => q.2.2) e
    have st₄ := keepFp (fun b hb => hb) (locFoot (α := γ) (h := sp₄)) hst₃
    refine wpAny_mono (hse.run A env γ s₄ hA hE F₄) (fun fl s₅ ⟨o, δ, q, sp₅, hδ, F₅, fo⟩ => ?_) bot_of
    have spw₅ := spw₄.sp sp₅
    have st₅ := keepFp (fun b hb => hb) sp₅ st₄
    cases o with
    | next σ'' =>
      cases fo
      have : δ = [] := none_of_len F₅.labs (by show γ.length = σ''.H.length; rw [q.1, hlen])
      subst this
      rw [List.append_nil] at F₅
      exact ⟨src.length + 1 - (i + 1), by omega, i + 1, σ'', hlt, by rw [q.1, hlen], q.2, rfl, spw₅, F₅, st₅⟩
    | cont σ'' =>
      cases fo
      have : δ = [] := none_of_len F₅.labs (by show γ.length = σ''.H.length; rw [q.1, hlen])
      subst this
      rw [List.append_nil] at F₅
      exact ⟨src.length + 1 - (i + 1), by omega, i + 1, σ'', hlt, by rw [q.1, hlen], q.2, rfl, spw₅, F₅, st₅⟩
    | brk σ'' => exact q.elim
    | ret d σ'' =>
      obtain ⟨v', rfl, r⟩ := fo
      refine whole (o := .ret d σ'') q spw₅ (fun b hb' => ?_) F₅ ⟨v', rfl, r⟩
      have h4 : s₄.heap.get? b = none := hδ b hb'
      by_cases hbw : b ∈ wr
      · obtain ⟨o, h1, _⟩ := It.obj _ _ st₄ b hbw
        rw [h4] at h1; cases h1
      · cases e : s₂.heap.get? b with
        | none => rfl
        | some o => have := spw₄.live b hbw (by rw [e]; rfl); rw [h4] at this; cases this
  · have hin : i = src.length := by omega
    subst hin
    refine It.done _ _ _ hst fun h₂ tk₂ k₂ => wpAny_execs_nil ?_
    have Fi₂ : Fm G env σi γ { s' with heap := h₂, toks := tk₂ } := Fi.iter (wokAt (It.obj _ _ hst)) k₂
    have spw₂ : Spw G (foot env γ) wr s₂ { s' with heap := h₂, toks := tk₂ } := spw.next k₂ fun b hb => .inl hb
    rw [List.drop_length] at hB'
    exact whole (o := .next σi) (δ := []) hB' spw₂ (fun _ h => nomatch h) (by rw [List.append_nil]; exact Fi₂) rfl
/-- the turns of a while, at most k -/
noncomputable def WhB (G : Gnd) (n : Nat) (fi : Fi) (test : Expr) (body : List Stmt) (Q : Out → Prop) : Nat → AS → Prop
  | 0, _ => False
  | k + 1, σ => ∃ (b : Bool) (σ' : AS), PT G n fi σ test b σ' ∧ σ'.H.length = σ.H.length ∧ if b then SE G n fi σ' body (fun o => match o with
      | .next σ'' => σ''.H.length = σ.H.length ∧ WhB G n fi test body Q k σ''
      | .cont σ'' => σ''.H.length = σ.H.length ∧ WhB G n fi test body Q k σ''
      | .brk _ => False
      | .ret d σ'' => Q (.ret d σ'')) else Q (.next σ')
theorem s_while {test : Expr} {body : List Stmt} {pos : Pos} {Q : Out → Prop} (k : Nat) (hB : WhB G n fi test body Q k σ) : S1 G n fi σ (.While test body [] pos) Q := .mk fun A env α s hA hE F => by
  refine wpAny_While ?_
  have lenα : α.length = σ.H.length := F.labs.len
  have bot_of : ∀ {E : Value → Shared → Prop} e s, bot e s → E e s := fun e s x => x.elim
  refine codeAny_whileLoop (fun k s' => ∃ σi : AS, σi.H.length = α.length ∧ WhB G n fi test body Q k σi ∧ Sp G (foot env α) s s' ∧ Fm G env σi α s') ?_ k ⟨σ, lenα.symm, hB, .refl, F⟩
  rintro k s' ⟨σi, hlen, hB', sp, Fi⟩
  cases k with
  | zero => exact hB'.elim
  | succ k =>
    obtain ⟨b, σ', ht, hH, hk⟩ := hB'
    refine wpAny_mono (ht.run A env α s' hA hE Fi) (fun b' s₁ ⟨β, sp₁, hb, F₁, rb⟩ => ?_) bot_of
    subst rb
    have : β = [] := none_of_len F₁.labs (by rw [hH, hlen])
    subst this
    rw [List.append_nil] at F₁
    have sp₁' := sp.trans sp₁.foot
    cases b' with
    | true =>
      simp only [if_true] at hk ⊢
      refine wpAny_mono (hk.run A env α s₁ hA hE F₁) (fun fl s₅ ⟨o, δ, q, sp₅, hδ, F₅, fo⟩ => ?_) bot_of
      cases o with
      | next σ'' =>
        cases fo
        have : δ = [] := none_of_len F₅.labs (by show α.length = σ''.H.length; rw [q.1, hlen])
        subst this
        rw [List.append_nil] at F₅
        exact ⟨k, Nat.lt_succ_self k, σ'', by rw [q.1, hlen], q.2, sp₁'.trans sp₅, F₅⟩
      | cont σ'' =>
        cases fo
        have : δ = [] := none_of_len F₅.labs (by show α.length = σ''.H.length; rw [q.1, hlen])
        subst this
        rw [List.append_nil] at F₅
        exact ⟨k, Nat.lt_succ_self k, σ'', by rw [q.1, hlen], q.2, sp₁'.trans sp₅, F₅⟩
      | brk σ'' => exact q.elim
      | ret d σ'' =>
        obtain ⟨v', rfl, r⟩ := fo
        exact ⟨.ret d σ'', δ, q, sp₁'.trans sp₅, fun b hb => sp₁'.gone (hδ b hb), F₅, v', rfl, r⟩
    | false =>
      simp only [Bool.false_eq_true, if_false] at hk ⊢
      exact wpAny_execs_nil ⟨.next σ', [], hk, sp₁', (fun _ h => nomatch h), by rw [List.append_nil]; exact F₁, rfl⟩
end
end
section
section
variable {τ υ : Type} {G : Gnd} {n m : Nat} {fi : Fi} {env : Env} {A : Around} {α β wr fp : List Addr} {s s₀ s₁ s₂ s' : Shared} {σ σ' σ₁ σ₂ σ₃ σ₄ : AS} {h' : Heap} {t : Nat}
theorem Fm.reframeL {H' : List Cont} (F : Fm G env σ α s) (sp : Spw G α wr s s') (gs : Gs G s'.heap) (hβ : ∀ b ∈ β, s.heap.get? b = none) (lb : Labs G (α ++ β) s'.heap H') (w : WrOk G env α wr s.heap) : Fm G env { σ with H := H' } (α ++ β) s' := by
  have fk := sp.frz F.gs (fun a ha => F.labs.notFrz ha) w.obj
  have lk := sp.lst (X := xsOf env) F.gs w.obj
  refine ⟨gs, lb, ?_, fun x d e => ?_, fun c hc => ?_, F.nd, fun q => ?_, fun c hc q => ?_, F.lg, F.cg⟩
  · obtain ⟨m, hn, hr⟩ := F.loc
    exact ⟨m, hn.at' fun o e => sp.keep _ _ F.la (fun q => w.nx _ q (.head _)) F.ltb e, fun x d e => let ⟨v, h1, h2⟩ := hr x d e; ⟨v, h1, h2.still fk lk (grow_of hβ)⟩⟩
  · obtain ⟨c, v, h1, ⟨o, h2, h2'⟩, h3⟩ := F.cel x d e
    have hc := mem_cells h1
    exact ⟨c, v, h1, ⟨o, sp.keep _ _ (F.ca c hc) (fun q => w.nx _ q (.tail _ hc)) (F.ctb hc) h2, h2'⟩, h3.still fk lk (grow_of hβ)⟩
  · obtain ⟨v, o, h2, h2'⟩ := F.cells c hc
    exact ⟨v, o, sp.keep _ _ (F.ca c hc) (fun q => w.nx _ q (.tail _ hc)) (F.ctb hc) h2, h2'⟩
  · rcases List.mem_append.mp q with q | q
    · exact F.la q
    · obtain ⟨m, ⟨o', es, n, h1, _⟩, _⟩ := F.loc; rw [hβ _ q] at h1; cases h1
  · rcases List.mem_append.mp q with q | q
    · exact F.ca c hc q
    · obtain ⟨v, o, h2, h2'⟩ := F.cells c hc; rw [hβ _ q] at h2; cases h2
theorem Labs.snoc {H : List Cont} {D₀ : Addr} {c : Cont} {h : Heap} (L : Labs G α h H) (hc : ContOk (α ++ [D₀]) h D₀ c) (n1 : D₀ ∉ α) (n3 : G.g0.get? D₀ = none) (n4 : D₀ ∉ G.TB) : Labs G (α ++ [D₀]) h (H ++ [c]) := by
  refine ⟨by simp [L.len], by rw [List.nodup_append]; exact ⟨L.nd, by simp, fun a ha b hb e => by rw [List.mem_singleton.mp hb] at e; exact n1 (e ▸ ha)⟩, fun i a c' h1 h2 => ?_, fun a ha => ?_, fun a ha => ?_⟩
  · rcases Nat.lt_or_ge i α.length with hi | hi
    · rw [List.getElem?_append_left hi] at h1
      rw [List.getElem?_append_left (by rw [← L.len]; exact hi)] at h2
      have g : ∀ i a : Nat, α[i]? = some a → (α ++ [D₀])[id i]? = some a := fun i a e => by
        show (α ++ [D₀])[i]? = some a
        rw [List.getElem?_append_left (List.getElem?_eq_some_iff.mp e).1]; exact e
      have := (L.ok i a c' h1 h2)
      cases c' with
      | list ds => exact this
      | inst C j => obtain ⟨d, q1, q2⟩ := this; exact ⟨d, g _ _ q1, q2⟩
      | dict es =>
        obtain ⟨des, n, q1, q2, q3, q4⟩ := this
        refine ⟨des, n, q1, q2, q3, fun i y d hi => ?_⟩
        obtain ⟨hs, t, v, q5, q0, q6⟩ := q4 i y d hi
        have q7 : RepC [] (some (α ++ [D₀])) h (d.ren id) v := q6.nolRen g q0
        refine ⟨hs, t, v, q5, q0, ?_⟩
        have : d.ren id = d := ren_id d
        rwa [this] at q7
      | obj P => exact this
    · rw [List.getElem?_append_right hi] at h1
      rw [List.getElem?_append_right (by rw [← L.len]; exact hi), ← L.len] at h2
      generalize i - α.length = j at h1 h2
      cases j with
      | zero => simp at h1 h2; subst h1; subst h2; exact hc
      | succ j => simp at h1
  · rcases List.mem_append.mp ha with q | q
    · exact L.g0 a q
    · rw [List.mem_singleton.mp q]; exact n3
  · rcases List.mem_append.mp ha with q | q
    · exact L.tb a q
    · rw [List.mem_singleton.mp q]; exact n4
where
  ren_id : ∀ d : Mine.D, d.ren id = d
  | .none => rfl | .bool _ => rfl | .int _ => rfl | .str _ => rfl | .lst _ => rfl | .hdr _ _ => rfl | .any => rfl | .ref _ => rfl | .val _ => rfl | .fn .. => rfl
  | .tup ds => by simp only [D.ren]; rw [rens_id ds]
  rens_id : ∀ ds : List Mine.D, D.ren.rens id ds = ds
  | [] => rfl
  | d :: ds => by simp only [D.ren.rens]; rw [ren_id d, rens_id ds]
/-- a comprehension's list, labelled -/
theorem pe_compL {tgt elt iter : Expr} {ifs : List Expr} {scope : Scope} {pos : Pos} {src out : List D} (c : CompOk fi scope) (hit : PI G n fi σ iter tgt src σ₁) (hB : CompB G n (fiC fi scope) (celF scope σ₁) σ₁.H tgt elt ifs src out) (hz : src.length ≤ 1000000)
    (hs : ∀ env x, foldedSetIterable iter env x = pure x := by intro _ _; rfl) : PE G n fi σ (.ListComp elt [⟨tgt, iter, ifs, 0⟩] scope pos) (.ref σ₁.H.length) { σ₁ with H := σ₁.H ++ [.list out] } := .mk fun A env α s hA hE F => by
  show wpAny _ A (eval (.ListComp elt [⟨tgt, iter, ifs, 0⟩] scope pos) env) _ _ _
  rw [eval_ListComp]
  refine wpAny_comprehension_free (use := none) rfl (hs env) (closureFor_ok (c.cells hE)) c.kind c.locals (wpAny_mono (hit.run A env α s hA hE F) (fun x s₁ h₁ => wpAny_mono h₁ (fun it s₂ h₂ => ?_) fun _ _ e => e) fun _ _ e => e)
  obtain ⟨β, I, fp, wr, St, Mid, rfl, sp, hb, F₂, It, st, wok, hwr, hfp⟩ := h₂
  refine comp_core (RR := fun acc C => compPost (model G.prog G.w) A bot none (Post G env α s { σ₁ with H := σ₁.H ++ [.list out] } (RD (.ref σ₁.H.length))) acc C) c hA hE F₂ It st wok hfp hz hB fun D C s' m ys spw F' hD hC hDC hn hl hr => ?_
  refine ⟨m, hn, fun h'' hs'' => ?_⟩
  obtain ⟨dn1, dn2, dn3, dn4⟩ := F₂.freshNot hD
  obtain ⟨cn1, cn2, cn3, cn4⟩ := F₂.freshNot hC
  have k : ∀ b o, b ∉ [C] → s'.heap.get? b = some o → h''.get? b = some o := fun b o hb e => hs''.extBut b o (fun q => hb (by simp [q])) e
  have nf : ∀ b ∈ [C], ∀ o, s'.heap.get? b = some o → ¬ Frz o := fun b hb => by rw [List.mem_singleton.mp hb]; exact ns_notFrz hn
  have fk : FrzKeep s'.heap h'' := fun a o f e => k a o (fun q => nf a q o e f) e
  have spw' : Spw G (α ++ β) wr s₂ { s' with heap := h'', toks := s'.toks } := spw.next k fun b hb => .inr (by rw [List.mem_singleton.mp hb]; exact hC)
  have gs' : Gs G h'' := F'.gs.chg k (fun b hb => by rw [List.mem_singleton.mp hb]; exact cn3) (fun b hb => by rw [List.mem_singleton.mp hb]; exact cn4) nf
  have lb' : Labs G (α ++ β) h'' σ₁.H := F'.labs.chg k (fun b hb => by rw [List.mem_singleton.mp hb]; exact cn1) fk
  have hpl : h''.PlainList D ys.toArray := let ⟨kk, ho⟩ := hl; ⟨kk, k D _ (fun q => hDC (List.mem_singleton.mp q)) ho⟩
  have F'' := F₂.reframeL (β := [D]) spw' gs' (fun b hb => by rw [List.mem_singleton.mp hb]; exact hD) (lb'.snoc (c := .list out) ⟨ys, hpl, hr.flat fk⟩ dn1 dn3 dn4) wok
  refine ⟨β ++ [D], ?_, fun b hq => ?_, by rw [← List.append_assoc]; exact F'', ?_⟩
  · have sp2 : Sp G (α ++ β) s s₂ := sp.narrow fun b hb => .inl (List.mem_append_left _ hb)
    exact (sp2.spw spw' hwr).narrow fun b hq => (List.mem_append.mp hq).imp id fun q => hb b q
  · rcases List.mem_append.mp hq with h | h
    · exact hb b h
    · rw [List.mem_singleton.mp h]; exact sp.gone hD
  · simp only [RepC]
    refine ⟨D, _, rfl, ?_, rfl⟩
    rw [← List.append_assoc, List.getElem?_append_right (by rw [F₂.labs.len]; exact Nat.le_refl _), F₂.labs.len, Nat.sub_self]; rfl
end
end
section
section
variable {τ υ : Type} {G : Gnd} {n m : Nat} {fi : Fi} {env : Env} {A : Around} {α β wr fp : List Addr} {s s₀ s₁ s₂ s' : Shared} {σ σ' σ₁ σ₂ σ₃ σ₄ : AS} {h' : Heap} {t : Nat}
theorem Fm.tab (ok : G.Ok) (F : Fm G env σ α s) {q : Mk} (hq : q ∈ G.mks) {c' : Addr} (k : ∀ b o, b ≠ q.P → s.heap.get? b = some o → h'.get? b = some o) (hP : h'.get? q.P = some (tabObj #[rawInt q.pos.line, rawInt q.pos.col, .ref c'])) (hr : h'.CodeRec (.ref c') q.qual) : Fm G env σ α { s with heap := h', toks := t } := by
  have hPT : q.P ∈ G.TB := List.mem_map_of_mem hq
  have fk : FrzKeep s.heap h' := fun a o f e => k a o (fun z => by obtain ⟨o', h1, h2⟩ := F.gs.notFrz hPT; rw [← z, e] at h1; cases h1; exact h2 f) e
  have lk : LstKeep (xsOf env) (some α) s.heap h' := fun _ _ a o _ _ hl e => k a o (fun z => by obtain ⟨ps, h1, _⟩ := F.gs.tabs q hq; rw [← z, e] at h1; cases h1; exact hl _ rfl) e
  refine ⟨⟨fun b o e => k b o (fun z => by rw [z, ok.tbg _ hPT] at e; cases e) (F.gs.base b o e), fun q' hq' => ?_, fun q' hq' => let ⟨f, e⟩ := F.gs.fx q' hq'; ⟨f, fk _ _ f e⟩⟩, ?_, ?_, fun x d e => ?_, fun c hc => ?_, F.nd, F.la, F.ca, F.lg, F.cg⟩
  · by_cases z : q'.P = q.P
    · have := ok.uniq q hq q' hq' z
      subst this
      exact ⟨_, hP, .inr ⟨c', rfl, hr⟩⟩
    · obtain ⟨ps, h1, h2⟩ := F.gs.tabs q' hq'
      exact ⟨ps, k _ _ z h1, h2.imp id fun ⟨c', e, r⟩ => ⟨c', e, frz_code fk r⟩⟩
  · exact F.labs.chg (ch := [q.P]) (fun b o hb e => k b o (fun z => hb (by simp [z])) e) (fun b hb z => by rw [List.mem_singleton.mp hb] at z; exact F.labs.tb _ z hPT) fk
  · obtain ⟨m, hn, hr⟩ := F.loc
    exact ⟨m, hn.at' fun o e => k _ _ (fun z => F.ltb (z ▸ hPT)) e, fun x d e => let ⟨v, h1, h2⟩ := hr x d e; ⟨v, h1, stillα fk lk h2⟩⟩
  · obtain ⟨c, v, h1, ⟨o, h2, h2'⟩, h3⟩ := F.cel x d e
    exact ⟨c, v, h1, ⟨o, k _ _ (fun z => F.ctb (mem_cells h1) (z ▸ hPT)) h2, h2'⟩, stillα fk lk h3⟩
  · obtain ⟨v, o, h2, h2'⟩ := F.cells c hc
    exact ⟨v, o, k _ _ (fun z => F.ctb hc (z ▸ hPT)) h2, h2'⟩
theorem builtinsAt (ok : G.Ok) (gs : Gs G s.heap) {q : Mk} (hq : q ∈ G.mks) : mainGlobals ≠ q.P ∧ s.heap.BuiltinsAt G.mg q.P := by
  have hPT : q.P ∈ G.TB := List.mem_map_of_mem hq
  obtain ⟨bm, ob, b1, b2, b3, b4, b5, b6⟩ := ok.T.bmain
  refine ⟨fun z => ?_, bm, ob, b1, b2, fun z => ?_, fun z => ?_, gs.base _ _ b3, b4, b5, b6⟩
  · obtain ⟨o, es, ep, e, hd, _⟩ := ok.T.g
    rw [z, ok.tbg _ hPT] at e; cases e
  · obtain ⟨o, es, ep, e, hd, _⟩ := ok.T.g
    rw [z, e] at b3; cases b3; rw [hd] at b6; cases b6
  · rw [z, ok.tbg _ hPT] at b3; cases b3
/-- a def made within a body -/
theorem mk_fn (ok : G.Ok) (F : Fm G env σ α s) (E : EnvOk env fi) {q : Mk} (hq : q ∈ G.mks) {ql : Str} (hcode : fi.code = some (.ref q.c, ql)) {name : Str} {params : Arguments} {body : List Stmt} {scope : Scope} {firstLine : Nat} {clos : List (Str × Addr)} {Q : Value → Shared → Prop} {Er : Value → Shared → Prop}
    (hcl : closureFor scope env = pure clos)
    (h : ∀ f c' oc vs t doc pm ctv s', Sp G [] s s' → Fm G env σ α s' → s.heap.get? f = none → s'.heap.get? f = some (fnMade name q.qual params body scope clos doc pm c' ctv) → s'.heap.get? c' = some oc → oc.data = .fields vs → vs[1]? = some (.str q.qual t) → Q (.ref f) s') :
    wpAny (model G.prog G.w) A (makeFunction name q.qual params (.stmts body) scope env [] [] [] q.pos firstLine) Q Er s := by
  obtain ⟨hgP, hb⟩ := builtinsAt ok F.gs hq
  obtain ⟨ps, hP, hps⟩ := F.gs.tabs q hq
  have hPT : q.P ∈ G.TB := List.mem_map_of_mem hq
  have hc := (E.code _ _ hcode).1
  have C := (ok.hd q hq).keeps F.gs.base
  rcases hps with rfl | ⟨c', rfl, hr⟩
  · refine makeFunction_K hcl E.gl (ok.T.g.keeps F.gs.base) hc C hP trivial rfl hgP hb fun c' ctv doc h' tk hx hge hlt hrec htb => ?_
    have hup : ∀ b o, b ≠ q.P → s.heap.get? b = some o → (h'.push (fnMade name q.qual params body scope clos doc ((G.mg "__name__").getD .none) c' ctv)).get? b = some o := fun b o hb e => Heap.get?_push_of_some _ (hx b o hb e)
    have hrec' := hrec.push (fnMade name q.qual params body scope clos doc ((G.mg "__name__").getD .none) c' ctv)
    have hP' := Heap.get?_push_of_some (fnMade name q.qual params body scope clos doc ((G.mg "__name__").getD .none) c' ctv) htb
    have F' := F.tab (t := tk) ok hq hup hP' hrec'
    obtain ⟨c0, oc, vs, tq, e1, e2, e3, e4⟩ := hrec'
    cases e1
    refine h h'.objs.size c' oc vs tq doc _ ctv _ ⟨⟨_, _, _, rfl⟩, fun b o _ ht e => hup b o (fun z => ht (z ▸ hPT)) e, fun b e => ?_⟩ F' ?_ (Heap.get?_push_size _ rfl) e2 e3 e4
    · by_cases z : b = q.P
      · rw [z]; show (Heap.get? _ _).isSome = true; rw [hP']; rfl
      · obtain ⟨o, ho⟩ := Option.isSome_iff_exists.mp e; show (Heap.get? _ _).isSome = true; rw [hup b o z ho]; rfl
    · exact fresh_size (Nat.le_of_lt (Nat.lt_of_le_of_lt hge hlt))
  · refine makeFunction_hit hcl E.gl (ok.T.g.keeps F.gs.base) hc C hP (by simp [TriplesOk, rawInt]) (cv := .ref c') (by simp [codeAmong, rawInt]) hb fun ctv doc h' tk hk hsz => ?_
    have hup : ∀ b o, s.heap.get? b = some o → (h'.push (fnMade name q.qual params body scope clos doc ((G.mg "__name__").getD .none) c' ctv)).get? b = some o := fun b o e => Heap.get?_push_of_some _ (hk b o e)
    obtain ⟨c0, oc, vs, tq, e1, e2, e3, e4⟩ := hr
    cases e1
    exact h h'.objs.size c' oc vs tq doc _ ctv _ (Sp.all hup) (F.all (t := tk) hup) (fresh_size hsz) (Heap.get?_push_size _ rfl) (hup _ _ e2) e3 e4
/-! more frozen ground -/
noncomputable def Gnd.add (G : Gnd) (l : List (Addr × Obj)) : Gnd := { G with fx := l ++ G.fx }
theorem Gs.add {l : List (Addr × Obj)} {h : Heap} (gs : Gs G h) (hl : ∀ q ∈ l, Frz q.2 ∧ h.get? q.1 = some q.2) : Gs (G.add l) h := ⟨gs.base, gs.tabs, fun q hq => (List.mem_append.mp hq).elim (hl q) (gs.fx q)⟩
theorem Gs.rem {l : List (Addr × Obj)} {h : Heap} (gs : Gs (G.add l) h) : Gs G h := ⟨gs.base, gs.tabs, fun q hq => gs.fx q (List.mem_append_right _ hq)⟩
theorem Fm.add {l : List (Addr × Obj)} (F : Fm G env σ α s) (hl : ∀ q ∈ l, Frz q.2 ∧ s.heap.get? q.1 = some q.2) : Fm (G.add l) env σ α s := ⟨F.gs.add hl, ⟨F.labs.len, F.labs.nd, F.labs.ok, F.labs.g0, F.labs.tb⟩, F.loc, F.cel, F.cells, F.nd, F.la, F.ca, F.lg, F.cg⟩
theorem Fm.rem {l : List (Addr × Obj)} (F : Fm (G.add l) env σ α s) : Fm G env σ α s := ⟨F.gs.rem, ⟨F.labs.len, F.labs.nd, F.labs.ok, F.labs.g0, F.labs.tb⟩, F.loc, F.cel, F.cells, F.nd, F.la, F.ca, F.lg, F.cg⟩
theorem Sp.rem {l : List (Addr × Obj)} {F : List Addr} (x : Sp (G.add l) F s s') : Sp G F s s' := ⟨x.same, x.keep, x.live⟩
theorem Sp.add {l : List (Addr × Obj)} {F : List Addr} (x : Sp G F s s') : Sp (G.add l) F s s' := ⟨x.same, x.keep, x.live⟩
theorem SPost.rem {l : List (Addr × Obj)} {Q : Out → Prop} {fl : Flow} (x : SPost (G.add l) env α s Q fl s') : SPost G env α s Q fl s' := by
  obtain ⟨o, β, q, sp, hb, F, fo⟩ := x
  exact ⟨o, β, q, sp.rem, hb, F.rem, fo⟩
theorem Ok.add {l : List (Addr × Obj)} (ok : G.Ok) : (G.add l).Ok := ⟨ok.X, ok.T, ok.tbg, ok.hd, ok.uniq⟩
noncomputable def clL (cs : List (Str × Addr)) : List (Str × NameKind) → List (Str × Addr) → List (Str × Addr)
  | [], acc => acc
  | (n, k) :: r, acc => clL cs r (if k == .free then (n, (cs.lookup n).getD 0) :: acc else acc)
theorem clOf_eq : ∀ {names : List (Str × NameKind)} {acc : List (Str × Addr)}, clOf env names acc = clL env.cells names acc
  | [], acc => rfl
  | (n, k) :: r, acc => by rw [clOf, clL]; exact clOf_eq
/-- a def within a body: its name is a cell of the frame -/
theorem se_def (ok : G.Ok) {q : Mk} (hq : q ∈ G.mks) {ql : Str} (hcode : fi.code = some (.ref q.c, ql)) {name : Str} {params : Arguments} {body rest : List Stmt} {scope : Scope} {Q : Out → Prop} (hqual : ql ++ name = q.qual) (hk : fi.scope.names.lookup name = some .cell) (hown : fi.own = true)
    (hfree : ∀ x ∈ scope.names, x.2 = .free → fi.scope.names.lookup x.1 = some .cell) (hd0 : params.defaults = []) (hk0 : params.kw_defaults = []) (ha : ∀ env, annTrees params none env = [])
    (k : ∀ f c' oc vs t doc pm ctv cs, (cs.map (·.2)).Nodup → (∀ x ∈ scope.names, x.2 = .free → ∃ c, cs.lookup x.1 = some c) → oc.data = .fields vs → vs[1]? = some (.str q.qual t) →
      SE (G.add [(f, fnMade name q.qual params body scope (clL cs scope.names []) doc pm c' ctv), (c', oc)]) n { fi with cells := some cs } (σ.setc name (.val (.ref f))) rest Q) :
    SE G n fi σ (.FunctionDef name params body [] none [] scope none name q.pos :: rest) Q := .mk fun A env α s hA hE F => by
  have hcells : ∀ x ∈ scope.names, x.2 = .free → ∃ c, env.cells.lookup x.1 = some c := fun x hx hf => hE.cl hown x.1 (hfree x hx hf)
  refine wpAny_execs_cons (Q := SPost G env α s Q) ?_
  refine nestDef_K hd0 hk0 (ha env) ?_
  have hqn : qualnameIn env name name = q.qual := by
    unfold qualnameIn
    have h1 : env.kindOf name = some .cell := hE.of hk
    rw [h1, (hE.code _ _ hcode).2, ← hqual]; rfl
  rw [hqn]
  refine mk_fn ok F hE hq hcode (closureFor_ok hcells) fun f c' oc vs t doc pm ctv s₁ sp₁ F₁ hf1 hf2 hc1 hc2 hc3 => ?_
  have F₁' := F₁.add (l := [(f, fnMade name q.qual params body scope (clOf env scope.names []) doc pm c' ctv), (c', oc)]) (fun p hp => by
    rcases List.mem_cons.mp hp with rfl | hp
    · exact ⟨.inr (.inl ⟨_, rfl⟩), hf2⟩
    · rw [List.mem_singleton.mp hp]; exact ⟨.inr (.inr ⟨vs, q.qual, t, hc2, hc3⟩), hc1⟩)
  rw [clOf_eq] at F₁'
  have hE' : EnvOk env { fi with cells := some env.cells } := ⟨hE.sc, hE.gl, hE.bi, hE.kind, hE.code, hE.cl, fun c e => by cases e; rfl⟩
  refine wpAny_mono ((sn_cel (G := G.add [(f, fnMade name q.qual params body scope (clL env.cells scope.names []) doc pm c' ctv), (c', oc)]) (n := n) (d := .val (.ref f)) hk hown).run A env α s₁ (.ref f) hA hE F₁' (by simp only [RepC])) (fun _ s₂ ⟨sp₂, F₂⟩ => ?_) fun _ _ x => x
  have := (k f c' oc vs t doc pm ctv env.cells F.nd hcells hc2 hc3).run A env α s₂ hA hE' F₂
  refine wpAny_mono this (fun fl s₃ x => ?_) fun _ _ x => x
  refine SPost.up (β := []) ((sp₁.narrow (F' := foot env α) fun b hb => nomatch hb).trans (locFoot (α := α) (h := sp₂.rem))) (fun _ h => nomatch h) ?_
  rw [List.append_nil]
  exact x.rem
end
end
section
section
variable {τ υ : Type} {G : Gnd} {n m : Nat} {fi : Fi} {env : Env} {A : Around} {α β wr fp : List Addr} {s s₀ s₁ s₂ s' : Shared} {σ σ' σ₁ σ₂ σ₃ σ₄ : AS} {h' : Heap} {t : Nat}
theorem lookup_pair {X : List Addr} {c : Option (List Addr)} {h : Heap} : ∀ {l1 : List (Str × D)} {l2 : List (Str × Value)}, l2.map (·.1) = l1.map (·.1) → RepsC X c h (l1.map (·.2)) (l2.map (·.2)) → ∀ x d, l1.lookup x = some d → ∃ v, l2.lookup x = some v ∧ RepC X c h d v
  | [], _, _, _, x, d, e => by simp at e
  | _ :: _, [], e, _, _, _, _ => by simp at e
  | (y, d₀) :: l1, (z, v₀) :: l2, e, r, x, d, hd => by
    simp only [List.map_cons, List.cons.injEq] at e
    obtain ⟨rfl, e⟩ := e
    simp only [List.map_cons, RepsC] at r
    obtain ⟨v, rr, e2, r1, r2⟩ := r
    cases e2
    rw [List.lookup_cons] at hd ⊢
    split at hd
    · rename_i q; cases hd; exact ⟨v₀, rfl, r1⟩
    · rename_i q; exact lookup_pair e r2 x d hd
/-- how an inner def's body ends: no new label, a result without lists -/
noncomputable def ExitC (k : Nat) (d : D) (H' : List Cont) : Out → Prop
  | .ret d₀ σ => d₀ = d ∧ d.flat = true ∧ σ.H = H' ∧ H'.length = k
  | .next σ => d = .none ∧ σ.H = H' ∧ H'.length = k
  | _ => False
noncomputable def celCl (cl : List (Str × Addr)) (l : List (Str × D)) : List (Str × D) := l.filter fun p => (cl.lookup p.1).isSome
theorem clo_call (ok : G.Ok) {f c' : Addr} {oc : Obj} {vs : Array Value} {t : Tok} {name qual : Str} {params : Arguments} {body : List Stmt} {scope : Scope} {doc pm ctv : Value} {cl cs : List (Str × Addr)} {ds : List D} {d : D} {H' : List Cont}
    (hf : (f, fnMade name qual params body scope cl doc pm c' ctv) ∈ G.fx) (hc : (c', oc) ∈ G.fx) (hcd : oc.data = .fields vs) (hcv : vs[1]? = some (.str qual t)) (hcs : fi.cells = some cs) (hcl : ∀ p ∈ cl, cs.lookup p.1 = some p.2) (hnd : (cl.map (·.1)).Nodup)
    (bs : List (Str × D)) (hbind : ∀ (s : Shared) (X : List Addr) (c : Option (List Addr)) (vals : List Value), RepsC X c s.heap ds vals →
      ∃ binds, BindsTo s (fnX name qual params body scope cl .none .none doc pm none (.ref c') ctv) ⟨vals, []⟩ binds ∧ binds.map (·.1) = bs.map (·.1) ∧ RepsC X c s.heap (bs.map (·.2)) (binds.map (·.2)))
    (hkind : (bs.all fun p => scope.names.lookup p.1 == some .local) = true) (hnc : ∀ x ∈ scope.names, x.2 ≠ .cell) 
    (hbody : SE G n ⟨scope, some (.ref c', qual ++ ".<locals>."), false, some cl⟩ ⟨bs.reverse, celCl cl σ.cel, σ.H⟩ body (ExitC σ.H.length d H'))
    (hco : scope.isCoroutine = false := by rfl) (hgen : scope.isGenerator = false := by rfl) (hk : scope.kind = .function := by rfl) : CallOk G (n + 1) fi σ (.ref f) ds [] [] d { σ with H := H' } := .mk fun A env α s vals kvals hA hE F ra rk => by
  simp only [RepsC] at rk; subst rk
  have hcells : env.cells = cs := hE.cs _ hcs
  obtain ⟨binds, hB, hn, hr⟩ := hbind s _ _ vals ra
  have hobj := (F.gs.fx _ hf).2
  have hcode : s.heap.CodeRec (.ref c') qual := ⟨c', oc, vs, t, rfl, (F.gs.fx _ hc).2, hcd, hcv⟩
  show wpAny _ A (call (.ref f) vals []) _ _ s
  refine wpAny_call (codeAny_call_function (fd := fnX name qual params body scope cl .none .none doc pm none (.ref c') ctv) hA.room hobj rfl hco hgen rfl hcode (hB _ _ _ _ ?_))
  refine wpAny_newFunctionEnv hnc (fun x hx => ?_) (fun h₁ hns hsb => ?_) hk
  · have : x.1 ∈ bs.map (·.1) := by rw [← hn]; exact List.mem_map_of_mem hx
    obtain ⟨p, hp, e⟩ := List.mem_map.mp this
    have := List.all_eq_true.mp hkind p hp
    rw [e] at this
    simpa using this
  have hLf : s.heap.get? s.heap.objs.size = none := fresh_size (Nat.le_refl _)
  have keep : ∀ b o, s.heap.get? b = some o → h₁.get? b = some o := fun b o e => hsb.extBut b o (Nat.ne_of_lt (Heap.lt_size e)) (Heap.get?_push_of_some _ e)
  refine ⟨(ok.T.nolimit.keeps F.gs.base).keeps keep, codeAny_func ?_⟩
  generalize hL : s.heap.objs.size = L at hns hsb hLf ⊢
  have hEi : EnvOk (newEnv scope L mainGlobals cl (qual ++ ".<locals>.") (some f) (.ref c') none builtinsNs) ⟨scope, some (.ref c', qual ++ ".<locals>."), false, some cl⟩ :=
    ⟨rfl, rfl, rfl, hk, fun c q e => by cases e; exact ⟨rfl, rfl⟩, (fun h => nomatch h), fun c e => by cases e; rfl⟩
  have hsub : ∀ a ∈ cl.map (·.2), a ∈ env.cells.map (·.2) := fun a ha => by
    obtain ⟨p, hp, rfl⟩ := List.mem_map.mp ha
    exact mem_cells (by rw [hcells]; exact hcl p hp)
  have hndA : (cl.map (·.2)).Nodup := by
    have pw : env.cells.Pairwise fun x y => x.2 ≠ y.2 := List.pairwise_map.mp F.nd
    have hm : ∀ p ∈ cl, env.cells.lookup p.1 = some p.2 := fun p hp => by rw [hcells]; exact hcl p hp
    clear hf hbind hbody hE hEi hB hobj hsub hcl hns
    induction cl with
    | nil => simp
    | cons p r ih =>
      simp only [List.map_cons, List.nodup_cons] at hnd ⊢
      refine ⟨fun q => ?_, ih hnd.2 fun p hp => hm p (.tail _ hp)⟩
      obtain ⟨p', hp', e⟩ := List.mem_map.mp q
      have h1 := hm p (.head _)
      have h2 := hm p' (.tail _ hp')
      have := name_of_addr pw (mem_of_lookup (e ▸ h2)) (mem_of_lookup h1)
      exact hnd.1 (this ▸ List.mem_map_of_mem hp')
  obtain ⟨n1, n2, n3, n4⟩ := F.freshNot hLf
  have fk : FrzKeep s.heap h₁ := fun a o _ e => keep a o e
  have lift : ∀ {d : D} {v : Value}, Rep env α s.heap d v → RepC (L :: cl.map (·.2)) (some α) h₁ d v := fun {d v} r => by
    refine stillα fk (fun _ _ a o _ _ _ e => keep a o e) (r.liftY fun a o ho hx q => ?_)
    rcases List.mem_cons.mp q with rfl | q
    · rw [hLf] at ho; cases ho
    · exact hx (.tail _ (hsub a q))
  have Fi : Fm G (newEnv scope L mainGlobals cl (qual ++ ".<locals>.") (some f) (.ref c') none builtinsNs) ⟨bs.reverse, celCl cl σ.cel, σ.H⟩ α { s with heap := h₁, toks := s.toks + binds.length } := by
    refine ⟨F.gs.all keep, F.labs.chg (ch := []) (fun b o _ e => keep b o e) (fun _ h => nomatch h) fk, ⟨_, hns, fun x d e => ?_⟩, fun x d e => ?_, fun c hc => ?_, hndA, n1, fun c hc => F.ca c (hsub c hc), n3, fun c hc => F.cg c (hsub c hc)⟩
    · obtain ⟨v, h1, h2⟩ := lookup_pair (l1 := bs.reverse) (l2 := binds.reverse) (by rw [List.map_reverse, List.map_reverse, hn]) (by rw [List.map_reverse, List.map_reverse]; exact hr.reverse) x d e
      exact ⟨v, h1, lift h2⟩
    · obtain ⟨h1, h2⟩ := lookup_filter (fun x => (cl.lookup x).isSome) σ.cel x d e
      obtain ⟨c₁, h3⟩ := Option.isSome_iff_exists.mp h1
      obtain ⟨c, v, h4, ⟨o, h5, h5'⟩, h6⟩ := F.cel x d h2
      have := hcl _ (mem_of_lookup h3)
      rw [hcells, this] at h4; cases h4
      exact ⟨c₁, v, h3, ⟨o, keep _ _ h5, h5'⟩, lift h6⟩
    · obtain ⟨v, o, h2, h2'⟩ := F.cells c (hsub c hc)
      exact ⟨v, o, keep _ _ h2, h2'⟩
  refine wpAny_mono (hbody.run _ _ α _ hA.deeper hEi Fi) (fun fl s₂ x => ?_) fun _ _ x => x.elim
  obtain ⟨o, β, q, sp, hb, F2, fo⟩ := x
  have hown : ownC (newEnv scope L mainGlobals cl (qual ++ ".<locals>.") (some f) (.ref c') none builtinsNs) = [] := by
    unfold ownC
    rw [List.map_eq_nil_iff, List.filter_eq_nil_iff]
    intro p hp z
    have z' : scope.names.lookup p.1 = some .cell := beq_iff_eq.mp (show (scope.names.lookup p.1 == some NameKind.cell) = true from z)
    exact hnc _ (mem_of_lookup z') rfl
  have spA : Sp G α s s₂ := by
    obtain ⟨⟨h₂, t₂, dr, rfl⟩, kp, lv⟩ := sp
    refine ⟨⟨h₂, t₂, _, rfl⟩, fun b ob hb' ht e => kp b ob (fun z => ?_) ht (keep b ob e), fun b e => lv b (by obtain ⟨ob, h1⟩ := Option.isSome_iff_exists.mp e; show (h₁.get? b).isSome = true; rw [keep b ob h1]; rfl)⟩
    unfold foot at z
    rw [hown] at z
    rcases List.mem_cons.mp z with z | z
    · rw [show b = L from z, hLf] at e; cases e
    · exact hb' (by simpa using z)
  have lenα : α.length = σ.H.length := F.labs.len
  have fin : ∀ {σ' : AS}, σ'.H = H' → H'.length = σ.H.length → Fm G (newEnv scope L mainGlobals cl (qual ++ ".<locals>.") (some f) (.ref c') none builtinsNs) σ' (α ++ β) s₂ → β = [] ∧ Fm G env { σ with H := H' } (α ++ []) s₂ := fun {σ'} h1 h2 F2 => by
    have hβ : β = [] := none_of_len F2.labs (by rw [h1, h2, lenα])
    subst hβ
    exact ⟨rfl, F.step (H' := H') F2.gs spA (fun _ h => nomatch h) (h1 ▸ F2.labs)⟩
  cases o with
  | next σ' =>
    obtain ⟨rfl, h1, h2⟩ := q
    cases fo
    obtain ⟨rfl, F3⟩ := fin h1 h2 F2
    exact ⟨[], spA, (fun _ h => nomatch h), F3, by simp only [RepC]⟩
  | ret d₀ σ' =>
    obtain ⟨rfl, hfl, h1, h2⟩ := q
    obtain ⟨v, rfl, r⟩ := fo
    obtain ⟨rfl, F3⟩ := fin h1 h2 F2
    exact ⟨[], spA, (fun _ h => nomatch h), F3, (r.dn hfl).flatX.up⟩
  | brk σ' => exact q.elim
  | cont σ' => exact q.elim
end
end
section
section
variable {τ υ : Type} {G : Gnd} {n m : Nat} {fi : Fi} {env : Env} {A : Around} {α β : List Addr} {s s₀ s₁ s₂ s' : Shared} {σ σ' σ₁ σ₂ σ₃ σ₄ : AS}
noncomputable abbrev hdrObj (C dx : Addr) : Obj := { cls := .ref C, dict := some dx, data := .plain }
theorem inst_at {x C dx : Addr} {od : Obj} {h : Heap} (h1 : h.get? x = some (hdrObj C dx)) (h2 : h.get? dx = some od) : InstAt h x (hdrObj C dx) C (some od) := ⟨h1, rfl, rfl, h2⟩
/-- self._headers of a table that is only read -/
theorem pe_attrH {x attr : Str} {xp pos : Pos} {C : Addr} {ds : List D} {at0 : Option Value} (ok : G.Ok) (h : PE G n fi σ (.Name x xp) (.hdr C ds) σ₁) (ha : attr = "_headers") (hg : plainGet G.K C "_headers" = true) (hh : hasDictIn G.K C = true) (hf : findIn G.K (.ref C) "_headers" = some at0) (hn : noGet G.K at0 = true) :
    PE G n fi σ (.Attribute (.Name x xp) attr pos) (.lst ds) σ₁ := .mk fun A env α s hA hE F => by
  subst ha
  refine Attribute_name (seq2 (h.run A env α s hA hE F) fun v β s₁ sp hb F1 r1 => ?_)
  simp only [RepC] at r1
  obtain ⟨x, dx, l, vs, α', k, hs, t, rfl, hc, n1, n2, n3, e1, e2, e3, hr⟩ := r1
  cases hc
  refine get_value (ok.X.keeps F1.gs.base) (inst_at e1 e2) (plainGet_of hg).1 (findObj_own hh hf hn (v := .ref l) ?_) rfl ?_
  · rw [lookIn_dict]; rfl
  · refine Post.up sp hb (Post.tok F1 ?_)
    simp only [RepC]
    exact ⟨l, vs, _, rfl, rfl, n3.1, n3.2, e3, hr⟩
/-- a method of a table that is only read -/
theorem gm_hdr {C f : Addr} {ds : List D} {name : Str} (ok : G.Ok) (hg : plainGet G.K C name = true) (hf : findIn G.K (.ref C) name = some (some (.ref f))) (ht : typeIn G.K (.ref f) = some (.type "function"))
    (hsh : ∀ hs t l k, shadowIn (some (dictOf [⟨hs, .str "_headers" t, .ref l⟩] k)) name = some false) : GM G n fi σ (.hdr C ds) name (.ref f) [.hdr C ds] := .mk fun A env α s v pl Q hA hE F r h => by
  have r0 := r
  simp only [RepC] at r
  obtain ⟨x, dx, l, vs, α', k, hs, t, rfl, hc, n1, n2, n3, e1, e2, e3, hr⟩ := r
  cases hc
  exact method_fn (ok.X.keeps F.gs.base) (inst_at e1 e2) (plainGet_of hg).1 (plainGet_of hg).2 hf ht (hsh _ _ _ _) (h _ s.toks (by simp only [RepsC]; exact ⟨_, [], rfl, r0, rfl⟩))
/-- self._headers of a labelled object -/
theorem pe_attrI {x attr : Str} {xp pos : Pos} {C : Addr} {i j l : Nat} {at0 : Option Value} (ok : G.Ok) (h : PE G n fi σ (.Name x xp) (.ref i) σ₁) (hi : σ₁.H[i]? = some (.inst C j)) (hj : σ₁.H[j]? = some (.dict [("_headers", .ref l)])) (ha : attr = "_headers") (hg : plainGet G.K C "_headers" = true) (hh : hasDictIn G.K C = true)
    (hf : findIn G.K (.ref C) "_headers" = some at0) (hn : noGet G.K at0 = true) : PE G n fi σ (.Attribute (.Name x xp) attr pos) (.ref l) σ₁ := .mk fun A env α s hA hE F => by
  subst ha
  refine Attribute_name (seq2 (h.run A env α s hA hE F) fun v β s₁ sp hb F1 r1 => ?_)
  simp only [RepC] at r1
  obtain ⟨a, α', hc, h1, rfl⟩ := r1
  cases hc
  obtain ⟨d, h2, h3⟩ := F1.labs.ok i a _ h1 hi
  obtain ⟨des, k, h4, h5, _, h6⟩ := F1.labs.ok j d _ h2 hj
  obtain ⟨hs, t, v, h7, _, h8⟩ := h6 0 _ _ rfl
  have hdes : des = [⟨hs, .str "_headers" t, v⟩] := one_of h5 h7
  subst hdes
  simp only [RepC] at h8
  obtain ⟨la, α', hc, h9, rfl⟩ := h8
  cases hc
  refine get_value (ok.X.keeps F1.gs.base) (inst_at h3 h4) (plainGet_of hg).1 (findObj_own hh hf hn (v := .ref la) ?_) rfl ?_
  · rw [lookIn_dict]; rfl
  · refine Post.up sp hb (Post.tok F1 ?_)
    simp only [RepC]
    exact ⟨la, _, rfl, h9, rfl⟩
theorem gm_inst {C f : Addr} {i j l : Nat} {name : Str} (ok : G.Ok) (hi : σ.H[i]? = some (.inst C j)) (hj : σ.H[j]? = some (.dict [("_headers", .ref l)])) (hg : plainGet G.K C name = true) (hf : findIn G.K (.ref C) name = some (some (.ref f))) (ht : typeIn G.K (.ref f) = some (.type "function"))
    (hsh : ∀ hs t l k, shadowIn (some (dictOf [⟨hs, .str "_headers" t, .ref l⟩] k)) name = some false) : GM G n fi σ (.ref i) name (.ref f) [.ref i] := .mk fun A env α s v pl Q hA hE F r h => by
  have r0 := r
  simp only [RepC] at r
  obtain ⟨a, α', hc, h1, rfl⟩ := r
  cases hc
  obtain ⟨d, h2, h3⟩ := F.labs.ok i a _ h1 hi
  obtain ⟨des, k, h4, h5, _, h6⟩ := F.labs.ok j d _ h2 hj
  obtain ⟨hs, t, v, h7, _, h8⟩ := h6 0 _ _ rfl
  have hdes : des = [⟨hs, .str "_headers" t, v⟩] := one_of h5 h7
  subst hdes
  simp only [RepC] at h8
  obtain ⟨la, α', hc, h9, rfl⟩ := h8
  exact method_fn (ok.X.keeps F.gs.base) (inst_at h3 h4) (plainGet_of hg).1 (plainGet_of hg).2 hf ht (hsh _ _ _ _) (h _ s.toks (by simp only [RepsC]; exact ⟨_, [], rfl, r0, rfl⟩))
end
end
section
noncomputable def nameCode : Array Nat := #[14, 10, 4, 1, 1, 22, 0, 31, 16, 127, 0, 13, 7, 22, 0, 31, 16, 127, 0, 1]
noncomputable def valCode : Array Nat := #[14, 14, 4, 1, 1, 9, 4294966783, 0, 0, 2147483648, 0, 0, 0, 0, 0, 13, 11, 9, 4294966783, 0, 0, 2147483648, 0, 0, 0, 0, 0, 1]
noncomputable def okChar (c : Nat) : Prop := 32 ≤ c ∧ c < 127
theorem inSet_name {c : Nat} (h : okChar c) (seen : Sre.Seen) : ∃ seen', Sre.inSet nameCode c nameCode.size 5 true seen = .ok (false, seen') := by
  obtain ⟨h1, h2⟩ := h
  refine ⟨((seen.add 22).add 16).add 0, ?_⟩
  show Sre.inSet nameCode c (19 + 1) 5 true seen = _
  have e1 : (decide (0 ≤ c) && decide (c ≤ 31)) = false := by simp; omega
  have e2 : (c == 127) = false := by simp; omega
  have s3 : ∀ sn, Sre.inSet nameCode c (17 + 1) 10 true sn = .ok (false, sn.add 0) := fun sn => rfl
  have s2 : ∀ sn, Sre.inSet nameCode c (18 + 1) 8 true sn = (if c == 127 then .ok (true, sn.add 16) else Sre.inSet nameCode c 18 10 true (sn.add 16)) := fun sn => rfl
  have s1 : ∀ sn, Sre.inSet nameCode c (19 + 1) 5 true sn = (if (decide (0 ≤ c) && decide (c ≤ 31)) = true then .ok (true, sn.add 22) else Sre.inSet nameCode c 19 8 true (sn.add 22)) := fun sn => rfl
  rw [s1, e1]
  simp only [Bool.false_eq_true, if_false]
  rw [show (19 : Nat) = 18 + 1 from rfl, s2, e2]
  simp only [Bool.false_eq_true, if_false]
  exact s3 _
theorem charset_ok : ∀ c, c < 127 → 32 ≤ c → (decide (c < 256) && (valCode.getD (5 + (1 + c / 32)) 0).testBit (c % 32)) = false := by decide +kernel
theorem inSet_val {c : Nat} (h : okChar c) (seen : Sre.Seen) : ∃ seen', Sre.inSet valCode c valCode.size 5 true seen = .ok (false, seen') := by
  obtain ⟨h1, h2⟩ := h
  refine ⟨(seen.add 9).add 0, ?_⟩
  have s1 : ∀ sn, Sre.inSet valCode c (27 + 1) 5 true sn = (if (decide (c < 256) && (valCode.getD (5 + (1 + c / 32)) 0).testBit (c % 32)) = true then .ok (true, sn.add 9) else Sre.inSet valCode c 27 14 true (sn.add 9)) := fun sn => rfl
  have s2 : ∀ sn, Sre.inSet valCode c (26 + 1) 14 true sn = .ok (false, sn.add 0) := fun sn => rfl
  show Sre.inSet valCode c (27 + 1) 5 true seen = _
  rw [s1, charset_ok c h2 h1]
  simp only [Bool.false_eq_true, if_false]
  exact s2 _
theorem admitted_none (m : Sre.M) (hc : ∀ c, okChar c → ∀ seen, ∃ seen', Sre.inSet m.code c m.code.size 5 true seen = .ok (false, seen')) (ht : ∀ i, i < m.lim → okChar (m.text.getD i 0)) : ∀ fuel s seen, ∃ seen', Sre.M.admitted m fuel s seen = .ok (none, seen')
  | 0, s, seen => ⟨seen, rfl⟩
  | fuel + 1, s, seen => by
    rw [Sre.M.admitted]
    by_cases h : s ≥ m.lim
    · exact ⟨seen, by rw [if_pos h]⟩
    · rw [if_neg h]
      obtain ⟨s1, e1⟩ := hc _ (ht s (by omega)) seen
      rw [e1]
      exact admitted_none m hc ht fuel (s + 1) s1
theorem attempt_fails (M : Sre.M) {code : Array Nat} (hM : M.code = code) (hcode : code = nameCode ∨ code = valCode) (ht : ∀ i, i < M.lim → okChar (M.text.getD i 0)) (hf : M.frames = []) (ho : M.outcome = none) (s : Nat) (b : Bool) :
    (M.attemptFrom s b).answer = some false ∧ (M.attemptFrom s b).frames = [] ∧ (M.attemptFrom s b).outcome = none := by
  have hc : ∀ c, okChar c → ∀ seen, ∃ seen', Sre.inSet M.code c M.code.size 5 true seen = .ok (false, seen') := fun c h seen => by
    rw [hM]
    rcases hcode with rfl | rfl
    · exact inSet_name h seen
    · exact inSet_val h seen
  have hs : M.hasFirstSet = true := by
    unfold Sre.M.hasFirstSet
    rw [hM]
    rcases hcode with rfl | rfl <;> decide
  obtain ⟨s1, e1⟩ := admitted_none M hc ht (M.lim + 1 - s) s M.seen
  have e : M.attemptFrom s b = ({ M with seen := s1 } : Sre.M).say false := by
    unfold Sre.M.attemptFrom
    rw [hs, e1]; rfl
  rw [e]
  exact ⟨rfl, hf, ho⟩
theorem search_fails {code : Array Nat} (hcode : code = nameCode ∨ code = valCode) {text : Array Nat} {groups : Nat} (ht : ∀ i, i < text.size → okChar (text.getD i 0)) :
    ((Sre.forSearch code text groups 0 text.size false).runFor 4).outcome = some .failed := by
  have key : ∀ M : Sre.M, M.answer = some false ∧ M.frames = [] ∧ M.outcome = none → (M.runFor 4).outcome = some .failed := fun M ⟨h1, h2, h3⟩ => by
    have e : M.step = { M with outcome := some .failed } := by
      unfold Sre.M.step
      rw [h3, h1, h2]; rfl
    show (if M.outcome.isSome then M else Sre.M.runFor 3 M.step).outcome = _
    rw [h3, e]; rfl
  refine key _ ?_
  unfold Sre.forSearch
  dsimp only
  split
  · exact ⟨rfl, rfl, rfl⟩
  · exact attempt_fails _ (code := code) rfl hcode ht rfl rfl _ _
end
section
theorem plainAttrs_pattern : PlainAttrs "re.Pattern" :=
  ⟨⟨"object.__getattribute__", by rw [typeLookup_type, builtinLookup_eq_fast]; kernel_rfl, by decide +kernel⟩, by rw [typeLookup_type, builtinLookup_eq_fast]; kernel_rfl⟩
theorem owner_pattern : Manifest.owners.lookup (String.ofList ['n', 'r', 'e', 't', 't', 'a', 'P', '.', 'e', 'r'].reverse) = some Manifest.sig_re_Pattern := by kernel_rfl
theorem slot_search : Slot "re.Pattern" "search" "re.Pattern.search" :=
  .of (owner := "re.Pattern") (n := "search") (by rw [typeLookup_type, builtinLookup_eq_fast]; kernel_rfl) (by decide +kernel) (by decide +kernel) (by decide +kernel)
    (by first | exact .inl (by decide +kernel) | exact .inr (by decide +kernel)) (by rw [isSubtype_type]; kernel_rfl)
theorem entry_search : entryFor table "re.Pattern.search" = some Builtin.«re.Pattern.search» := entryFor_of_tree (by kernel_rfl)
theorem args_search (a b : Value) : argsOk "re.Pattern.search" ⟨[a, b], []⟩ := by
  unfold argsOk; rw [signature?_of (id := "re.Pattern.search") (n := ['h', 'c', 'r', 'a', 'e', 's']) (o := ['n', 'r', 'e', 't', 't', 'a', 'P', '.', 'e', 'r']) (by kernel_rfl) owner_pattern]; kernel_rfl
end
section
open Builtin.Re
theorem reNamed_one (x : Value) : reNamed "re.Pattern.search" "search" ["string", "pos", "endpos"] 1 [x] [] = pure [some x, none, none] := by rfl
section
variable {prog : Program} {w : World} {A : Around} {E : Value → Shared → Prop} {s : Shared}
theorem wp_drive {m : Sre.M} {Q : Sre.M → Shared → Prop} (h : (m.runFor 4).outcome.isSome = true) (q : Q (m.runFor 4) s) : wpAny (model prog w) A (reDrive (2 ^ 64) m) Q E s := by
  show wpAny _ A (reDrive (18446744073709551615 + 1) m) Q E s
  unfold reDrive
  show wpAny _ A (if (m.runFor reTurnSteps).outcome.isSome = true then _ else _) Q E s
  rw [show reTurnSteps = 4 from rfl, if_pos h]
  exact wpAny_pure q
theorem wp_rules {l : List Nat} {seen : Sre.Seen} {Q : PUnit → Shared → Prop} (q : Q ⟨⟩ s) : wpAny (model prog w) A (forIn l PUnit.unit fun i _ => if seen.has i = true then (do rule (Sre.names.getD i ""); pure (ForInStep.yield PUnit.unit)) else (pure (ForInStep.yield PUnit.unit) : Sem (ForInStep PUnit))) Q E s := by
  induction l with
  | nil => exact wpAny_pure q
  | cons i r ih =>
    rw [List.forIn_cons]
    refine wpAny_bind ?_
    split
    · exact wpAny_bind (wpAny_rule (wpAny_pure ih))
    · exact wpAny_pure ih
theorem wp_runToEnd {m : Sre.M} {Q : Option Sre.M → Shared → Prop} (h : (m.runFor 4).outcome = some .failed) (q : Q none s) : wpAny (model prog w) A (reRunToEnd m) Q E s := by
  unfold reRunToEnd
  refine wpAny_bind (wp_drive (by rw [h]; rfl) ?_)
  refine wpAny_bind (wp_rules ?_)
  rw [h]
  exact wpAny_pure q
theorem call_search {p tc : Addr} {op oc : Obj} {fs items : Array Value} {k : Nat} {x : Str} {t : Tok} {code : Array Nat} {Q : Value → Shared → Prop} (hp : s.heap.get? p = some op) (hpc : op.cls = .type "re.Pattern") (hpd : op.data = .fields fs) (h5 : fs.getD 5 .none = .ref tc) (h6 : reRawNat (fs.getD 6 .none) = 0)
    (hc : s.heap.get? tc = some oc) (hcd : oc.data = .seq items k) (hcode : (items.map reRawOf).map (·.toNat) = code) (hcc : code = nameCode ∨ code = valCode) (ht : ∀ i, i < x.cps.size → okChar (x.cps.getD i 0)) (hx : x.cps.size ≤ 1000000) (h : Q .none s) :
    wpAny (model prog w) A (call (.builtin "re.Pattern.search") [.ref p, .str x t]) Q E s := by
  refine wpAny_call_entry slot_search ⟨_, hp, hpc⟩ entry_search ?_ (args_search _ _)
  show wpAny _ _ (reTarget "re.Pattern.search" "search" ⟨[.ref p, .str x t], []⟩ >>= fun t => reAnswer t (Sre.forSearch t.code t.text t.groups t.pos t.lim false)) _ _ s
  have key : ∀ A' : Around, wpAny (model prog w) A' (reTarget "re.Pattern.search" "search" ⟨[.ref p, .str x t], []⟩) (fun tg s' => s' = s ∧ tg.code = code ∧ tg.text = x.cps ∧ tg.pos = 0 ∧ tg.lim = x.cps.size) (fun _ _ => False) s := fun A' => by
    show wpAny _ A' (reNamed "re.Pattern.search" "search" ["string", "pos", "endpos"] 1 [.str x t] [] >>= _) _ _ s
    rw [reNamed_one]
    refine wpAny_bind (wpAny_pure ?_)
    refine wpAny_bind (wpAny_pure ?_)
    refine wpAny_bind (wpAny_pure ?_)
    refine wpAny_bind (wpAny_fieldsOf hp hpd ?_)
    refine wpAny_bind (m := reTextOf (.str x t)) (wpAny_of_eq (a := (x.cps, 0)) rfl ?_)
    dsimp only
    rw [h6, h5]
    rw [if_neg (by decide), if_neg (by decide)]
    refine wpAny_bind (m := reNoCollectionInside (.str x t) 0) (wpAny_of_eq (a := ()) rfl ?_)
    refine wpAny_bind ?_
    unfold reRawItems
    refine wpAny_bind (wpAny_seqItems hc hcd ?_)
    refine wpAny_pure (wpAny_pure ⟨rfl, hcode, rfl, Nat.min_eq_left (Nat.zero_le _), ?_⟩)
    exact Nat.min_eq_right (Nat.le_trans hx (by decide))
  refine wpAny_bind (wpAny_mono (key _) (fun tg s' ⟨e1, e2, e3, e4, e5⟩ => ?_) fun _ _ x => x.elim)
  subst e1
  unfold reAnswer
  rw [e2, e3, e4, e5]
  refine wpAny_bind (wp_runToEnd (search_fails hcc ht) ?_)
  exact wpAny_pure ⟨_, rfl, h⟩
end
end
section
section
variable {G : Gnd} {n m : Nat} {fi : Fi} {env : Env} {A : Around} {α β : List Addr} {s : Shared} {σ σ' σ₁ σ₂ σ₃ σ₄ : AS} {a b : Str} {k : Int}
theorem o_gtS : O2 G n fi σ (compareOp .Gt) (.str a) (.str b) (.bool (decide (b.cps.toList < a.cps.toList))) σ := .mk fun A env α s u v _ _ F r1 r2 => by
  simp only [RepC] at r1 r2; obtain ⟨t, rfl⟩ := r1; obtain ⟨t', rfl⟩ := r2
  exact PySem.P.gt_str (Post.here F rbool)
theorem o_eqS : O2 G n fi σ (compareOp .Eq) (.str a) (.str b) (.bool (a == b)) σ := .mk fun A env α s u v _ _ F r1 r2 => by
  simp only [RepC] at r1 r2; obtain ⟨t, rfl⟩ := r1; obtain ⟨t', rfl⟩ := r2
  exact PyProof.Rows.eq_str (Post.here F rbool)
theorem c_int (h : PySem.intText? a = some k) (hl : a.length ≤ 640) : CallOk G n fi σ (.type "int") [.str a] [] [] (.int k) σ := .mk fun A env α s vals kvals hA hE F ra rk => by
  simp only [RepsC, RepC] at ra rk; obtain ⟨_, _, rfl, ⟨t, rfl⟩, rfl⟩ := ra; subst rk
  exact PySem.W.KIN.call_text h hl (Post.tok F rint)
theorem c_search {p tc : Addr} {oc' : Value} {od : Option Addr} {osl : Array (Option Value)} {fs items : Array Value} {cc : Value} {cd : Option Addr} {csl : Array (Option Value)} {kk : Nat} {code : Array Nat} (ok : G.Ok) (hp : G.K.lookup p = some ⟨.type "re.Pattern", od, .fields fs, osl⟩) (h5 : fs.getD 5 .none = .ref tc) (h6 : Builtin.Re.reRawNat (fs.getD 6 .none) = 0)
    (hc : G.K.lookup tc = some ⟨cc, cd, .seq items kk, csl⟩) (hcode : (items.map Builtin.Re.reRawOf).map (·.toNat) = code) (hcc : code = nameCode ∨ code = valCode) (ht : ∀ i, i < a.cps.size → okChar (a.cps.getD i 0)) (hx : a.cps.size ≤ 1000000) :
    CallOk G n fi σ (.builtin "re.Pattern.search") [.val (.ref p), .str a] [] [] .none σ := .mk fun A env α s vals kvals hA hE F ra rk => by
  simp only [RepsC, RepC] at ra rk; obtain ⟨_, _, rfl, rfl, _, _, rfl, ⟨t, rfl⟩, rfl⟩ := ra; subst rk
  have X := ok.X.keeps F.gs.base
  exact call_search (X _ _ hp) rfl rfl h5 h6 (X _ _ hc) rfl hcode hcc ht hx (Post.here F rnone)
theorem gm_pattern {p : Addr} {od : Option Addr} {osl : Array (Option Value)} {fs : Array Value} (ok : G.Ok) (hp : G.K.lookup p = some ⟨.type "re.Pattern", none, .fields fs, osl⟩) : GM G n fi σ (.val (.ref p)) "search" (.builtin "re.Pattern.search") [.val (.ref p)] := .mk fun A env α s v pl Q hA hE F r h =>
  gm_blt (fi := fi) (n := n) (fun α s v F r => by
    simp only [RepC] at r; subst r
    have X := ok.X.keeps F.gs.base
    exact ⟨⟨_, X _ _ hp, rfl⟩, fun b e => by cases e; exact ⟨_, X _ _ hp, rfl⟩⟩) plainAttrs_pattern slot_search (by show builtinType _ = _; rw [builtinType_eq_fast]; kernel_rfl) A α s v pl Q hA hE F r h
end
end
section
section
variable {G : Gnd} {n m : Nat} {fi : Fi}
/-- two names for a pair -/
theorem tgt_pair {x y : Str} {px py tp : Pos} {k : Nat} {a b : D} (hx : fi.scope.names.lookup x = some .local) (hy : fi.scope.names.lookup y = some .local) (hxy : x ≠ y) : TgtOk G fi (.Tuple [.Name x px, .Name y py] k tp) (.tup [a, b]) [(x, a), (y, b)] := .mk fun A env s v m Q E hh hE hm r kQ => by
  have hk' := hE.kind
  simp only [RepC, RepsC] at r
  obtain ⟨T, vs, rfl, hT, va, _, rfl, ra, vb, _, rfl, rb, rfl⟩ := r
  refine wpAny_assign_Tuple hh hT rfl rfl fun h₁ hx₁ => ?_
  have k₁ : ∀ q o, s.heap.get? q = some o → h₁.get? q = some o := fun q o e => hx₁ q o (Nat.ne_of_lt (Heap.lt_size e)) e
  have hm₁ := hm.keeps k₁
  refine assignInOrder_cons (wpAny_assign_Name (wpAny_storeName_local (hE.of hx) hm₁ (fun h₂ hn₂ hs₂ => ?_) (by rw [hE.sc, hE.kind]; rfl)))
  refine assignInOrder_cons (wpAny_assign_Name (wpAny_storeName_local (hE.of hy) hn₂ (fun h₃ hn₃ hs₃ => ?_) (by rw [hE.sc, hE.kind]; rfl)))
  refine assignInOrder_nil ?_
  have kk : ∀ q o, q ∉ [env.locals] → s.heap.get? q = some o → h₃.get? q = some o := fun q o hb e => hs₃.extBut q o (fun z => hb (by simp [z])) (hs₂.extBut q o (fun z => hb (by simp [z])) (k₁ q o e))
  have nf : ∀ q ∈ [env.locals], ∀ o, s.heap.get? q = some o → ¬ Frz o := fun q hq => by rw [List.mem_singleton.mp hq]; exact ns_notFrz hm
  refine kQ h₃ _ _ hn₃ kk (fun z d hz => ?_) (fun z hz => ?_)
  · simp only [List.lookup_cons] at hz
    split at hz
    · rename_i q
      cases hz
      have e : z = x := beq_iff_eq.mp q
      exact ⟨va, by subst e; simp [hxy], flat_keep kk nf ra⟩
    · split at hz
      · rename_i q
        cases hz
        exact ⟨vb, by simp [beq_iff_eq.mp q], flat_keep kk nf rb⟩
      · simp at hz
  · have n1 : ¬ z = x := fun w => by subst w; simp [List.lookup_cons] at hz
    have n2 : ¬ z = y := fun w => by
      subst w
      rw [List.lookup_cons] at hz
      split at hz
      · cases hz
      · simp [List.lookup_cons] at hz
    simp [n1, n2]
end
end
section
/-! texts: slices, lower, rstrip, replace -/
/-- a text of figures (and what is no blank, no capital, no underscore) -/
noncomputable def Fig (x : Str) : Prop := ∀ c ∈ x.cps.toList, 48 ≤ c ∧ c ≤ 57
theorem fig_occ {x : Str} (h : Fig x) (lo hi limit : Nat) (hh : hi ≤ x.length) : Builtin.Str.occurrences x "_" lo hi limit = [] := by
  rw [StrLaws.occ_eq]
  have key : ∀ (l : List Nat) (f : Nat), (forIn l ((#[] : Array Nat), f) (StrLaws.occBody x "_" hi limit)).run.fst = #[] := by
    intro l
    induction l with
    | nil => intro f; rfl
    | cons i l ih =>
      intro f
      rw [List.forIn_cons]
      unfold StrLaws.occBody
      rw [if_neg]
      · exact ih f
      · rintro ⟨⟨_, h1⟩, h2⟩
        have h3 : i < x.cps.size := by have : ("_" : Str).length = 1 := rfl; have : x.length = x.cps.size := rfl; omega
        unfold Builtin.Str.subAt at h2
        have h2 := eq_of_beq h2
        have h4 : (x.cps.extract i (i + ("_" : Str).length)).toList = [x.cps[i]] := by
          rw [Array.toList_extract]
          show (x.cps.toList.drop i).take (i + 1 - i) = _
          rw [Nat.add_sub_cancel_left, List.drop_eq_getElem_cons (by simpa using h3)]
          simp
        rw [h2] at h4
        have h5 : ("_" : Str).cps.toList = [95] := rfl
        rw [h5] at h4
        have h6 : (95 : Nat) = x.cps[i] := by injection h4
        have := h x.cps[i] (by simp)
        omega
  rw [key]
theorem fig_rstrip {x : Str} (h : Fig x) : Txt.rstrip x = x := by
  have lo : stripLo Unicode.isSpace false x = 0 := rfl
  have hi : stripHi Unicode.isSpace true x 0 = x.length := by
    simp only [stripHi, if_true, List.drop_zero]
    cases hr : x.cps.toList.reverse with
    | nil => rfl
    | cons c l =>
      have hm : c ∈ x.cps.toList := List.mem_reverse.mp (by rw [hr]; exact List.mem_cons_self ..)
      have hc := h c hm
      have hs := PySem.W.KXs.no_space c (by omega) (by omega)
      simp [List.takeWhile_cons, hs]
  have hsame : stripSame Unicode.isSpace false true x = true := by
    unfold stripSame
    rw [lo, hi]
    simp
  unfold Txt.rstrip Txt.stripBy
  rw [if_pos hsame]
section
variable {G : Gnd} {n m : Nat} {fi : Fi} {env : Env} {A : Around} {α β : List Addr} {s : Shared} {σ σ' σ₁ σ₂ σ₃ σ₄ : AS} {x y : Str}
theorem c_rstrip (h : Fig x) (hz : x.length ≤ 1000000) : CallOk G n fi σ (.builtin "str.rstrip") [.str x] [] [] (.str x) σ := .mk fun A env α s vals kvals hA hE F ra rk => by
  simp only [RepsC, RepC] at ra rk; obtain ⟨_, _, rfl, ⟨t, rfl⟩, rfl⟩ := ra; subst rk
  refine SC.rstrip (fun t' k => ?_) (sizeFits hz)
  rw [fig_rstrip h]
  exact Post.tok F rstr
theorem c_replace (h : Fig x) (hz : x.length ≤ 1000000) : CallOk G n fi σ (.builtin "str.replace") [.str x, .str "_", .str ""] [] [] (.str x) σ := .mk fun A env α s vals kvals hA hE F ra rk => by
  simp only [RepsC, RepC] at ra rk; obtain ⟨_, _, rfl, ⟨t, rfl⟩, _, _, rfl, ⟨t2, rfl⟩, _, _, rfl, ⟨t3, rfl⟩, rfl⟩ := ra; subst rk
  have e : ((Builtin.Str.occurrences x "_" 0 x.length (x.length + 1)).isEmpty || (("_" : Str).length == 0 && ("" : Str).length == 0)) = true := by
    rw [fig_occ h _ _ _ (Nat.le_refl _)]; rfl
  refine call_gives PySem.F.slot_str_replace (typeIs_str _ _ _) PySem.F.entry_str_replace (PySem.F.args_str_replace_3 _ _ _)
    (gives_str_replace x "_" "" t t2 t3 fun hc => by rw [e] at hc; cases hc) ?_
  rw [if_pos e]
  exact Post.here F rstr
theorem c_lower (hy : Txt.lower x = y) (hz : Builtin.Str.tooLong (Txt.lower x).length = false) : CallOk G n fi σ (.builtin "str.lower") [.str x] [] [] (.str y) σ := .mk fun A env α s vals kvals hA hE F ra rk => by
  simp only [RepsC, RepC] at ra rk; obtain ⟨_, _, rfl, ⟨t, rfl⟩, rfl⟩ := ra; subst rk
  refine SC.lower hz ?_
  rw [hy]
  exact Post.tok F rstr
theorem c_lenS (hz : x.length ≤ 1000000) : CallOk G n fi σ (.builtin "len") [.str x] [] [] (.int x.length) σ := .mk fun A env α s vals kvals hA hE F ra rk => by
  simp only [RepsC, RepC] at ra rk; obtain ⟨_, _, rfl, ⟨t, rfl⟩, rfl⟩ := ra; subst rk
  exact len_str (by omega) (Post.tok F rint)
theorem pe_sliceS {value : Expr} {lower upper : Option Expr} {p pos : Pos} {lo hi : Option Int} (h1 : PE G n fi σ value (.str x) σ₁) (h2 : PB G n fi σ₁ lower lo σ₂) (h3 : PB G n fi σ₂ upper hi σ₃) (hz : x.length ≤ 1000000)
    (ht : ∀ o r, letTemporaryGo value o r = pure () := by intro _ _; rfl) : PE G n fi σ (.Subscript value (.Slice lower upper none p) pos) (.str (Txt.slice x lo hi)) σ₃ := .mk fun A env α s hA hE hF => by
  refine Subscript_Slice (seq2 (h1.run A env α s hA hE hF) fun v β s₁ sp hb F1 r1 => wpAny_Slice (h2.walk hA hE F1 fun vl γ s₂ sp2 hb2 F2 pl => h3.walk hA hE F2 fun vu δ s₃ sp3 hb3 F3 pu => ?_)) ht
  simp only [RepC] at r1; obtain ⟨t, rfl⟩ := r1
  rw [evalPart_none]
  refine wpAny_pure ?_
  have hk : KeptByPush (fun s' => ∃ h' k, s' = { s₃ with heap := h', toks := k } ∧ ∀ b o, s₃.heap.get? b = some o → h'.get? b = some o) := by
    rintro s' ob k ⟨h', k', rfl, hh⟩
    exact ⟨_, k, rfl, fun b o e => push_all _ b o (hh b o e)⟩
  have fin : ∀ (s' : Shared) (t' : Tok), (∃ h' k, s' = { s₃ with heap := h', toks := k } ∧ ∀ b o, s₃.heap.get? b = some o → h'.get? b = some o) → Post G env α s σ₃ (RD (.str (Txt.slice x lo hi))) (.str (Txt.slice x lo hi) t') s' := by
    rintro s' t' ⟨h', k, rfl, hh⟩
    exact Post.up sp hb (Post.up sp2 hb2 (Post.up sp3 hb3 (Post.all F3 hh rstr)))
  cases pl with
  | none =>
    cases pu with
    | none => exact SBG.sliceItem_nn hk ⟨_, _, rfl, fun _ _ e => e⟩ fin (sizeFits hz)
    | int j u => exact SBG.sliceItem_ns hk ⟨_, _, rfl, fun _ _ e => e⟩ fin (sizeFits hz)
  | int i u =>
    cases pu with
    | none => exact SBG.sliceItem_sn hk ⟨_, _, rfl, fun _ _ e => e⟩ fin (sizeFits hz)
    | int j u => exact SBG.sliceItem_ss hk ⟨_, _, rfl, fun _ _ e => e⟩ fin (sizeFits hz)
end
end
section
/-! sets of ints: what one def makes and drops -/
noncomputable abbrev setC (S : Int → Bool) (n : Nat) : Cont := .obj fun o => o.IntSetOf S n
theorem wp_choose1 {M : Model} {A : Around} {E : Value → Shared → Prop} {s : Shared} {src : Source} {Q : Nat → Shared → Prop} (h : ∀ d, Q 0 { s with drawn := d }) : wpAny M A (choose src 1) Q E s := fun Γ p hΓ => by
  show Sem.wp M Γ (.choose src 1 Sem.pure) _ _ p s
  rw [Sem.wp_choose, Nat.mod_one]
  exact ⟨by decide, h _⟩
theorem noBool_set : typeLookup (.type "set") "__bool__" = pure none := by rw [typeLookup_type, builtinLookup_eq_fast]; kernel_rfl
section
variable {prog : Program} {w : World} {A : Around} {E : Value → Shared → Prop} {s : Shared} {a : Addr}
theorem pop1 {o : Obj} {S : Int → Bool} {k : Int} {Q : Option Value → Shared → Prop} (ho : s.heap.get? a = some o) (hs : o.IntSetOf S 1) (hS : S k = true)
    (h : ∀ t h' dr, Heap.SameBut a s.heap h' → (∃ o', h'.get? a = some o' ∧ o'.IntSetOf (fun _ => false) 0 ∧ o'.data ≠ .plain) → Q (some (.int k t)) { s with heap := h', drawn := dr }) : wpAny (model prog w) A (setPop a) Q E s := by
  obtain ⟨hex, es, ep, t, hd, hel, hmem, hn, hf⟩ := hs.kind prog w
  have hpl : t.place.size = 1 := by
    have : (t.place.size == es.size && decide (t.fill ≤ t.mask)) = true := hf
    simp only [Bool.and_eq_true, beq_iff_eq] at this
    omega
  have hfl : t.fill ≤ t.mask := by
    have : (t.place.size == es.size && decide (t.fill ≤ t.mask)) = true := hf
    simp only [Bool.and_eq_true, decide_eq_true_eq] at this
    exact this.2
  obtain ⟨e, he⟩ : ∃ e, es = #[e] := by
    have h0 : 0 < es.size := by omega
    refine ⟨es[0], ?_⟩
    apply Array.ext
    · simp [hn]
    · intro i h1 h2
      have : i = 0 := by omega
      subst this
      simp
  subst he
  obtain ⟨hash, x⟩ := e
  have hx : ∃ u, x = .int k u := by
    obtain ⟨e', h1, h2⟩ := (hmem k).mp hS
    have : e' = (hash, x) := by simpa using h1
    subst this
    exact Value.isInt_shape h2
  obtain ⟨u, rfl⟩ := hx
  have hpp : t.popPlace = some 0 := by
    unfold SetTable.popPlace
    have : t.place.isEmpty = false := by rw [Array.isEmpty_eq_false_iff]; intro q; rw [q] at hpl; simp at hpl
    rw [this]
    simp only [Bool.false_eq_true, if_false]
    split
    · rename_i q; congr 1; omega
    · rfl
  have fin : ∀ dr, wpAny (model prog w) A (storeSet a (SetTable.eraseAt #[(hash, Value.int k u)] 0) (t.popped 0) >>= fun _ => pure (some (Value.int k u))) Q E { s with drawn := dr } := by
    intro dr
    have e0 : (SetTable.eraseAt #[(hash, Value.int k u)] 0) = #[] := rfl
    rw [e0]
    refine wpAny_bind (wpAny_storeSet_of (s := { s with drawn := dr }) ho hd (wpAny_pure (h u _ dr (Heap.SameBut.update _ _ _) ?_)) (by simp))
    obtain ⟨hc, hdi, hsl⟩ := hex
    refine ⟨_, Heap.get?_update_self _ ho (by rw [putSet_of _ _ hd]; rfl), ?_, by rw [putSet_of _ _ hd]; simp⟩
    rw [putSet_of _ _ hd]
    refine fun prog' w' => ⟨⟨hc, hdi, hsl⟩, #[], ep + 1, _, rfl, (fun e he => by simp at he), (fun k => by simp), rfl, ?_⟩
    show ((t.popped 0).place.size == (#[] : Array (Int × Value)).size && decide ((t.popped 0).fill ≤ (t.popped 0).mask)) = true
    obtain ⟨mask, place, dummies, finger, led, moves, plain⟩ := t
    simp only at hpl
    obtain ⟨j, rfl⟩ : ∃ j, place = #[j] := by
      refine ⟨place[0], ?_⟩
      apply Array.ext
      · simp [hpl]
      · intro i h1 h2
        have : i = 0 := by omega
        subst this
        simp
    have hfl' : 1 + dummies.size ≤ mask := hfl
    simp only [SetTable.popped, SetTable.drop, SetTable.fill, SetTable.eraseAt, SetTable.insertAt]
    simp
    omega
  unfold setPop
  refine wpAny_bind (wpAny_setState_of ho hd hf ?_)
  dsimp only
  rw [hpp]
  dsimp only
  unfold setsByText
  refine wpAny_bind (wpAny_bind (wpAny_bind (wpAny_askSetting (wpAny_pure (wpAny_pure ?_)))))
  generalize Params.followText _ _ = b
  cases b with
  | true =>
    rw [if_pos (by rfl)]
    exact wpAny_bind (wp_choose1 fun d => fin d)
  | false =>
    rw [if_neg (by intro z; have z : (!t.plain && decide (1 > 1)) = true := z; simp at z)]
    refine wpAny_bind ?_
    show wpAny _ _ (if (!t.led && decide (1 > 1)) = true then unsupported "set:maker-not-led" else pure ()) _ _ _
    rw [if_neg (by simp)]
    exact wpAny_pure (wpAny_bind (wpAny_pure (fin s.drawn)))
theorem truthy_set {S : Int → Bool} {n : Nat} {o : Obj} {Q : Bool → Shared → Prop} (ho : s.heap.get? a = some o) (hs : o.IntSetOf S n) (hn : n ≤ 100) (h : Q (decide (n ≠ 0)) { s with toks := s.toks + 1 + 1 }) : wpAny (model prog w) A (truthy (.ref a)) Q E s := by
  obtain ⟨hex, es, ep, t, hd, hel, hmem, hz, hf⟩ := hs.kind prog w
  have hT : s.TypeIs (.ref a) "set" := ⟨o, ho, hex.1⟩
  have hne : ((es.size : Int) != 0) = decide (n ≠ 0) := by rw [hz]; cases n <;> simp <;> omega
  have key : wpAny (model prog w) A (runValue (.builtin "len" ⟨[.ref a], []⟩)) (fun r s' => r = .int es.size (s.toks + 1) ∧ Q (decide (n ≠ 0)) s') E s := by
    refine wpAny_runValue (codeAny_builtin entry_len ?_)
    rw [Around.under_plainId plain_len _]
    exact wpAny_mono (wpAny_len_body_set (Q := fun r s' => r = .int es.size (s.toks + 1) ∧ Q (decide (n ≠ 0)) s') ho hex hd hf (by omega) ⟨rfl, h⟩)
      (fun fin s' h' => by obtain ⟨r, rfl, hq⟩ := h'; exact hq) fun _ _ e => e
  unfold truthy
  first
    | refine wpAny_bind (wpAny_callSpecial?_none (name := Str.ofString "__bool__") hT noBool_set ?_)
    | refine wpAny_bind (wpAny_pure (wpAny_bind (wpAny_callSpecial?_none (name := Str.ofString "__bool__") hT noBool_set ?_)))
  first
    | refine wpAny_bind (wpAny_specialOf (name := Str.ofString "__len__") hT F.slot_set_len.lookup ?_)
    | refine wpAny_bind (wpAny_pure (wpAny_bind (wpAny_specialOf (name := Str.ofString "__len__") hT F.slot_set_len.lookup ?_)))
  first
    | exact wpAny_bind (wpAny_mono key (fun r s' h' => by obtain ⟨rfl, hq⟩ := h'; exact wpAny_pure (hne ▸ hq)) fun _ _ e => e)
    | exact wpAny_bind (wpAny_pure (wpAny_bind (wpAny_mono key (fun r s' h' => by obtain ⟨rfl, hq⟩ := h'; exact wpAny_pure (hne ▸ hq)) fun _ _ e => e)))
end
section
variable {τ υ : Type} {G : Gnd} {n m : Nat} {fi : Fi} {env : Env} {A : Around} {α β : List Addr} {s s₁ s₂ s' : Shared} {σ σ' σ₁ σ₂ σ₃ σ₄ : AS}
/-- a label's content changed -/
theorem Post.mutC {R : List Addr → List Addr → Heap → τ → Prop} {v : τ} {h' : Heap} {t i : Nat} {dr : Drawn} {a : Addr} {c₀ c : Cont} (F : Fm G env σ α s) (hi : σ.H[i]? = some c₀) (ha : α[i]? = some a) (hl : (h'.get? a).isSome) (hs : Heap.SameBut a s.heap h')
    (hc : ContOk α h' a c) (hR : R (xsOf env) α h' v) : Post G env α s { σ with H := σ.H.set i c } R v { s with heap := h', toks := t, drawn := dr } := by
  have ham : a ∈ α := List.mem_of_getElem? ha
  have sp : Sp G α s { s with heap := h', toks := t, drawn := dr } := ⟨⟨h', t, dr, rfl⟩, fun b o hb _ e => hs.extBut b o (fun q => hb (q ▸ ham)) e, fun b e => by
    by_cases q : b = a
    · rw [q]; exact hl
    · obtain ⟨o, ho⟩ := Option.isSome_iff_exists.mp e; show (h'.get? b).isSome = true; rw [hs.extBut b o q ho]; rfl⟩
  have fk := F.labs.frz F.gs sp
  have gs : Gs G h' := F.gs.same (F := [a]) sp.live (fun b o hb e => hs.extBut b o (fun q => hb (by simp [q])) e) fun b hb => by
    rw [List.mem_singleton.mp hb]
    exact ⟨F.labs.g0 a ham, F.labs.tb a ham, fun o e f => by obtain ⟨o', h1, h2⟩ := F.labs.notFrz ham; rw [e] at h1; cases h1; exact h2 f⟩
  have lb : Labs G (α ++ []) h' (σ.H.set i c) := by
    rw [List.append_nil]
    refine ⟨by rw [List.length_set]; exact F.labs.len, F.labs.nd, fun j b c' h1 h2 => ?_, F.labs.g0, F.labs.tb⟩
    by_cases q : j = i
    · subst q
      rw [ha] at h1; cases h1
      rw [List.getElem?_set_self (List.getElem?_eq_some_iff.mp hi).1] at h2; cases h2
      exact hc
    · rw [List.getElem?_set_ne (Ne.symm q)] at h2
      have := (F.labs.ok j b c' h1 h2).still (β := []) fk (fun _ h => nomatch h) (fun o e => hs.extBut b o (fun z => q ((List.getElem?_inj (List.getElem?_eq_some_iff.mp h1).1 F.labs.nd).mp (h1.trans (z ▸ ha.symm)))) e)
      rwa [List.append_nil] at this
  exact ⟨[], sp, (fun _ h => nomatch h), F.step gs sp (fun _ h => nomatch h) lb, by rw [List.append_nil]; exact hR⟩
theorem Fm.labO {i : Nat} {P : Obj → Prop} {v : Value} (F : Fm G env σ α s) (hi : σ.H[i]? = some (.obj P)) (r : Rep env α s.heap (.ref i) v) : ∃ a o, v = .ref a ∧ α[i]? = some a ∧ s.heap.get? a = some o ∧ ¬ Frz o ∧ P o := by
  simp only [RepC] at r
  obtain ⟨a, α', e, h1, rfl⟩ := r
  cases e
  obtain ⟨o, h2, h3, h4⟩ := F.labs.ok i a _ h1 hi
  exact ⟨a, o, rfl, h1, h2, h3, h4⟩
theorem set_notFrz (G : Gnd) {o : Obj} {S : Int → Bool} {n : Nat} (h : o.IntSetOf S n) : ¬ Frz o := fun f => by
  obtain ⟨hex, es, ep, t, hd, _⟩ := h G.prog G.w
  rcases f with ⟨_, _, _, h1⟩ | ⟨fd, h1⟩ | ⟨vs, q, t, h1, _⟩ <;> (rw [hd] at h1; cases h1)
theorem c_set0 : CallOk G n fi σ (.type "set") [] [] [] (.ref σ.H.length) { σ with H := σ.H ++ [setC (fun _ => false) 0] } := .mk fun A env α s vals kvals hA hE F ra rk => by
  simp only [RepsC] at ra rk; subst ra; subst rk
  refine call_set_0 fun led => ?_
  have hi := intSetOf_fresh led
  exact Post.lab F (fun b o e => push_all _ b o e) get_size ⟨_, Heap.get?_push_size _ rfl, set_notFrz G hi, hi⟩
theorem ot_set {i k : Nat} {S : Int → Bool} (hi : σ.H[i]? = some (setC S k)) (hk : k ≤ 100) : OT G n fi σ (.ref i) (decide (k ≠ 0)) := .mk fun A env α s v _ _ F r => by
  obtain ⟨a, o, rfl, ha, ho, hf, hp⟩ := F.labO hi r
  exact truthy_set ho hp hk (Post.tok F rfl)
theorem o_inSet {i k : Nat} {S : Int → Bool} {z : Int} (hi : σ.H[i]? = some (setC S k)) (hk : k ≤ 100) : O2 G n fi σ (compareOp .In) (.int z) (.ref i) (.bool (S z)) σ := .mk fun A env α s u v _ _ F r1 r => by
  obtain ⟨a, o, rfl, ha, ho, hf, hp⟩ := F.labO hi r
  simp only [RepC] at r1; obtain ⟨t, rfl⟩ := r1
  exact wpAny_inSet_of (knd := intKind G.prog G.w) (by simp [intKind, Value.isInt]) rfl ((hp.kind G.prog G.w).setOf ho (by show k < 4096; omega)) (Post.tok F rbool)
theorem gm_set {i k : Nat} {S : Int → Bool} (hi : σ.H[i]? = some (setC S k)) : GM G n fi σ (.ref i) "pop" (.builtin "set.pop") [.ref i] := .mk fun A env α s v pl Q hA hE F r h =>
  gm_blt (fi := fi) (n := n) (fun α s v F r => by
    obtain ⟨a, o, rfl, ha, ho, hf, hp⟩ := F.labO hi r
    obtain ⟨hex, _⟩ := hp G.prog G.w
    exact ⟨⟨_, ho, hex.1⟩, fun b e => by cases e; exact ⟨_, ho, hex.2.1⟩⟩) PySem.F.plainAttrs_set PySem.F.slot_set_pop (by show builtinType _ = _; rw [builtinType_eq_fast]; kernel_rfl) A α s v pl Q hA hE F r h
theorem c_setpop {i : Nat} {S : Int → Bool} {k : Int} (hi : σ.H[i]? = some (setC S 1)) (hS : S k = true) : CallOk G n fi σ (.builtin "set.pop") [.ref i] [] [] (.int k) { σ with H := σ.H.set i (setC (fun _ => false) 0) } := .mk fun A env α s vals kvals hA hE F ra rk => by
  simp only [RepsC] at ra rk; obtain ⟨u, _, rfl, r, rfl⟩ := ra; subst rk
  obtain ⟨a, o, rfl, ha, ho, hf, hp⟩ := F.labO hi r
  have hT : s.TypeIs (.ref a) "set" := ⟨o, ho, (hp G.prog G.w).1.1⟩
  refine wpAny_call_entry PySem.F.slot_set_pop hT PySem.F.entry_set_pop ?_ (PySem.F.args_set_pop_1 _)
  unfold Builtin.«set.pop»
  refine wpAny_bind (wpAny_pure ?_)
  refine wpAny_bind (pop1 ho hp hS fun t h' dr hs hn => ?_)
  obtain ⟨o', h1, h2, _⟩ := hn
  show wpAny _ _ (ret (Value.int k t)) _ _ _
  exact wpAny_pure ⟨_, rfl, Post.mutC F hi ha (by rw [h1]; rfl) hs ⟨o', h1, set_notFrz G h2, h2⟩ rint⟩
theorem pe_dict0 {pos : Pos} : PE G n fi σ (.Dict [] [] pos) .any σ := .mk fun A env α s _ _ F =>
  wpAny_Dict_empty (Post.all F (fun b o e => push_all _ b o e) (by simp only [RepC]))
/-- {e} -/
theorem pe_set1 {e : Expr} {k : Nat} {pos : Pos} {z : Int} {c : Value} {q : Str} (ok : G.Ok) (hcode : fi.code = some (c, q)) (hc : kdsCode G.K c = true) (h : PE G n fi { σ with H := σ.H ++ [setC (fun _ => false) 0] } e (.int z) { σ with H := σ.H ++ [setC (fun _ => false) 0] }) (hun : (displayRoad k [e] == .unsure) = false) (hroad : (displayRoad k [e] == .constants) = false) (hp : kdsPlain e = true) :
    PE G n fi σ (.Set [e] k pos) (.ref σ.H.length) { σ with H := σ.H ++ [setC (fun y => false || decide (y = z)) 1] } := .mk fun A env α s hA hE F => by
  have hce : kdsCode G.K env.code = true := by rw [(hE.code c q hcode).1]; exact hc
  show wpAny _ _ (eval (.Set [e] k pos) env) _ _ _
  rw [arm_eval_Set]
  refine wpAny_bind (wpAny_standAt ?_)
  refine wpAny_bind (kds_main (ok.X.keeps F.gs.base) hce fun b => ?_)
  rw [kds_star [e] (by simp [hp]), List.map_map]
  refine kds_core (ts := (evalEach [e] env).map fun t => do let v ← t; standAt pos; pure v) hroad ?_ ?_ ?_ fun led => ?_
  · refine List.findIdx?_eq_none_iff.mpr fun x hx => ?_
    obtain ⟨t, _, rfl⟩ := List.mem_map.mp hx
    rfl
  · rw [List.length_map, kds_len]; exact (by decide : 1 ≤ 30)
  · rw [List.map_map]; try rfl
  · refine kds_all pos [e] _ _ ?_
    have hi := intSetOf_fresh led
    obtain ⟨β, sp, hb, F1, r1⟩ := Post.lab (t := s.toks) (D₀ := s.heap.objs.size) (c := setC (fun _ => false) 0) F (fun b o e => push_all _ b o e) get_size ⟨({ cls := .type "set", dict := none, data := .set #[] 0 (.fresh 0 0 led) } : Obj), Heap.get?_push_size _ rfl, set_notFrz G hi, hi⟩
    show wpAny _ _ (eval e env) _ _ _
    refine seq2 (h.run A env _ _ hA hE F1) fun v γ s₂ sp2 hb2 F2 r2 => ?_
    simp only [RepC] at r2; obtain ⟨t, rfl⟩ := r2
    have r1' := F1.still sp2 hb2 r1
    obtain ⟨a, o, ea, ha, ho, hf, hp⟩ := F2.labO (P := fun o => o.IntSetOf (fun _ => false) 0) (by simp) r1'
    cases ea
    refine kds_fill_cons ?_
    unfold setAdd
    refine wpAny_holding (wpAny_bind ((intKind G.prog G.w).pyHash (k := z) (by simp [intKind, Value.isInt]) ?_))
    refine wpAny_setAddHashed_of (s := { s₂ with toks := s₂.toks + 1 }) (knd := intKind G.prog G.w) (by simp [intKind, Value.isInt]) rfl ((hp.kind G.prog G.w).setOf ho (by show 0 < 4096; omega)) (by show 0 + 1 < 4096; omega) fun h' hsb hS' => ?_
    obtain ⟨o', ho', hso'⟩ := hS'.objOf
    have hso2 := hso'.intSetOf
    refine kds_fill_nil hun ?_
    have := Post.mutC (R := RD (.ref σ.H.length)) (v := .ref s.heap.objs.size) (t := s₂.toks + 1) (dr := s₂.drawn) (c := setC (fun y => false || decide (y = z)) 1) F2 (i := σ.H.length) (c₀ := setC (fun _ => false) 0) (by simp) ha (by rw [ho']; rfl) hsb ⟨o', ho', set_notFrz G hso2, hso2⟩ (by
      simp only [RepC]; exact ⟨_, _, rfl, ha, rfl⟩)
    have e : ({ σ with H := (σ.H ++ [setC (fun _ => false) 0]).set σ.H.length (setC (fun y => false || decide (y = z)) 1) } : AS) = { σ with H := σ.H ++ [setC (fun y => false || decide (y = z)) 1] } := by
      congr 1; simp
    rw [e] at this
    exact Post.up sp hb (Post.up sp2 hb2 this)
end
end
section
/-- like Fn, as a piece of code -/
structure FnX (G : Gnd) (n : Nat) (f : Value) (H : List Cont) (args : List D) (kn : List Str) (kws : List D) (d : D) (H' : List Cont) : Prop where
  run : ∀ A α s vals kvals, OKA n A → Gs G s.heap → Labs G α s.heap H → RepsC [] (some α) s.heap args vals → RepsC [] (some α) s.heap kws kvals →
    codeAny (model G.prog G.w) A (.call f ⟨vals, kn.zip kvals⟩) (fun r s' => match r with
      | .ok (.ret v) => ∃ β, Sp G α s s' ∧ (∀ b ∈ β, s.heap.get? b = none) ∧ Gs G s'.heap ∧ Labs G (α ++ β) s'.heap H' ∧ ∀ ys : List Addr, (∀ a ∈ ys, (s.heap.get? a).isSome) → RepC ys (some (α ++ β)) s'.heap d v
      | _ => False) s
theorem FnX.fn {G : Gnd} {n : Nat} {f : Value} {H H' : List Cont} {args kws : List D} {kn : List Str} {d : D} (h : FnX G n f H args kn kws d H') : Fn G n f H args kn kws d H' :=
  .mk fun A α s vals kvals hA gs L ra rk => wpAny_call (codeAny_mono (h.run A α s vals kvals hA gs L ra rk) fun r s' z => by
    rcases r with e | (v | _ | _ | _) <;> first | exact z | exact z.elim)
noncomputable def FlRet : Out → Flow → Value → Prop
  | _, .ret v, u => u = v
  | _, _, u => u = .none
/-- a call whose binding may make objects -/
theorem fn_enterX {G : Gnd} {n : Nat} {f : Addr} {H Hb H' : List Cont} {args kws : List D} {kn : List Str} {d : D} {oc : Value} {od : Option Addr} {osl : Array (Option Value)} {name qual : Str} {params : Arguments} {body : List Stmt} {scope : Scope} {dV kV doc pm cdv ct : Value} {an : Option Addr}
    (ok : G.Ok) (ho : G.K.lookup f = some ⟨oc, od, .func (fnOf name qual params body scope dV kV doc pm an cdv ct), osl⟩) (hcd : codeIn G.K cdv qual = true) (bs : List (Str × D)) (k : Nat)
    (hbind : ∀ (A : Around) (s : Shared) (α : List Addr) (vals kvals : List Value) (Q : List (Str × Value) → Shared → Prop) (E : Value → Shared → Prop), Gs G s.heap → Labs G α s.heap H → RepsC [] (some α) s.heap args vals → RepsC [] (some α) s.heap kws kvals →
      (∀ binds h₀ γ, (∀ b o, s.heap.get? b = some o → h₀.get? b = some o) → (∀ b ∈ γ, s.heap.get? b = none) → Labs G (α ++ γ) h₀ Hb → binds.map (·.1) = bs.map (·.1) → RepsC [] (some (α ++ γ)) h₀ (bs.map (·.2)) (binds.map (·.2)) → Q binds { s with heap := h₀ }) →
      wpAny (model G.prog G.w) A (bindArgs (fnOf name qual params body scope dV kV doc pm an cdv ct) ⟨vals, kn.zip kvals⟩) Q E s)
    (hkind : (bs.all fun p => scope.names.lookup p.1 == some .local || scope.names.lookup p.1 == some .cell) = true) (hk0 : H.length ≤ k)
    (hbody : SE G n ⟨scope, some (cdv, qual ++ ".<locals>."), true, none⟩ ⟨bindLoc (fun x => scope.names.lookup x) bs [], bindCel (fun x => scope.names.lookup x) bs [], Hb⟩ body (ExitOk k d H'))
    (hnd : ((cellsFrom 0 scope.names []).map (·.1)).Nodup := by decide) (hco : scope.isCoroutine = false := by rfl) (hgen : scope.isGenerator = false := by rfl) (hk : scope.kind = .function := by rfl) : FnX G (n + 1) (.ref f) H args kn kws d H' := by
  refine .mk fun A α s vals kvals hA gs₀ L ra rk => ?_
  have X₀ := ok.X.keeps gs₀.base
  refine codeAny_call_function (fd := fnOf name qual params body scope dV kV doc pm an cdv ct) hA.room (X₀ _ _ ho) rfl hco hgen rfl (codeRec_of X₀ hcd) (hbind _ _ _ _ _ _ _ gs₀ L ra rk fun binds h₀ γ hk₀ hγ Lb hn hr => ?_)
  have gs : Gs G h₀ := gs₀.all hk₀
  have X := ok.X.keeps gs.base
  generalize hs₀ : ({ s with heap := h₀ } : Shared) = s₀
  have e₀ : s₀.heap = h₀ := by rw [← hs₀]
  generalize hα₀ : α ++ γ = α₀ at Lb hr
  rw [← e₀] at gs X Lb hr hk₀
  have L₁ := Lb; clear Lb
  have hkd : ∀ x ∈ binds, scope.names.lookup x.1 = some .local ∨ scope.names.lookup x.1 = some .cell := fun x hx => by
    have : x.1 ∈ bs.map (·.1) := by rw [← hn]; exact List.mem_map_of_mem hx
    obtain ⟨p, hp, e⟩ := List.mem_map.mp this
    have := List.all_eq_true.mp hkind p hp
    rw [e] at this
    simpa using this
  refine wpAny_newFunctionEnv_cells hk (fun x hx => (hkd x hx).imp id fun h => ⟨h, ?_⟩) fun env he s' IC => ?_
  · obtain ⟨c, hc⟩ := cellsFrom_has (names := scope.names) (n := s₀.heap.objs.size + 1) (acc := []) (.inl h)
    rw [hc]; rfl
  refine ⟨(ok.T.nolimit.keeps gs.base).keeps IC.toInCall.keep, codeAny_func ?_⟩
  obtain ⟨h₁, tk, rfl, keep⟩ := IC.done
  have hEnv : EnvOk env ⟨scope, some (cdv, qual ++ ".<locals>."), true, none⟩ := by
    subst he
    exact ⟨rfl, rfl, rfl, hk, fun c q e => by cases e; exact ⟨rfl, rfl⟩, fun _ x hx => cellsFrom_has (.inl hx), fun _ h => nomatch h⟩
  have fk : FrzKeep s₀.heap h₁ := fun a o _ e => keep a o e
  have lk : LstKeep (xsOf env) (some α₀) s₀.heap h₁ := fun _ _ a o _ _ _ e => keep a o e
  have hsize : ∀ a ∈ α₀, a < s₀.heap.objs.size := fun a ha => by obtain ⟨o, h1, _⟩ := L₁.notFrz ha; exact Heap.lt_size h1
  have hLge := IC.toInCall.fresh
  have hcells : ∀ c ∈ env.cells.map (·.2), env.locals < c := fun c hc => by
    obtain ⟨p, hp, rfl⟩ := List.mem_map.mp hc
    exact IC.above p.1 p.2 hp
  have hg0 : ∀ a, s₀.heap.objs.size ≤ a → G.g0.get? a = none := fun a ha => by
    cases q : G.g0.get? a with
    | none => rfl
    | some o => exact absurd (Heap.lt_size (gs.base a o q)) (Nat.not_lt.mpr ha)
  have still : ∀ {d : D} {v : Value}, RepC [] (some α₀) s₀.heap d v → Rep env α₀ h₁ d v := fun {d v} r => by
    have := RepC.still (c' := some (α₀ ++ [])) fk lk (grow_of fun _ h => nomatch h) (r.liftX (X := xsOf env) fun a o ho q => by
      have hz := Heap.lt_size ho
      rcases List.mem_cons.mp q with rfl | q
      · exact absurd hz (Nat.not_lt.mpr hLge)
      · exact absurd (Nat.lt_trans (hcells a q) hz) (Nat.not_lt.mpr hLge))
    rwa [List.append_nil] at this
  have F : Fm G env ⟨bindLoc (fun x => scope.names.lookup x) bs [], bindCel (fun x => scope.names.lookup x) bs [], Hb⟩ α₀ { s₀ with heap := h₁, toks := tk } := by
    refine ⟨gs.all keep, ?_, ?_, fun x d e => ?_, fun c hc => ?_, List.pairwise_map.mpr IC.apart, fun q => absurd (hsize _ q) (Nat.not_lt.mpr hLge), fun c hc q => ?_, hg0 _ hLge, fun c hc => hg0 _ (Nat.le_trans hLge (Nat.le_of_lt (hcells c hc)))⟩
    · refine ⟨L₁.len, L₁.nd, fun i a c h1 h2 => ?_, L₁.g0, L₁.tb⟩
      have := (L₁.ok i a c h1 h2).still (β := []) fk (fun _ h => nomatch h) (fun o e => keep a o e)
      rwa [List.append_nil] at this
    · refine ⟨_, IC.toInCall.ns, fun x d e => ?_⟩
      have hkk : env.kindOf = fun x => scope.names.lookup x := by subst he; rfl
      rw [hkk]
      obtain ⟨v, h1, h2⟩ := bindL_rep hn hr (l := []) (m := fun _ => none) (fun _ _ e => nomatch e) x d e
      exact ⟨v, h1, still h2⟩
    · have hkk : env.kindOf = fun x => scope.names.lookup x := by subst he; rfl
      obtain ⟨v, h1, h2⟩ := bindC_rep hn hr (l := []) (m := fun _ => none) (fun _ _ e => nomatch e) x d e
      have hx : scope.names.lookup x = some .cell := by
        have : ∀ (bs : List (Str × D)) (l : List (Str × D)), (bs.all fun p => scope.names.lookup p.1 == some .local || scope.names.lookup p.1 == some .cell) = true → (∀ x d, l.lookup x = some d → scope.names.lookup x = some .cell) →
            ∀ x d, (bindCel (fun x => scope.names.lookup x) bs l).lookup x = some d → scope.names.lookup x = some .cell := by
          intro bs
          induction bs with
          | nil => intro l _ hl; exact hl
          | cons p r ih =>
            obtain ⟨y, dy⟩ := p
            intro l ha hl
            simp only [List.all_cons, Bool.and_eq_true] at ha
            simp only [bindCel]
            refine ih _ ha.2 fun x d hd => ?_
            split at hd
            · exact hl x d hd
            · rename_i hk
              simp only [List.lookup_cons] at hd
              split at hd
              · rename_i q
                have := ha.1
                rw [beq_iff_eq.mp q]
                simpa [hk] using this
              · exact hl x d hd
        exact this bs [] hkind (fun _ _ e => nomatch e) x d e
      obtain ⟨c, hc⟩ := hEnv.cl rfl x hx
      have := IC.cell x c hc
      rw [hkk, h1] at this
      exact ⟨c, v, hc, this, still h2⟩
    · obtain ⟨p, hp, rfl⟩ := List.mem_map.mp hc
      have hnd' : ((cellsFrom (s₀.heap.objs.size + 1) scope.names []).map (·.1)).Nodup := cellsFrom_names scope.names 0 (s₀.heap.objs.size + 1) [] [] rfl ▸ hnd
      have hl : env.cells.lookup p.1 = some p.2 := by subst he; exact lookup_of_mem_nodup hnd' hp
      exact ⟨_, IC.cell p.1 p.2 hl⟩
    · exact absurd (Nat.lt_trans (hcells c hc) (hsize c q)) (Nat.not_lt.mpr hLge)
  refine wpAny_mono (hbody.run _ env α₀ _ hA.deeper hEnv F) (fun fl s₂ x => ?_) fun _ _ x => x.elim
  obtain ⟨o, β, q, sp, hb, F2, fo⟩ := x
  have frsh : ∀ b ∈ β, s₀.heap.get? b = none := fun b hb' => by
    cases z : s₀.heap.get? b with
    | none => rfl
    | some ob => have := hb b hb'; rw [keep b ob z] at this; cases this
  have spA₀ : Sp G α₀ s₀ s₂ := by
    obtain ⟨⟨h₂, t₂, dr, rfl⟩, kp, lv⟩ := sp
    refine ⟨⟨h₂, t₂, _, rfl⟩, fun b ob hb' ht e => kp b ob (fun z => ?_) ht (keep b ob e), fun b e => lv b (by obtain ⟨ob, h1⟩ := Option.isSome_iff_exists.mp e; show (h₁.get? b).isSome = true; rw [keep b ob h1]; rfl)⟩
    have hlt := Heap.lt_size e
    unfold foot at z
    rcases List.mem_cons.mp z with rfl | z
    · exact absurd hlt (Nat.not_lt.mpr hLge)
    · rcases List.mem_append.mp z with z | z
      · exact absurd (Nat.lt_trans (hcells b (ownC_sub z)) hlt) (Nat.not_lt.mpr hLge)
      · exact hb' z
  have spA : Sp G α s s₂ := by
    subst hs₀; subst hα₀; exact (Sp.all (t := s.toks) hk₀).trans' (β := γ) hγ spA₀
  have frs : ∀ b ∈ γ ++ β, s.heap.get? b = none := fun b hb' => by
    rcases List.mem_append.mp hb' with z | z
    · exact hγ b z
    · cases y : s.heap.get? b with
      | none => rfl
      | some ob => have := frsh b z; rw [hk₀ b ob y] at this; cases this
  have kα : α.length ≤ k := by rw [L.len]; exact hk0
  have eq : (α₀ ++ β).take k = α ++ (γ ++ β).take (k - α.length) := by
    subst hα₀
    rw [List.append_assoc, List.take_append, List.take_of_length_le kα]
  have hX : ∀ (ys : List Addr) (hys : ∀ a ∈ ys, (s.heap.get? a).isSome) (i : Nat) (a : Addr), (α₀ ++ β)[i]? = some a → k ≤ i → a ∉ ys := fun ys hys i a hi hki z => by
    have hi : (α ++ (γ ++ β))[i]? = some a := by rw [← List.append_assoc, hα₀]; exact hi
    rw [List.getElem?_append_right (by omega)] at hi
    have := hys a z
    rw [frs a (List.mem_of_getElem? hi)] at this; cases this
  have res : ∀ v, FlRet o fl v → ∃ β', Sp G α s s₂ ∧ (∀ b ∈ β', s.heap.get? b = none) ∧ Gs G s₂.heap ∧ Labs G (α ++ β') s₂.heap H' ∧ ∀ ys : List Addr, (∀ a ∈ ys, (s.heap.get? a).isSome) → RepC ys (some (α ++ β')) s₂.heap d v := fun v hv => by
    refine ⟨(γ ++ β).take (k - α.length), spA, fun b hb' => frs b (List.mem_of_mem_take hb'), F2.gs, ?_, fun ys hys => ?_⟩
    · rw [← eq]
      cases o with
      | next σ' => obtain ⟨rfl, rfl, hbl⟩ := q; exact F2.labs.cut hbl
      | ret d₀ σ' => obtain ⟨hc, rfl, hbl⟩ := q; exact F2.labs.cut hbl
      | brk σ' => exact q.elim
      | cont σ' => exact q.elim
    rw [← eq]
    cases o with
    | next σ' =>
      obtain ⟨rfl, rfl, hbl⟩ := q
      cases fo
      rw [show v = .none from hv]
      simp only [RepC]
    | ret d₀ σ' =>
      obtain ⟨hc, rfl, hbl⟩ := q
      obtain ⟨v', rfl, r⟩ := fo
      rw [show v = v' from hv]
      exact r.conv F2.labs (hX ys hys) hc
    | brk σ' => exact q.elim
    | cont σ' => exact q.elim
  cases o with
  | next σ' => cases fo; exact res .none rfl
  | ret d₀ σ' => have fo' := fo; obtain ⟨v', rfl, r⟩ := fo; exact res v' rfl
  | brk σ' => exact q.elim
  | cont σ' => exact q.elim
theorem fn_enter {G : Gnd} {n : Nat} {f : Addr} {H H' : List Cont} {args kws : List D} {kn : List Str} {d : D} {oc : Value} {od : Option Addr} {osl : Array (Option Value)} {name qual : Str} {params : Arguments} {body : List Stmt} {scope : Scope} {dV kV doc pm cdv ct : Value} {an : Option Addr}
    (ok : G.Ok) (ho : G.K.lookup f = some ⟨oc, od, .func (fnOf name qual params body scope dV kV doc pm an cdv ct), osl⟩) (hcd : codeIn G.K cdv qual = true) (bs : List (Str × D)) (k : Nat)
    (hbind : ∀ (s : Shared) (X : List Addr) (c : Option (List Addr)) (vals kvals : List Value), G.K.In s.heap → RepsC X c s.heap args vals → RepsC X c s.heap kws kvals →
      ∃ binds, BindsTo s (fnOf name qual params body scope dV kV doc pm an cdv ct) ⟨vals, kn.zip kvals⟩ binds ∧ binds.map (·.1) = bs.map (·.1) ∧ RepsC X c s.heap (bs.map (·.2)) (binds.map (·.2)))
    (hkind : (bs.all fun p => scope.names.lookup p.1 == some .local || scope.names.lookup p.1 == some .cell) = true) (hk0 : H.length ≤ k)
    (hbody : SE G n ⟨scope, some (cdv, qual ++ ".<locals>."), true, none⟩ ⟨bindLoc (fun x => scope.names.lookup x) bs [], bindCel (fun x => scope.names.lookup x) bs [], H⟩ body (ExitOk k d H'))
    (hnd : ((cellsFrom 0 scope.names []).map (·.1)).Nodup := by decide) (hco : scope.isCoroutine = false := by rfl) (hgen : scope.isGenerator = false := by rfl) (hk : scope.kind = .function := by rfl) : Fn G (n + 1) (.ref f) H args kn kws d H' :=
  (fn_enterX (Hb := H) ok ho hcd bs k (fun A s α vals kvals Q E gs L ra rk kk => by
    obtain ⟨binds, hB, hn, hr⟩ := hbind s _ _ vals kvals (ok.X.keeps gs.base) ra rk
    exact hB _ _ _ _ (kk binds s.heap [] (fun _ _ e => e) (fun _ h => nomatch h) (by rw [List.append_nil]; exact L) hn (by rw [List.append_nil]; exact hr))) hkind hk0 hbody hnd hco hgen hk).fn
end
section
section
variable {τ υ : Type} {G : Gnd} {n m : Nat} {fi : Fi} {env : Env} {A : Around} {α β : List Addr} {s s₁ s₂ s' : Shared} {σ σ' σ₁ σ₂ σ₃ σ₄ : AS} {x : Str}
/-! types -/
theorem c_typeS : CallOk G n fi σ (.type "type") [.str x] [] [] (.val (.type "str")) σ := .mk fun A env α s vals kvals hA hE F ra rk => by
  simp only [RepsC, RepC] at ra rk; obtain ⟨_, _, rfl, ⟨t, rfl⟩, rfl⟩ := ra; subst rk
  exact call_type_of (typeIs_str _ _ _) (by decide) (Post.here F (by simp only [RepC]))
theorem c_typeL {d : D} {ds : List D} (hl : IsL σ d ds) : CallOk G n fi σ (.type "type") [d] [] [] (.val (.type "list")) σ := .mk fun A env α s vals kvals hA hE F ra rk => by
  simp only [RepsC] at ra rk; obtain ⟨v, _, rfl, r, rfl⟩ := ra; subst rk
  obtain ⟨a, vs, rfl, hL, hr⟩ := hl.get F r
  exact call_type_of hL.typeIs (by decide) (Post.here F (by simp only [RepC]))
theorem o_isType {X Y : String} : O2 G n fi σ (compareOp .Is) (.val (.type X)) (.val (.type Y)) (.bool (Value.type X == Value.type Y)) σ := .mk fun A env α s u v _ _ F r1 r2 => by
  simp only [RepC] at r1 r2; subst r1; subst r2
  exact wpAny_pure (a := Value.bool (Value.type X == Value.type Y)) (Post.here F rbool)
theorem o_isNotType {X Y : String} : O2 G n fi σ (compareOp .IsNot) (.val (.type X)) (.val (.type Y)) (.bool (!(Value.type X == Value.type Y))) σ := .mk fun A env α s u v _ _ F r1 r2 => by
  simp only [RepC] at r1 r2; subst r1; subst r2
  exact isnot_type (Post.here F rbool)
theorem ot_none : OT G n fi σ .none false := .mk fun A env α s v _ _ F r => by
  simp only [RepC] at r; subst r
  exact wpAny_pure (Post.here F rfl)
theorem c_join {i : Nat} {sep : Str} (hi : σ.H[i]? = some (.list [.str x])) (hz : sep.length ≤ 100) (hx : x.length ≤ 1000) : CallOk G n fi σ (.builtin "str.join") [.str sep, .ref i] [] [] (.str x) σ := .mk fun A env α s vals kvals hA hE F ra rk => by
  simp only [RepsC] at ra rk; obtain ⟨v, _, rfl, r0, u, _, rfl, r, rfl⟩ := ra; subst rk
  simp only [RepC] at r0; obtain ⟨t0, rfl⟩ := r0
  obtain ⟨a, vs, rfl, hL, hr⟩ := (islab hi).get F r
  simp only [RepsC, RepC] at hr
  obtain ⟨_, _, rfl, ⟨t, rfl⟩, rfl⟩ := hr
  refine SC.join (l := [(x, t)]) (texts := [x]) hL rfl ?_ fun t' k => ?_
  · exact joinOk_of (by simp; omega)
  · exact Post.tok F rstr
/-! an attribute stored on a fresh object -/
theorem setattr_new {K : Frag} {a dx C : Addr} {nm : Str} {v : Value} {k : Nat} {prog : Program} {w : World} {Q : Unit → Shared → Prop} {E : Value → Shared → Prop} (X : K.In s.heap) (hx : s.heap.get? a = some (hdrObj C dx)) (hd : s.heap.get? dx = some (dictOf [] k)) (hs : findIn K (.ref C) "__setattr__" = some (some (.builtin "object.__setattr__")))
    (hp : plainOver K C = true) (ht : takerIn K C nm = some none) (hh : (clsIn K C).any (·.hasDict) = true)
    (h : ∀ h' tk hs t, Heap.SameBut dx s.heap h' → h'.get? dx = some (dictOf [⟨hs, .str nm t, v⟩] (k + 1)) → Q () { s with heap := h', toks := tk }) : wpAny (model prog w) A (setAttr (.ref a) nm v) Q E s := by
  have I : InstAt s.heap a (hdrObj C dx) C (some (dictOf [] k)) := ⟨hx, rfl, rfl, hd⟩
  refine set_plain X I hs (osa_open (s := { s with toks := s.toks + 1 }) X I hp ht fun b => ?_)
  obtain ⟨cd, hc, hd'⟩ := any_some hh
  refine wpAny_bind (wpAny_pure (wpAny_bind (wpAny_bind (wpAny_loadPart (s := { s with toks := s.toks + 1 }) hx (wpAny_bind ((looks_clsIn X hc).here (s := { s with toks := s.toks + 1 }) ?_))))))
  rw [hd']
  refine wpAny_pure (a := some dx) (wpAny_bind (wpAny_pure (wpAny_bind ?_)))
  unfold nsSet
  refine wpAny_bind (wpAny_bind (wpAny_askSetting (wpAny_pure (wpAny_bind (wpAny_mkText (wpAny_bind (wpAny_loadPart (s := { s with toks := s.toks + 1 + 1 }) hd ?_)))))))
  have c : (!(#[] : Array DictEntry).any (·.key.isStr nm) && (#[] : Array DictEntry).any (·.refKey)) = false := by simp
  have c' : aRefKeyMayBeTheName nm (#[] : Array DictEntry) = false := by rw [aRefKeyMayBeTheName_at]; exact c
  have hu := Heap.get?_update_self (f := Obj.putName nm (PyData.keyHash w.params nm) (.str nm (s.toks + 1)) v) hd rfl
  have hu' : (s.heap.update dx (Obj.putName nm (PyData.keyHash w.params nm) (.str nm (s.toks + 1)) v)).get? dx = some (dictOf [⟨PyData.keyHash w.params nm, .str nm (s.toks + 1), v⟩] (k + 1)) := hu.trans rfl
  dsimp only
  rw [show (List.toArray ([] : List DictEntry)) = #[] from rfl, c']
  refine wpAny_updatePart (s := { s with toks := s.toks + 1 + 1 }) hd ?_
  refine wpAny_bind (wpAny_lookBehind hu' (pastItsLine_dict (by rw [List.size_toArray, sizeLine_eq]; show 1 ≤ _; omega)) ?_)
  exact wpAny_pure (h _ _ _ _ (Heap.SameBut.update _ _ _) hu')
theorem s_setattr {o : Str} {op p pos : Pos} {nm : Str} {e : Expr} {d : D} {C : Addr} {i j : Nat} {Q : Out → Prop} (ok : G.Ok) (h : PE G n fi σ e d σ₁) (ho : PE G n fi σ₁ (.Name o op) (.ref i) σ₁) (hi : σ₁.H[i]? = some (.inst C j)) (hj : σ₁.H[j]? = some (.dict [])) (hd : d.nol = true)
    (hs : findIn G.K (.ref C) "__setattr__" = some (some (.builtin "object.__setattr__"))) (hp : plainOver G.K C = true) (ht : takerIn G.K C nm = some none) (hh : (clsIn G.K C).any (·.hasDict) = true) (q : Q (.next { σ₁ with H := σ₁.H.set j (.dict [(nm, d)]) }))
    (hw : ∀ env, EnvOk env fi → swapsWith e (some (.Attribute (.Name o op) nm p)) pos.line env = pure false := by intro _ _; rfl) : S1 G n fi σ (.Assign [.Attribute (.Name o op) nm p] e pos) Q := .mk fun A env α s hA hE F => by
  refine plainObj_wpAny_Assign_Attribute (seq2 (h.run A env α s hA hE F) fun v β s₁ sp hb F1 r1 => seq2 (ho.run A env _ s₁ hA hE F1) fun u γ s₂ sp2 hb2 F2 r2 => ?_) (hw env hE)
  have r1' := F1.still sp2 hb2 r1
  simp only [RepC] at r2
  obtain ⟨a, α', e0, ha, rfl⟩ := r2
  cases e0
  obtain ⟨dx, hdx, ho2⟩ := F2.labs.ok i a _ ha hi
  obtain ⟨des, k, h4, h5, ⟨_, hns⟩, h6⟩ := F2.labs.ok j dx _ hdx hj
  have : des = [] := List.length_eq_zero_iff.mp (by simpa using h5)
  subst this
  refine setattr_new (ok.X.keeps F2.gs.base) ho2 h4 hs hp ht hh fun h' tk hsh t hsb hg => ?_
  have hdm : dx ∈ (α ++ β) ++ γ := List.mem_of_getElem? hdx
  have fk : FrzKeep s₂.heap h' := fun b o f e => hsb.extBut b o (fun z => by obtain ⟨o', q1, q2⟩ := F2.labs.notFrz hdm; rw [← z, e] at q1; cases q1; exact q2 f) e
  have hc : ContOk ((α ++ β) ++ γ) h' dx (.dict [(nm, d)]) := by
    refine ⟨_, _, hg, rfl, ⟨by show 1 ≤ 100; omega, hns⟩, fun i x d' hi => ?_⟩
    cases i with
    | succ i => simp at hi
    | zero =>
      simp only [List.getElem?_cons_zero, Option.some.injEq, Prod.mk.injEq] at hi
      obtain ⟨rfl, rfl⟩ := hi
      refine ⟨_, _, _, rfl, hd, ?_⟩
      have := RepC.nolStill (X := xsOf env) (c' := some (((α ++ β) ++ γ) ++ [])) fk (grow_of fun _ h => nomatch h) hd r1'
      rw [List.append_nil] at this
      exact this.anyX hd
  obtain ⟨δ, sp3, hb3, F3, _⟩ := Post.mutC (R := fun _ _ _ _ => True) (v := ()) (t := tk) (dr := s₂.drawn) F2 hj hdx (by rw [hg]; rfl) hsb hc trivial
  exact SPost.up sp.foot hb (SPost.up sp2.foot hb2 ⟨.next _, δ, q, sp3.foot, hb3, F3, rfl⟩)
/-! loops without a turn -/
noncomputable def Src0 (G : Gnd) (A : Around) (env : Env) (α : List Addr) (σ : AS) (s : Shared) (it : Value) (s₂ : Shared) : Prop :=
  wpAny (model G.prog G.w) A (pyNext it) (fun r s₃ => r = none ∧ ∃ β, Sp G α s s₃ ∧ (∀ b ∈ β, s.heap.get? b = none) ∧ Fm G env σ (α ++ β) s₃) bot s₂
theorem s_for0 {tgt iter : Expr} {body : List Stmt} {pos : Pos} {Q : Out → Prop} (hit : ∀ A env α s, OKA n A → EnvOk env fi → Fm G env σ α s → wpAny (model G.prog G.w) A (eval iter env) (fun x s₁ => wpAny (model G.prog G.w) A (pyIter x) (Src0 G A env α σ₁ s) bot s₁) bot s) (q : Q (.next σ₁))
    (hs : ∀ env x, foldedSetIterable iter env x = pure x := by intro _ _; rfl) : S1 G n fi σ (.For tgt iter body [] pos) Q := .mk fun A env α s hA hE F => by
  have bot_of : ∀ {E : Value → Shared → Prop} e s, bot e s → E e s := fun e s x => x.elim
  refine wpAny_For (wpAny_mono (hit A env α s hA hE F) (fun xv s₁ h₁ => wpAny_mono h₁ (fun it s₂ h₂ => ?_) fun _ _ e => e) fun _ _ e => e) (hs env)
  refine codeAny_forLoop_any (fun k s' => k = 0 ∧ s' = s₂) ?_ 0 ⟨rfl, rfl⟩
  rintro k s' ⟨rfl, rfl⟩
  refine wpAny_mono h₂ (fun r s₃ h₃ => ?_) bot_of
  obtain ⟨rfl, β, sp, hb, F3⟩ := h₃
  exact wpAny_execs_nil ⟨.next σ₁, β, q, sp.foot, hb, F3, rfl⟩
/-- the end of an iterator that a call has just made -/
theorem src0_end {I : Addr} {o : Obj} {h' : Heap} {tk : Nat} (hI : s.heap.get? I = none) (sp : Sp G α s s₁) (hb : ∀ b ∈ β, s.heap.get? b = none) (F : Fm G env σ (α ++ β) s₁) (hn : s₁.heap.get? I = none) (ho : ItObj o) (hIo : (s₁.heap.push o).get? I = some o) (hx : Heap.ExtBut I (s₁.heap.push o) h') :
    Sp G α s { s₁ with heap := h', toks := tk } ∧ Fm G env σ (α ++ β) { s₁ with heap := h', toks := tk } := by
  have k1 : ∀ b o', s₁.heap.get? b = some o' → (s₁.heap.push o).get? b = some o' := fun b o' e => push_all _ b o' e
  have k2 : ∀ b o', b ∉ [I] → (s₁.heap.push o).get? b = some o' → h'.get? b = some o' := fun b o' hb' e => hx b o' (fun q => hb' (by simp [q])) e
  have F1 := F.all (t := s₁.toks) k1
  have wok := wrok_one (s := { s₁ with heap := s₁.heap.push o }) F hn hIo ho
  refine ⟨?_, F1.iter wok k2⟩
  obtain ⟨⟨h, t, dr, rfl⟩, kp, lv⟩ := sp
  refine ⟨⟨h', tk, _, rfl⟩, fun b o' hf ht e => k2 b o' (fun q => by rw [List.mem_singleton.mp q, hI] at e; cases e) (k1 b o' (kp b o' hf ht e)), fun b e => ?_⟩
  have hne : b ∉ [I] := fun q => by rw [List.mem_singleton.mp q, hI] at e; cases e
  obtain ⟨o', e'⟩ := Option.isSome_iff_exists.mp (lv b e)
  show (h'.get? b).isSome = true
  rw [k2 b o' hne (k1 b o' e')]; rfl
theorem hit_list0 {iter : Expr} {i : Nat} (h : PE G n fi σ iter (.ref i) σ₁) (hi : σ₁.H[i]? = some (.list [])) : ∀ A env α s, OKA n A → EnvOk env fi → Fm G env σ α s → wpAny (model G.prog G.w) A (eval iter env) (fun x s₁ => wpAny (model G.prog G.w) A (pyIter x) (Src0 G A env α σ₁ s) bot s₁) bot s := fun A env α s hA hE F =>
  seq2 (h.run A env α s hA hE F) fun v β s₁ sp hb F1 r1 => by
    obtain ⟨a, vs, rfl, hL, hr⟩ := (islab hi).get F1 r1
    simp only [RepsC] at hr; subst hr
    refine wpAny_pyIter_list hL ?_
    obtain ⟨oa, hoa, _⟩ := id hL
    have hax : a < s₁.heap.objs.size := Heap.lt_size hoa
    have hL' : (s₁.heap.push { cls := .type "list_iterator", data := .fields #[.ref a, .int 0 0] }).IsList a (List.toArray []) := hL.push _
    refine wpAny_pyNext_list_end (i := 0) hA.hh ⟨_, Heap.get?_push_size _ rfl, rfl, rfl⟩ hL' rfl fun h' hx => ?_
    obtain ⟨p1, p2⟩ := src0_end (tk := s₁.toks) (sp.gone get_size) sp hb F1 get_size ⟨_, rfl, fun q t e => by simp at e⟩ (Heap.get?_push_size _ rfl) hx
    exact ⟨rfl, β, p1, hb, p2⟩
end
end
section
theorem OKA.typeCall {n : Nat} {A : Around} {C : Addr} (x : OKA (n + 1) A) : OKA n (A.under (.builtin "type.__call__" ⟨[.ref C], []⟩)) := by
  have h1 : Code.weight (.builtin "type.__call__" ⟨[.ref C], []⟩) ≤ 20 := Nat.le_of_ble_eq_true (by kernel_rfl)
  have h2 : Code.cUnits (.builtin "type.__call__" ⟨[.ref C], []⟩) ≤ 100 := Nat.le_of_ble_eq_true (by kernel_rfl)
  refine ⟨x.hh, ?_, ?_⟩
  · have := x.d; simp only [Around.under]; omega
  · have := x.u; simp only [Around.under]; omega
section
variable {τ υ : Type} {G : Gnd} {n m : Nat} {fi : Fi} {env : Env} {A : Around} {α β : List Addr} {s s₁ s₂ s' : Shared} {σ σ' σ₁ σ₂ σ₃ σ₄ : AS} {x : Str}
theorem sys_ne (ok : G.Ok) (gs : Gs G s.heap) : s.heap.objs.size ≠ sysModules := fun e => by
  obtain ⟨o, es, ep, ho, _⟩ := ok.T.g
  have := Heap.lt_size (gs.base _ _ ho)
  rw [e] at this
  exact absurd this (by decide)
/-- the call of a class of the text whose __init__ lays one list under one name -/
theorem c_make {C fI : Addr} {nm : Str} (ok : G.Ok) (hmk : makesIn G.K C = true) (hin : findIn G.K (.ref C) "__init__" = some (some (.ref fI))) (hf : typeIn G.K (.ref fI) = some (.type "function"))
    (h : FnX G m (.ref fI) [.dict [], .inst C 0] [.ref 1] [] [] .none [.dict [(nm, .ref 2)], .inst C 0, .list []]) (hm : m + 1 ≤ n) :
    CallOk G n fi σ (.ref C) [] [] [] (.ref (σ.H.length + 1)) { σ with H := σ.H ++ [.dict [(nm, .ref (σ.H.length + 2))], .inst C σ.H.length, .list []] } := .mk fun A env α s vals kvals hA hE F ra rk => by
  simp only [RepsC] at ra rk; subst ra; subst rk
  have X := ok.X.keeps F.gs.base
  have hne := sys_ne ok F.gs
  obtain ⟨hh, g, d, t, os⟩ := s
  refine wpAny_call (make_core (makes_of X hmk) (looks_findIn X hin) (fun self => bind_fn X self hf) (.inl rfl) ?_)
  have hD : (⟨hh, g, d, t, os⟩ : Shared).heap.get? hh.objs.size = none := get_size
  obtain ⟨β1, sp1, hb1, F1, r1⟩ := Post.lab (t := t) (D₀ := hh.objs.size) (h' := hh.push emptyDict) (c := .dict []) F (fun b o e => push_all _ b o e) hD ⟨[], 0, Heap.get?_push_size _ rfl, rfl, ⟨by show 0 ≤ 100; omega, hne⟩, fun i x d hi => by simp at hi⟩
  simp only [RepC] at r1
  obtain ⟨a1, α1, e1, ha1, e1'⟩ := r1
  cases e1; cases e1'
  have hD2 : (hh.push emptyDict).get? (hh.objs.size + 1) = none := by rw [← Heap.size_push hh emptyDict]; exact get_size
  have hx : ((hh.push emptyDict).push (instObj C hh.objs.size)).get? (hh.objs.size + 1) = some (instObj C hh.objs.size) := by rw [← Heap.size_push hh emptyDict]; exact Heap.get?_push_size _ rfl
  obtain ⟨β2, sp2, hb2, F2, r2⟩ := Post.lab (t := t) (D₀ := hh.objs.size + 1) (h' := (hh.push emptyDict).push (instObj C hh.objs.size)) (c := .inst C σ.H.length) F1 (fun b o e => push_all _ b o e) hD2 ⟨hh.objs.size, by
    rw [List.getElem?_append_left (List.getElem?_eq_some_iff.mp ha1).1]; exact ha1, hx⟩
  have r2' := r2
  simp only [RepC] at r2'
  obtain ⟨a2, α2, e2, ha2, e2'⟩ := r2'
  cases e2; cases e2'
  have eL : ({ σ with H := σ.H ++ [Cont.dict []] } : AS).H.length = σ.H.length + 1 := by simp
  have key := call_gen (G := G) (n := n) (m := m) (fi := fi) (env := env) (d := .none) (kws := []) (dsk := []) (Hc := [.dict [], .inst C 0]) (Hc' := [.dict [(nm, .ref 2)], .inst C 0, .list []]) (args := [.ref 1]) (dsa := [.ref (σ.H.length + 1)]) (vals := [.ref (hh.objs.size + 1)]) (kvals := []) [σ.H.length, σ.H.length + 1]
    (Run := fun Q => codeAny (model G.prog G.w) (A.under (.builtin "type.__call__" ⟨[.ref C], []⟩)) (.call (.ref fI) ⟨[.ref (hh.objs.size + 1)], []⟩) (fun r s' => match r with | .ok (.ret v) => Q v s' | _ => False) ⟨(hh.push emptyDict).push (instObj C hh.objs.size), g, d, t, os⟩)
    (fun Q Q' k z => codeAny_mono z fun r s' y => by rcases r with e | (v | _ | _ | _) <;> first | exact k _ _ y | exact y)
    (fun αc L ra rk => h.run _ αc _ _ _ (hA.le hm).typeCall F2.gs L ra rk)
    ⟨.inr (.inl (by simp [D.ren, selRen])), trivial⟩ trivial (fun i c hi => by
      match i, hi with
      | 0, hi => simp at hi; subst hi; exact ⟨_, rfl, by simp [Cont.ren]⟩
      | 1, hi => simp at hi; subst hi; exact ⟨_, rfl, by simp [Cont.ren, selRen]⟩
      | i + 2, hi => simp at hi) rfl (by simp) (by show 2 ≤ 3; decide) F2
    (by simp only [RepsC]; rw [eL] at r2; exact ⟨_, [], rfl, r2, rfl⟩) (by simp only [RepsC])
  refine codeAny_mono key fun r s' z => ?_
  rcases r with e | (v | _ | _ | _) <;> first | exact z.elim | skip
  obtain ⟨β3, sp3, hb3, F3, r3⟩ := z
  rename_i v
  have ev : v = Value.none := by simpa only [RepC, D.ren] using r3
  have eH : putSel (selRen [σ.H.length, σ.H.length + 1] ((σ.H ++ [Cont.dict []]) ++ [Cont.inst C σ.H.length]).length) [σ.H.length, σ.H.length + 1] [.dict [(nm, .ref 2)], .inst C 0, .list []] ((σ.H ++ [Cont.dict []]) ++ [Cont.inst C σ.H.length]) = σ.H ++ [.dict [(nm, .ref (σ.H.length + 2))], .inst C σ.H.length, .list []] := by
    simp [putSel, Cont.ren, D.ren, selRen, List.set_append_right]
  have F3' := F3
  simp only at F3'
  rw [eH] at F3'
  refine ⟨ev, ?_⟩
  have P3 : Post G env ((α ++ β1) ++ β2) ⟨(hh.push emptyDict).push (instObj C hh.objs.size), g, d, t, os⟩ { σ with H := σ.H ++ [.dict [(nm, .ref (σ.H.length + 2))], .inst C σ.H.length, .list []] } (RD (.ref (σ.H.length + 1))) (.ref (hh.objs.size + 1)) s' := by
    refine ⟨β3, sp3, hb3, F3', ?_⟩
    simp only [RepC]
    rw [eL] at ha2
    exact ⟨_, _, rfl, by rw [List.getElem?_append_left (List.getElem?_eq_some_iff.mp ha2).1]; exact ha2, rfl⟩
  exact Post.up sp1 hb1 (Post.up sp2 hb2 P3)
/-- x.items() of an empty dict, walked -/
theorem hit_items0 {o : Str} {op apos pos : Pos} {i : Nat} (ho : PE G n fi σ (.Name o op) (.ref i) σ₁) (hi : σ₁.H[i]? = some (.dict []))
    (he : ∀ env, eval (.Call (.Attribute (.Name o op) "items" apos) [] [] pos) env = (do
      let ov ← eval (.Name o op) env
      standAt apos.atName
      let (f, first) ← holding [ov] (getMethod ov "items" (do return (← importBound (.Name o op) env).getD true))
      callWith pos f first (backTo pos (starEach [] env)) (backToKw pos (keywordEach [] env))) := by intro _; rfl) :
    ∀ A env α s, OKA n A → EnvOk env fi → Fm G env σ α s → wpAny (model G.prog G.w) A (eval (.Call (.Attribute (.Name o op) "items" apos) [] [] pos) env) (fun x s₁ => wpAny (model G.prog G.w) A (pyIter x) (Src0 G A env α σ₁ s) bot s₁) bot s := fun A env α s hA hE F => by
  rw [he]
  refine wpAny_bind (seq2 (ho.run A env α s hA hE F) fun v β s₁ sp hb F1 r1 => wpAny_bind (wpAny_standAt ?_))
  simp only [RepC] at r1
  obtain ⟨d, α', e1, hd, rfl⟩ := r1
  cases e1
  obtain ⟨des, k, h4, h5, ⟨_, hns⟩, h6⟩ := F1.labs.ok i d _ hd hi
  have : des = [] := List.length_eq_zero_iff.mp (by simpa using h5)
  subst this
  have hm : s₁.heap.DictAt (strKind G.prog G.w) d [] k := ⟨_, #[], h4, ⟨rfl, rfl, rfl⟩, rfl, (fun e he => by simp at he), .nil, by simp⟩
  have hdS : (d == sysModules) = false := by simpa using hns
  refine wpAny_bind (wpAny_holding (getMethod_builtin hm.dictOf.typeIs PySem.F.plainAttrs_dict PySem.F.slot_dict_items PySem.F.type_dict_items hm.dictOf.mapOf.noDict ?_))
  show wpAny _ _ (callWith pos (.builtin "dict.items") [.ref d] [] []) _ _ _
  refine PySem.method_meetsIn PySem.F.slot_dict_items PySem.F.entry_dict_items rfl (PySem.evalArgs_none ⟨rfl, hm.dictOf.typeIs, PySem.F.args_dict_items_1 _, _, meets_dict_items (strKind G.prog G.w) d hdS, ⟨[], hm.dictOf⟩, ?_⟩)
  have hlt : d < s₁.heap.objs.size := Heap.lt_size h4
  have k1 : ∀ b o', s₁.heap.get? b = some o' → (s₁.heap.push { cls := .type "dict_items", data := .fields #[.ref d] }).get? b = some o' := fun b o' e => push_all _ b o' e
  have F1' := F1.all (t := s₁.toks) k1
  refine wpAny_pyIter_items (knd := strKind G.prog G.w) (kvs := []) (ep := k) ⟨_, Heap.get?_push_size _ rfl, rfl, rfl⟩ (hm.keep k1) ?_
  have sp' : Sp G α s { s₁ with heap := s₁.heap.push { cls := .type "dict_items", data := .fields #[.ref d] } } := sp.trans (Sp.all (t := s₁.toks) k1)
  refine wpAny_pyNext_items_end (knd := strKind G.prog G.w) (kvs := []) (i := 0) (ep := k) hA.hh (Heap.get?_push_size _ rfl) ((hm.keep k1).push _) rfl fun h' hx => ?_
  obtain ⟨p1, p2⟩ := src0_end (tk := s₁.toks) (s₁ := { s₁ with heap := s₁.heap.push { cls := .type "dict_items", data := .fields #[.ref d] } }) (sp'.gone get_size) sp' hb F1' get_size ⟨_, rfl, fun q t e => by simp at e⟩ (Heap.get?_push_size _ rfl) hx
  exact ⟨rfl, β, p1, hb, p2⟩
end
end
section
noncomputable def dI (xs : List Int) : List D := xs.map D.int
theorem ints_of {X : List Addr} {c : Option (List Addr)} {h : Heap} : ∀ {xs : List Int} {vs : List Value}, RepsC X c h (dI xs) vs → IntsAre vs xs
  | [], _, r => by simp only [dI, List.map_nil, RepsC] at r; subst r; exact .nil
  | x :: xs, _, r => by
    simp only [dI, List.map_cons, RepsC, RepC] at r
    obtain ⟨_, _, rfl, ⟨t, rfl⟩, r⟩ := r
    exact .cons x t (ints_of (xs := xs) r)
theorem of_ints {X : List Addr} {c : Option (List Addr)} {h : Heap} : ∀ {xs : List Int} {vs : List Value}, IntsAre vs xs → RepsC X c h (dI xs) vs
  | _, _, .nil => by simp only [dI, List.map_nil, RepsC]
  | _, _, .cons x t r => by
    simp only [dI, List.map_cons, RepsC, RepC]
    exact ⟨_, _, rfl, ⟨t, rfl⟩, of_ints r⟩
theorem ints_arr : ∀ {vs : List Value} {xs : List Int}, IntsAre vs xs → ∃ ps : List (Int × Tok), vs = ps.map (fun p => Value.int p.1 p.2) ∧ ps.map (·.1) = xs
  | _, _, .nil => ⟨[], rfl, rfl⟩
  | _, _, .cons x t r => by
    obtain ⟨ps, h1, h2⟩ := ints_arr r
    exact ⟨(x, t) :: ps, by rw [h1]; rfl, by rw [← h2]; rfl⟩
section
variable {τ υ : Type} {G : Gnd} {n m : Nat} {fi : Fi} {env : Env} {A : Around} {α β : List Addr} {s s₁ s₂ s' : Shared} {σ σ' σ₁ σ₂ σ₃ σ₄ : AS} {x : Str}
theorem c_sorted {d : D} {xs ys : List Int} (hl : IsL σ d (dI xs)) (hz : xs.length < 64) (hp : ys.Perm xs) (ho : ys.Pairwise (· ≤ ·)) : CallOk G n fi σ (.builtin "sorted") [d] [] [] (.lst (dI ys)) σ := .mk fun A env α s vals kvals hA hE F ra rk => by
  simp only [RepsC] at ra rk; obtain ⟨v, _, rfl, r, rfl⟩ := ra; subst rk
  obtain ⟨a, vs, rfl, hL, hr⟩ := hl.get F r
  have hi := ints_of hr
  have hlen : vs.length = xs.length := by have := hr.length; simpa [dI] using this
  refine sorted_ints hL hi (by omega) fun out ns' a1 a2 a3 => ?_
  have e : ns' = ys := lks_uniq (a2.trans hp.symm) a3 ho
  subst e
  obtain ⟨e, he⟩ := sortedAll_at s.heap vs out
  have hD : s.heap.get? (s.heap.objs.size + 1) = none := fresh_size (Nat.le_succ _)
  exact Post.lst (vs := out.toList) (t := s.toks) F (fun b o e => sortedAll_old e) hD ⟨e, he⟩ (of_ints a1)
theorem c_sum {d : D} {xs : List Int} (hl : IsL σ d (dI xs)) : CallOk G n fi σ (.builtin "sum") [d] [] [] (.int xs.sum) σ := .mk fun A env α s vals kvals hA hE F ra rk => by
  simp only [RepsC] at ra rk; obtain ⟨v, _, rfl, r, rfl⟩ := ra; subst rk
  obtain ⟨a, vs, rfl, hL, hr⟩ := hl.get F r
  obtain ⟨ps, rfl, e2⟩ := ints_arr (ints_of hr)
  have hL' : s.heap.IsList a (intItems ps.toArray) := by
    have : intItems ps.toArray = (ps.map (fun p => Value.int p.1 p.2)).toArray := by simp [intItems]
    rw [this]; exact hL
  refine sum_intListG hA.hh hL' fun h' tk t' k => ?_
  have e3 : preSum (numAt ps.toArray) ps.toArray.size = xs.sum := by
    rw [preSum_eq, ← e2]
    congr 1
    simp
    rw [List.take_of_length_le (by simp)]
  rw [e3]
  exact Post.all (t := tk) F k rint
end
end
section
section
variable {τ υ : Type} {G : Gnd} {n m : Nat} {fi : Fi} {env : Env} {A : Around} {α β γ wr fp : List Addr} {s s₀ s₁ s₂ s' : Shared} {σ σ' σ₁ σ₂ σ₃ σ₄ : AS} {h' : Heap} {t : Nat}
/-- a target taken in a frame -/
theorem Fm.tgt {tgt : Expr} {d : D} {locs : List (Str × D)} {v : Value} (F : Fm G env σ α s) (E : EnvOk env fi) (hh : A.handled = none) (T : TgtOk G fi tgt d locs) (r : RepC [] none s.heap d v) :
    wpAny (model G.prog G.w) A (assign tgt env v) (fun _ s' => (∃ h' tk, s' = { s with heap := h', toks := tk } ∧ (∀ b o, b ∉ [env.locals] → s.heap.get? b = some o → h'.get? b = some o) ∧ (h'.get? env.locals).isSome) ∧ Fm G env { σ with loc := locs ++ σ.loc } α s') bot s := by
  obtain ⟨m, hm, hr⟩ := F.loc
  refine T.run A env s v m _ _ hh E hm r fun h' m' tk hn' k hl hk => ?_
  have hsome : (h'.get? env.locals).isSome := by obtain ⟨o, _, _, ho, _⟩ := hn'; rw [ho]; rfl
  have k' : ∀ b o, b ≠ env.locals → s.heap.get? b = some o → h'.get? b = some o := fun b o hb e => k b o (by simpa using hb) e
  obtain ⟨gs, lb, fk, lk⟩ := F.one (t := 0) (a := env.locals) hsome k' (.head _)
  have g : ∀ {d : D} {v : Value}, Rep env α s.heap d v → Rep env α h' d v := fun {d v} r => by
    have := RepC.still (c' := some (α ++ [])) fk lk (grow_of fun _ h => nomatch h) r
    rwa [List.append_nil] at this
  refine ⟨⟨h', tk, rfl, k, hsome⟩, gs, lb, ⟨m', hn', fun x d' e => ?_⟩, fun y e he => ?_, fun c hc => ?_, F.nd, F.la, F.ca, F.lg, F.cg⟩
  · cases q : locs.lookup x with
    | some d'' =>
      have : (locs ++ σ.loc).lookup x = some d'' := by rw [List.lookup_append, q]; rfl
      have e' : (locs ++ σ.loc).lookup x = some d' := e
      rw [this] at e'; cases e'
      obtain ⟨v', h1, h2⟩ := hl x d' q
      exact ⟨v', h1, h2.flatX.up⟩
    | none =>
      have : (locs ++ σ.loc).lookup x = σ.loc.lookup x := by rw [List.lookup_append, q]; rfl
      have e' : (locs ++ σ.loc).lookup x = some d' := e
      rw [this] at e'
      obtain ⟨v', h1, h2⟩ := hr x d' e'
      exact ⟨v', by rw [hk x q]; exact h1, g h2⟩
  · obtain ⟨c, u, h1, ⟨o, h2, h2'⟩, h3⟩ := F.cel y e he
    exact ⟨c, u, h1, ⟨o, k' _ _ (F.lc (mem_cells h1)) h2, h2'⟩, g h3⟩
  · obtain ⟨u, o, h2, h2'⟩ := F.cells c hc
    exact ⟨u, o, k' _ _ (F.lc hc) h2, h2'⟩
/-- the turns of one clause of a comprehension, in its frame -/
theorem clause_loop {e tgt : Expr} {depth : Nat} {acc : Value} {I : Addr} {p : Pos} {rest : Sem PySem.Fin} {src : List D} {St : Nat → Heap → Prop} {Mid : Nat → Value → Heap → Prop} {R : Result → Shared → Prop} {S : Nat → AS → Prop}
    (hq : Code.quiet (.compLoop e depth (.ref I) acc env) = true) (hden : (model G.prog G.w).den (.compLoop e depth (.ref I) acc env) = (compTurn e depth (.ref I) acc env).onRaise (fun x => do noteFrame x env; theTreesLotGoes x)) (hund : A.under (.compLoop e depth (.ref I) acc env) = A)
    (hturn : compTurn e depth (.ref I) acc env = (do standAt p; match ← pyNext (.ref I) with | none => pure (.done .next) | some v => letOwnedTupleGo tgt (.ref I) v; assign tgt env v; rest))
    (hA : OKA n A) (E : EnvOk env fi) (It : Itr G A I fp wr tgt s₂.heap src St Mid) (st : St 0 s₂.heap) (wok : WrOk G env γ wr s₂.heap) (hfp : ∀ b ∈ fp, (s₂.heap.get? b).isSome ∧ (b ∈ wr ∨ (b ∉ γ ∧ b ∉ xsOf env ∧ b ∉ G.TB)))
    (F₂ : Fm G env σ₁ γ s₂) (h0 : S 0 σ₁) (hS : ∀ i σ, S i σ → σ.H.length = γ.length)
    (turn : ∀ i d σi, src[i]? = some d → S i σi → ∃ locs, TgtOk G fi tgt d locs ∧ ∀ s, Fm G env { σi with loc := locs ++ σi.loc } γ s → wpAny (model G.prog G.w) A rest (fun fin s' => fin = .again (.compLoop e depth (.ref I) acc env) ∧ ∃ σ' wr', S (i + 1) σ' ∧ Spw G (env.locals :: γ) wr' s s' ∧ (∀ b ∈ wr', s.heap.get? b = none) ∧ Fm G env σ' γ s') bot s)
    (hR : ∀ σe s', S src.length σe → Spw G (env.locals :: γ) wr s₂ s' → Fm G env σe γ s' → R (.ok .next) s') : codeAny (model G.prog G.w) A (.compLoop e depth (.ref I) acc env) R s₂ := by
  refine codeAny_loop hq (fun k s' => ∃ (i : Nat) (σi : AS), i ≤ src.length ∧ S i σi ∧ k = src.length + 1 - i ∧ Spw G (env.locals :: γ) wr s₂ s' ∧ Fm G env σi γ s' ∧ St i s'.heap) (fun k s' hI => ?_) (src.length + 1) ⟨0, σ₁, Nat.zero_le _, h0, rfl, .refl, F₂, st⟩
  obtain ⟨i, σi, hi, hSi, rfl, spw, Fi, hst⟩ := hI
  rw [hund, hden]
  refine wpAny_noted ?_
  rw [hturn]
  refine wpAny_bind (wpAny_standAt (wpAny_bind ?_))
  have wokAt : ∀ {h : Heap}, (∀ b ∈ wr, ∃ o, h.get? b = some o ∧ ItObj o) → WrOk G env γ wr h := fun o => ⟨o, wok.nα, wok.nx, wok.ng, wok.nt⟩
  have hγF : ∀ a ∈ env.locals :: γ, ∀ o, s₂.heap.get? a = some o → ¬ Frz o := fun a ha => by
    rcases List.mem_cons.mp ha with rfl | ha
    · exact F₂.notL
    · exact F₂.footNot a (sub_foot a ha)
  by_cases hlt : i < src.length
  · refine It.item i _ _ _ hlt hst (spw.frzF F₂.gs hγF wok.obj) fun v h₂ tk₂ d hd rd mid k₂ => ?_
    have Fi₂ : Fm G env σi γ { s' with heap := h₂, toks := tk₂ } := Fi.iter (wokAt (It.obj _ _ hst)) k₂
    have spw₂ : Spw G (env.locals :: γ) wr s₂ { s' with heap := h₂, toks := tk₂ } := spw.next k₂ fun b hb => .inl hb
    refine wpAny_bind (It.go i v _ _ _ mid fun h₃ hst₃ k₃ => ?_)
    have Fi₃ : Fm G env σi γ { s' with heap := h₃, toks := tk₂ } := Fi₂.iter (wokAt (It.objM _ _ _ mid)) k₃
    have spw₃ : Spw G (env.locals :: γ) wr s₂ { s' with heap := h₃, toks := tk₂ } := spw₂.next k₃ fun b hb => .inl hb
    have rd₃ : RepC [] none h₃ d v := flat_keep k₃ (fun b hb o e f => by obtain ⟨o', h1, h2⟩ := It.objM _ _ _ mid b hb; rw [e] at h1; cases h1; exact h2.notFrz f) rd
    obtain ⟨locs, T, ht⟩ := turn i d σi hd hSi
    refine wpAny_bind (wpAny_mono (Fi₃.tgt E hA.hh T rd₃) (fun _ s₄ x => ?_) fun _ _ z => z.elim)
    obtain ⟨⟨h₄, tk₄, rfl, k₄, hs₄⟩, F₄⟩ := x
    have fpOff : ∀ b ∈ fp, b ∉ env.locals :: γ := fun b hb q => by
      have nα : b ∉ γ := (hfp b hb).2.elim (wok.nα b) fun q => q.1
      have nx : b ∉ xsOf env := (hfp b hb).2.elim (wok.nx b) fun q => q.2.1
      rcases List.mem_cons.mp q with rfl | q
      · exact nx (.head _)
      · exact nα q
    have fpLive : ∀ {s₅ : Shared}, Spw G (env.locals :: γ) wr s₂ s₅ → ∀ b ∈ fp, b ∉ wr → (s₅.heap.get? b).isSome := fun sp b hb hw => sp.live b hw (hfp b hb).1
    have st₄ : St (i + 1) h₄ := It.frame _ _ _ hst₃ fun b hb o e => k₄ b o (fun q => fpOff b hb (by rw [List.mem_singleton.mp q]; exact .head _)) e
    have sp₄' : Sp G (env.locals :: γ) { s' with heap := h₃, toks := tk₂ } { s' with heap := h₄, toks := tk₄ } := ⟨⟨h₄, tk₄, _, rfl⟩, fun b o hb _ e => k₄ b o (fun q => hb (by rw [List.mem_singleton.mp q]; exact .head _)) e, fun b e => by
      by_cases q : b = env.locals
      · rw [q]; exact hs₄
      · obtain ⟨o, ho⟩ := Option.isSome_iff_exists.mp e; show (h₄.get? b).isSome = true; rw [k₄ b o (by simpa using q) ho]; rfl⟩
    have spw₄ := spw₃.sp sp₄'
    refine wpAny_mono (ht _ F₄) (fun fin s₅ x => ?_) fun _ _ z => z.elim
    obtain ⟨rfl, σ', wr', hS', sp₅, hwr', F₅⟩ := x
    have hwrL : ∀ b ∈ wr, (h₄.get? b).isSome := fun b hb => by
      have hx := It.obj _ _ st₄ b hb
      obtain ⟨o, ho, _⟩ := hx; rw [ho]; rfl
    have spw₅ : Spw G (env.locals :: γ) wr s₂ s₅ := by
      obtain ⟨⟨h, tt, dr, e⟩, kp, lv⟩ := spw₄
      obtain ⟨⟨h5, t5, dr5, rfl⟩, kp5, lv5⟩ := sp₅
      refine ⟨⟨h5, t5, dr5, by rw [e]⟩, fun b o hf hw htb eo => ?_, fun b hw eo => ?_⟩
      · have e4 := kp b o hf hw htb eo
        exact kp5 b o hf (fun q => by have := hwr' b q; rw [this] at e4; cases e4) htb e4
      · have e4 := lv b hw eo
        exact lv5 b (fun q => by have := hwr' b q; rw [this] at e4; cases e4) e4
    have st₅ : St (i + 1) s₅.heap := It.frame _ _ _ st₄ fun b hb o e => by
      have hTB : b ∉ G.TB := (hfp b hb).2.elim (wok.nt b) fun q => q.2.2
      exact sp₅.keep b o (fpOff b hb) (fun q => by rw [hwr' b q] at e; cases e) hTB e
    exact ⟨rfl, src.length + 1 - (i + 1), by omega, i + 1, σ', hlt, hS', rfl, spw₅, F₅, st₅⟩
  · have hin : i = src.length := by omega
    subst hin
    refine It.done _ _ _ hst fun h₂ tk₂ k₂ => ?_
    exact wpAny_pure (hR σi _ hSi (spw.next k₂ fun b hb => .inl hb) (Fi.iter (wokAt (It.obj _ _ hst)) k₂))
theorem compStart1 {e : Expr} {g1 g2 : Comprehension} {it acc : Value} {prog : Program} {w : World} {R : Result → Shared → Prop} (hc : clausesOf e = [g1, g2]) (hg : (g2.is_async != 0) = false) (hf : Code.isFrame (.compStart e 1 it acc env) = false)
    (h0 : codeAny (model prog w) A (.compLoop e 1 it acc env) R s) (h : wpAny (model prog w) A (pyIter it) (fun it' s' => codeAny (model prog w) A (.compLoop e 1 it' acc env) R s') bot s) (hu : A.under (.compStart e 1 it acc env) = A) (hq : ∀ it', Code.quiet (.compLoop e 1 it' acc env) = true)
    (hd : (model prog w).den (.compStart e 1 it acc env) = (compStart e 1 it acc env).onRaise (fun x => do noteFrame x env; standAt theWindowsPlace)) : codeAny (model prog w) A (.compStart e 1 it acc env) R s := by
  refine codeAny_of_tree ?_
  rw [hu, hd]
  refine wpAny_notedAt ?_
  unfold compStart
  rw [hc]
  show wpAny _ _ (if (g2.is_async != 0) = true then _ else _) _ _ _
  rw [hg, if_neg (by simp)]
  refine wpAny_bind (wpAny_askSetting ?_)
  split
  · exact wpAny_pure ⟨hq _, h0⟩
  · refine wpAny_bind (wpAny_rule ?_)
    show wpAny _ _ (standAt g2.iter.pos >>= _) _ _ _
    refine wpAny_bind (wpAny_standAt (wpAny_bind (wpAny_mono h (fun it' s' h' => wpAny_pure ⟨hq _, h'⟩) fun _ _ x => x.elim)))
theorem Fm.locs {l l' c : List (Str × D)} {H : List Cont} (F : Fm G env ⟨l, c, H⟩ α s) (h : ∀ x d, l'.lookup x = some d → l.lookup x = some d) : Fm G env ⟨l', c, H⟩ α s :=
  ⟨F.gs, F.labs, let ⟨m, h1, r⟩ := F.loc; ⟨m, h1, fun x d e => r x d (h x d e)⟩, F.cel, F.cells, F.nd, F.la, F.ca, F.lg, F.cg⟩
theorem Spw.pre {F : List Addr} (x : Sp G F s s₁) (y : Spw G F wr s₁ s₂) : Spw G F wr s s₂ := by
  obtain ⟨⟨h, t, dr, rfl⟩, k, l⟩ := x
  obtain ⟨⟨h', t', dr', rfl⟩, k', l'⟩ := y
  exact ⟨⟨h', t', _, rfl⟩, fun b o hf hw ht e => k' b o hf hw ht (k b o hf ht e), fun b hw e => l' b hw (l b e)⟩
theorem flat_len {υ₁ υ₂ υ₃ : Type} {g : υ₁ → List υ₂} {p : υ₁ → υ₂ → Bool} {k : υ₁ → υ₂ → υ₃} : ∀ {l : List υ₁} {i : Nat} {a : υ₁} {j : Nat}, l[i]? = some a → ((l.take i).flatMap fun a => ((g a).filter (p a)).map (k a)).length + (((g a).take j).filter (p a)).length ≤ (l.flatMap g).length
  | [], _, _, _, h => by simp at h
  | b :: l, 0, a, j, h => by
    simp only [List.getElem?_cons_zero, Option.some.injEq] at h
    subst h
    simp only [List.take_zero, List.flatMap_nil, List.length_nil, List.flatMap_cons, List.length_append]
    have h1 := List.length_filter_le (p b) ((g b).take j)
    have h2 : ((g b).take j).length ≤ (g b).length := by rw [List.length_take]; exact Nat.min_le_right _ _
    omega
  | b :: l, i + 1, a, j, h => by
    have ih := flat_len (p := p) (k := k) (g := g) (l := l) (i := i) (a := a) (j := j) (by simpa using h)
    simp only [List.take_succ_cons, List.flatMap_cons, List.length_append, List.length_map]
    have h1 := List.length_filter_le (p b) (g b)
    omega
theorem Itr.later {I : Addr} {tgt : Expr} {h₀ h₁ : Heap} {src : List D} {St : Nat → Heap → Prop} {Mid : Nat → Value → Heap → Prop} (It : Itr G A I fp wr tgt h₀ src St Mid) (k : FrzKeep h₀ h₁) : Itr G A I fp wr tgt h₁ src St Mid :=
  { It with item := fun i s Q E hi st fk q => It.item i s Q E hi st (fun a o f e => fk a o f (k a o f e)) q }
/-- a comprehension of two clauses, the second with a test, in a frame without labels -/
theorem pe_comp2 {x y : Str} {px py pos : Pos} {elt iter1 iter2 test : Expr} {scope : Scope} {υ₁ υ₂ : Type} {f : υ₁ → D} {h : υ₂ → D} {l : List υ₁} {g : υ₁ → List υ₂} {p : υ₁ → υ₂ → Bool} {k : υ₁ → υ₂ → D}
    (c : CompOk fi scope) (hH : σ₁.H = []) (hx : (relF scope fi.scope).names.lookup x = some .local) (hy : (relF scope fi.scope).names.lookup y = some .local) (hxy : (x == y) = false) (hfl : ∀ a b, (k a b).flat = true)
    (hit1 : PI G n fi σ iter1 (.Name x px) (l.map f) σ₁)
    (hit2 : ∀ a ∈ l, ∀ outs, PI G n (fiC fi scope) ⟨[(x, f a)], celF scope σ₁, [.list outs]⟩ iter2 (.Name y py) ((g a).map h) ⟨[(x, f a)], celF scope σ₁, [.list outs]⟩)
    (ht : ∀ a ∈ l, ∀ b ∈ g a, ∀ outs, PT G n (fiC fi scope) ⟨[(y, h b), (x, f a)], celF scope σ₁, [.list outs]⟩ test (p a b) ⟨[(y, h b), (x, f a)], celF scope σ₁, [.list outs]⟩)
    (he : ∀ a ∈ l, ∀ b ∈ g a, ∀ outs, PE G n (fiC fi scope) ⟨[(y, h b), (x, f a)], celF scope σ₁, [.list outs]⟩ elt (k a b) ⟨[(y, h b), (x, f a)], celF scope σ₁, [.list outs]⟩)
    (hz : (l.flatMap g).length ≤ 1000000) (hs : ∀ env x, foldedSetIterable iter1 env x = pure x := by intro _ _; rfl) (hs2 : ∀ env x, foldedSetIterable iter2 env x = pure x := by intro _ _; rfl) :
    PE G n fi σ (.ListComp elt [⟨.Name x px, iter1, [], 0⟩, ⟨.Name y py, iter2, [test], 0⟩] scope pos) (.lst (l.flatMap fun a => ((g a).filter (p a)).map (k a))) σ₁ := .mk fun A env α s hA hE F => by
  show wpAny _ A (eval (.ListComp elt [⟨.Name x px, iter1, [], 0⟩, ⟨.Name y py, iter2, [test], 0⟩] scope pos) env) _ _ _
  rw [eval_ListComp]
  refine wpAny_comprehension_free (use := none) rfl (hs env) (closureFor_ok (c.cells hE)) c.kind c.locals (wpAny_mono (hit1.run A env α s hA hE F) (fun xv s₁ h₁ => wpAny_mono h₁ (fun it s₂ h₂ => ?_) fun _ _ e => e) fun _ _ e => e)
  obtain ⟨β, I, fp, wr, St, Mid, rfl, sp, hb, F₂, It, st, wok, hwr, hfp⟩ := h₂
  have hγ : α ++ β = [] := List.length_eq_zero_iff.mp (by rw [F₂.labs.len, hH]; rfl)
  obtain ⟨rfl, rfl⟩ := List.append_eq_nil_iff.mp hγ
  simp only [List.append_nil, List.nil_append] at F₂ wok hfp
  refine wpAny_newObj_type ?_
  obtain ⟨β1, sp1, hb1, F₃, r3⟩ := Post.labL (ds := []) (vs := []) (D₀ := s₂.heap.objs.size) (t := s₂.toks) (h' := s₂.heap.push { cls := .type "list", dict := none, data := .seq ([] : List Value).toArray }) F₂ (fun b o e => push_all _ b o e) get_size ⟨0, Heap.get?_push_size _ rfl⟩ (by simp only [RepsC])
  have hβ1 : β1 = [s₂.heap.objs.size] := by
    have hl := F₃.labs.len
    simp only [hH, List.nil_append, List.length_cons, List.length_nil] at hl
    simp only [RepC] at r3
    obtain ⟨a, α', e1, e2, e3⟩ := r3
    cases e1; cases e3
    rw [hH] at e2
    simp only [List.nil_append, List.length_nil] at e2
    revert hl e2
    match β1 with
    | [b] => intro _ e2; simp at e2; rw [e2]
    | [] => intro hl; simp at hl
    | _ :: _ :: _ => intro hl; simp at hl
  subst hβ1
  simp only [List.nil_append, hH] at F₃
  refine wpAny_newFunctionEnv c.cell (by intro y hy; simp at hy) (fun h₄ hns₄ hsb₄ => ?_) c.kind
  dsimp only at hns₄ hsb₄ ⊢
  generalize hH2 : s₂.heap.push { cls := .type "list", dict := none, data := .seq ([] : List Value).toArray } = H2 at hns₄ hsb₄ F₃ sp1 ⊢
  have hC : H2.objs.size = s₂.heap.objs.size + 1 := by rw [← hH2, Heap.size_push]
  have old2 : ∀ b o, s₂.heap.get? b = some o → H2.get? b = some o := fun b o e => by rw [← hH2]; exact push_all _ b o e
  have old3 : ∀ b o, H2.get? b = some o → h₄.get? b = some o := fun b o e => hsb₄.extBut b o (Nat.ne_of_lt (Heap.lt_size e)) (Heap.get?_push_of_some _ e)
  have hDC : s₂.heap.objs.size ≠ H2.objs.size := by rw [hC]; exact Nat.ne_of_lt (Nat.lt_succ_self _)
  have hD0 : s₂.heap.get? s₂.heap.objs.size = none := get_size
  have hC2 : H2.get? H2.objs.size = none := get_size
  have hC0 : s₂.heap.get? H2.objs.size = none := fresh_size (by rw [hC]; exact Nat.le_succ _)
  generalize hDD : s₂.heap.objs.size = D at F₃ hD0 hDC sp1 ⊢
  generalize hCC : H2.objs.size = C at hC2 hC0 hDC hns₄ ⊢
  clear hC hsb₄ hH2
  have hEc : EnvOk (compEnvC scope (clOf env scope.names []) C env) (fiC fi scope) := envC_ok c hE
  have F₄ : Fm G (compEnvC scope (clOf env scope.names []) C env) ⟨[], celF scope σ₁, [.list []]⟩ [D] { s₂ with heap := h₄, toks := s₂.toks + ([] : List (Str × Value)).length } := by
    have gs4 : Gs G h₄ := F₃.gs.all old3
    have lb4 : Labs G [D] h₄ [.list []] := F₃.labs.chg (ch := []) (fun b o _ e => old3 b o e) (fun _ h => nomatch h) (fun a o _ e => old3 a o e)
    exact F₃.comp (wr := []) (locs := []) (s' := { s₂ with heap := h₄, toks := s₂.toks + ([] : List (Str × Value)).length }) c hE ⟨⟨h₄, _, _, rfl⟩, fun b o _ _ _ e => old3 b o e, fun b _ e => by obtain ⟨o, ho⟩ := Option.isSome_iff_exists.mp e; show (h₄.get? b).isSome = true; rw [old3 b o ho]; rfl⟩ gs4 lb4
      ⟨fun _ h => (by cases h), fun _ h => (by cases h), fun _ h => (by cases h), fun _ h => (by cases h), fun _ h => (by cases h)⟩ hC2 hns₄ (fun _ _ e => by simp at e)
  have old4 : ∀ b o, s₂.heap.get? b = some o → h₄.get? b = some o := fun b o e => old3 b o (old2 b o e)
  have liveWr : ∀ b ∈ wr, ∃ o, s₂.heap.get? b = some o ∧ ItObj o := wok.obj
  have xsC : ∀ b, (s₂.heap.get? b).isSome → b ∉ xsOf env → b ∉ xsOf (compEnvC scope (clOf env scope.names []) C env) := fun b hl hn q => by
    rcases List.mem_cons.mp q with q | q
    · rw [show b = C from q, hC0] at hl; cases hl
    · obtain ⟨p, hp, rfl⟩ := List.mem_map.mp q
      exact hn (.tail _ (mem_cells (clOf_mem (c.cells hE) (fun _ h => by cases h) hp)))
  have notD : ∀ b, (s₂.heap.get? b).isSome → b ∉ [D] := fun b hl q => by rw [List.mem_singleton.mp q, hD0] at hl; cases hl
  have start : ∀ s₃ : Shared, s₃ = { s₂ with heap := h₄, toks := s₂.toks + ([] : List (Str × Value)).length } →
      codeAny (model G.prog G.w) A (.compLoop (.ListComp elt [⟨.Name x px, iter1, [], 0⟩, ⟨.Name y py, iter2, [test], 0⟩] scope pos) 0 (.ref I) (.ref D) (compEnvC scope (clOf env scope.names []) C env))
        (compPost (model G.prog G.w) A bot none (Post G env [] s σ₁ (RD (.lst (l.flatMap fun a => ((g a).filter (p a)).map (k a))))) (.ref D) C) s₃ := by
    rintro s₃ rfl
    refine clause_loop (n := n) (fi := fiC fi scope) (γ := [D]) (wr := wr) (fp := fp) (tgt := .Name x px) (src := l.map f) (St := St) (Mid := Mid) (σ₁ := ⟨[], celF scope σ₁, [.list []]⟩)
      (S := fun i σ => σ = ⟨[], celF scope σ₁, [.list ((l.take i).flatMap fun a => ((g a).filter (p a)).map (k a))]⟩) rfl rfl rfl rfl hA hEc (It.later fun a o _ e => old4 a o e) (It.frame _ _ _ st fun b _ o e => old4 b o e)
      ⟨fun b hb => let ⟨o, h1, h2⟩ := wok.obj b hb; ⟨o, old4 _ _ h1, h2⟩, fun b hb => notD b (by obtain ⟨o, h1, _⟩ := wok.obj b hb; rw [h1]; rfl), fun b hb => xsC b (by obtain ⟨o, h1, _⟩ := wok.obj b hb; rw [h1]; rfl) (wok.nx b hb), wok.ng, wok.nt⟩
      (fun b hb => ⟨by obtain ⟨o, ho⟩ := Option.isSome_iff_exists.mp (hfp b hb).1; show (h₄.get? b).isSome = true; rw [old4 b o ho]; rfl, (hfp b hb).2.imp id fun q => ⟨notD b (hfp b hb).1, xsC b (hfp b hb).1 q.2.1, q.2.2⟩⟩)
      F₄ rfl (fun i σ e => by rw [e]; rfl) ?_ ?_
    · rintro i d σi hd rfl
      rw [List.getElem?_map] at hd
      obtain ⟨a, ha, rfl⟩ := Option.map_eq_some_iff.mp hd
      have hal : a ∈ l := List.mem_of_getElem? ha
      refine ⟨[(x, f a)], tgt_name hx, fun s₅ F₅ => ?_⟩
      have F₅' : Fm G (compEnvC scope (clOf env scope.names []) C env) ⟨[(x, f a)], celF scope σ₁, [.list ((l.take i).flatMap fun a => ((g a).filter (p a)).map (k a))]⟩ [D] s₅ := F₅
      generalize hout : ((l.take i).flatMap fun a => ((g a).filter (p a)).map (k a)) = outs at F₅'
      refine wpAny_bind (wpAny_tests_nil ?_)
      show wpAny _ _ (eval iter2 (compEnvC scope (clOf env scope.names []) C env) >>= fun xv => standAt iter2.pos >>= fun _ => foldedSetIterable iter2 (compEnvC scope (clOf env scope.names []) C env) xv >>= fun xv => holding [xv] (pyIter xv) >>= fun it =>
        runOwn (.compStart (.ListComp elt [⟨.Name x px, iter1, [], 0⟩, ⟨.Name y py, iter2, [test], 0⟩] scope pos) 1 it (.ref D) (compEnvC scope (clOf env scope.names []) C env)) (compEnvC scope (clOf env scope.names []) C env) >>= fun _ =>
        pure (PySem.Fin.again (.compLoop (.ListComp elt [⟨.Name x px, iter1, [], 0⟩, ⟨.Name y py, iter2, [test], 0⟩] scope pos) 0 (.ref I) (.ref D) (compEnvC scope (clOf env scope.names []) C env)))) _ _ _
      refine wpAny_bind (wpAny_mono ((hit2 a hal outs).run A _ [D] s₅ hA hEc F₅') (fun xv s₆ h₆ => wpAny_bind (wpAny_standAt ?_)) fun _ _ z => z.elim)
      rw [hs2]
      refine wpAny_bind (wpAny_pure (wpAny_bind (wpAny_holding (wpAny_mono h₆ (fun it2 s₇ h₇ => wpAny_bind ?_) fun _ _ z => z.elim))))
      obtain ⟨β2, I2, fp2, wr2, St2, Mid2, rfl, sp2, hb2, F₇, It2, st2, wok2, hwr2, hfp2⟩ := h₇
      have hβ2 : β2 = [] := none_of_len F₇.labs rfl
      subst hβ2
      rw [List.append_nil] at F₇ wok2 hfp2
      have inner : codeAny (model G.prog G.w) A (.compLoop (.ListComp elt [⟨.Name x px, iter1, [], 0⟩, ⟨.Name y py, iter2, [test], 0⟩] scope pos) 1 (.ref I2) (.ref D) (compEnvC scope (clOf env scope.names []) C env))
          (fun r s' => r = .ok .next ∧ Spw G (C :: [D]) wr2 s₇ s' ∧ Fm G (compEnvC scope (clOf env scope.names []) C env) ⟨[], celF scope σ₁, [.list (outs ++ ((g a).filter (p a)).map (k a))]⟩ [D] s') s₇ := by
        refine clause_loop (n := n) (fi := fiC fi scope) (γ := [D]) (wr := wr2) (fp := fp2) (tgt := .Name y py) (src := (g a).map h) (St := St2) (Mid := Mid2) (σ₁ := ⟨[(x, f a)], celF scope σ₁, [.list outs]⟩)
          (S := fun j σ => σ = ⟨[(x, f a)], celF scope σ₁, [.list (outs ++ (((g a).take j).filter (p a)).map (k a))]⟩) rfl rfl rfl rfl hA hEc It2 st2 wok2 hfp2 F₇ (by simp) (fun i σ e => by rw [e]; rfl) ?_ ?_
        · rintro j d2 σj hd2 rfl
          rw [List.getElem?_map] at hd2
          obtain ⟨b, hbj, rfl⟩ := Option.map_eq_some_iff.mp hd2
          have hbl : b ∈ g a := List.mem_of_getElem? hbj
          have hlen := flat_len (p := p) (k := k) (g := g) (j := j) ha
          rw [hout] at hlen
          have htk : (g a).take (j + 1) = (g a).take j ++ [b] := by rw [List.take_add_one, hbj]; rfl
          refine ⟨[(y, h b)], tgt_name hy, fun s₈ F₈ => ?_⟩
          have F₈' : Fm G (compEnvC scope (clOf env scope.names []) C env) ⟨[(y, h b), (x, f a)], celF scope σ₁, [.list (outs ++ (((g a).take j).filter (p a)).map (k a))]⟩ [D] s₈ := F₈
          generalize hou2 : outs ++ (((g a).take j).filter (p a)).map (k a) = ou2 at F₈'
          have hol : ou2.length ≤ 1000000 := by rw [← hou2]; simp only [List.length_append, List.length_map]; omega
          have sub : ∀ {s₉ : Shared} {ds : List Mine.D}, Fm G (compEnvC scope (clOf env scope.names []) C env) ⟨[(y, h b), (x, f a)], celF scope σ₁, [.list ds]⟩ [D] s₉ → Fm G (compEnvC scope (clOf env scope.names []) C env) ⟨[(x, f a)], celF scope σ₁, [.list ds]⟩ [D] s₉ := fun F => F.locs fun z d e => by
            rw [List.lookup_cons] at e
            split at e
            · rename_i q
              cases e
              have hzy : (z == y) = false := by rw [beq_iff_eq.mp q]; exact hxy
              rw [List.lookup_cons, hzy, List.lookup_cons, q]
            · simp at e
          have toC : ∀ {s₉ : Shared}, Sp G [D] s₈ s₉ → Spw G (C :: [D]) [] s₈ s₉ := fun sp => Spw.refl.sp (sp.narrow fun b hb => .inl (.tail _ hb))
          refine wpAny_bind (wpAny_tests_one (seq2 ((ht a hal b hbl ou2).run A _ [D] s₈ hA hEc F₈') fun tb β3 s₉ sp9 hb9 F₉ rb => ?_))
          subst rb
          have hβ3 : β3 = [] := none_of_len F₉.labs rfl
          subst hβ3
          rw [List.append_nil] at F₉
          cases hp : p a b with
          | false =>
            refine wpAny_pure ⟨rfl, _, [], ?_, toC sp9, (fun _ h => nomatch h), sub F₉⟩
            rw [htk, List.filter_append, List.filter_cons, hp, ← hou2]
            simp
          | true =>
            show wpAny _ _ ((eval elt (compEnvC scope (clOf env scope.names []) C env) >>= fun v => call (.builtin "list.append") [.ref D, v] >>= fun _ => pure ()) >>= fun _ => pure (PySem.Fin.again (.compLoop (.ListComp elt [⟨.Name x px, iter1, [], 0⟩, ⟨.Name y py, iter2, [test], 0⟩] scope pos) 1 (.ref I2) (.ref D) (compEnvC scope (clOf env scope.names []) C env)))) _ _ _
            refine wpAny_bind (wpAny_bind (seq2 ((he a hal b hbl ou2).run A _ [D] s₉ hA hEc F₉) fun v β4 s₁₀ sp10 hb10 F₁₀ rv => wpAny_bind ?_))
            have hβ4 : β4 = [] := none_of_len F₁₀.labs rfl
            subst hβ4
            rw [List.append_nil] at F₁₀ rv
            have ca := (c_append (G := G) (n := n) (fi := fiC fi scope) (σ := ⟨[(y, h b), (x, f a)], celF scope σ₁, [.list ou2]⟩) (i := 0) (x := k a b) rfl (hfl a b) hol).run A _ [D] s₁₀ [.ref D, v] [] hA hEc F₁₀
              (by simp only [RepsC]; exact ⟨_, _, rfl, by simp only [RepC]; exact ⟨D, _, rfl, rfl, rfl⟩, _, _, rfl, rv, rfl⟩) (by simp only [RepsC])
            refine wpAny_mono ca (fun _ s₁₁ z => ?_) fun _ _ z => z.elim
            obtain ⟨β5, sp11, hb11, F₁₁, _⟩ := z
            have hβ5 : β5 = [] := none_of_len F₁₁.labs rfl
            subst hβ5
            rw [List.append_nil] at F₁₁
            refine wpAny_pure (wpAny_pure ⟨rfl, _, [], ?_, toC ((sp9.trans sp10).trans sp11), (fun _ h => nomatch h), sub F₁₁⟩)
            rw [htk, List.filter_append, List.filter_cons, hp, ← hou2]
            simp
        · rintro σe s' rfl spw F'
          refine ⟨rfl, spw, ?_⟩
          rw [List.length_map, List.take_length] at F'
          exact F'.locs fun z d e => by simp at e
      have fin : ∀ (r : Result) (s' : Shared), (r = .ok .next ∧ Spw G (C :: [D]) wr2 s₇ s' ∧ Fm G (compEnvC scope (clOf env scope.names []) C env) ⟨[], celF scope σ₁, [.list (outs ++ ((g a).filter (p a)).map (k a))]⟩ [D] s') → (match r with | .ok fl => (fun _ s' => wpAny (model G.prog G.w) A (pure (PySem.Fin.again (.compLoop (.ListComp elt [⟨.Name x px, iter1, [], 0⟩, ⟨.Name y py, iter2, [test], 0⟩] scope pos) 0 (.ref I) (.ref D) (compEnvC scope (clOf env scope.names []) C env)))) (fun fin s' => fin = .again (.compLoop (.ListComp elt [⟨.Name x px, iter1, [], 0⟩, ⟨.Name y py, iter2, [test], 0⟩] scope pos) 0 (.ref I) (.ref D) (compEnvC scope (clOf env scope.names []) C env)) ∧ ∃ σ' wr', σ' = (⟨[], celF scope σ₁, [.list ((l.take (i + 1)).flatMap fun a => ((g a).filter (p a)).map (k a))]⟩ : AS) ∧ Spw G ((compEnvC scope (clOf env scope.names []) C env).locals :: [D]) wr' s₅ s' ∧ (∀ b ∈ wr', s₅.heap.get? b = none) ∧ Fm G (compEnvC scope (clOf env scope.names []) C env) σ' [D] s') bot s') fl s' | .error e => cameBackBy (model G.prog G.w) A (compEnvC scope (clOf env scope.names []) C env) bot e s') := by
        rintro r s' ⟨rfl, spw, F'⟩
        refine wpAny_pure ⟨rfl, _, wr2, ?_, Spw.pre (sp2.narrow fun b hb => .inl (.tail _ hb)) spw, hwr2, F'⟩
        have htk : l.take (i + 1) = l.take i ++ [a] := by rw [List.take_add_one, ha]; rfl
        rw [htk, List.flatMap_append, hout]
        simp
      refine wpAny_runOwn (compStart1 rfl rfl rfl ?_ ?_ rfl (fun _ => rfl) rfl)
      · exact codeAny_mono inner fin
      · exact It2.self 0 _ _ _ st2 (codeAny_mono inner fin)
    · rintro σe s' rfl spw F'
      rw [List.length_map, List.take_length] at F'
      obtain ⟨m, hm, _⟩ := F'.loc
      refine ⟨m, hm, fun h' hsb => ?_⟩
      have k1 : ∀ b o, b ∉ [C] → s'.heap.get? b = some o → h'.get? b = some o := fun b o hb e => hsb.extBut b o (fun q => hb (by simp [q])) e
      have nf : ∀ b ∈ [C], ∀ o, s'.heap.get? b = some o → ¬ Frz o := fun b hb => by rw [List.mem_singleton.mp hb]; exact ns_notFrz hm
      have fk : FrzKeep s'.heap h' := fun a o f e => k1 a o (fun q => nf a q o e f) e
      have cn3 : G.g0.get? C = none := F'.lg
      have cn4 : C ∉ G.TB := F'.ltb
      have gs' : Gs G h' := F'.gs.chg k1 (fun b hb => by rw [List.mem_singleton.mp hb]; exact cn3) (fun b hb => by rw [List.mem_singleton.mp hb]; exact cn4) nf
      have spw' : Spw G [] wr s₂ { s' with heap := h' } := by
        obtain ⟨⟨hh, tt, dr, rfl⟩, kp, lv⟩ := spw
        refine ⟨⟨h', tt, dr, rfl⟩, fun b o _ hw htb e => ?_, fun b hw e => ?_⟩
        · have hbC : b ∉ [C] := fun q => by rw [List.mem_singleton.mp q, hC0] at e; cases e
          refine k1 b o hbC (kp b o (fun q => ?_) hw htb (old4 b o e))
          rcases List.mem_cons.mp q with q | q
          · exact hbC (List.mem_singleton.mpr (show b = C from q))
          · exact notD b (by rw [e]; rfl) q
        · have hbC : b ∉ [C] := fun q => by rw [List.mem_singleton.mp q, hC0] at e; cases e
          obtain ⟨o, ho⟩ := Option.isSome_iff_exists.mp e
          obtain ⟨o', ho'⟩ := Option.isSome_iff_exists.mp (lv b hw (by show (h₄.get? b).isSome = true; rw [old4 b o ho]; rfl))
          show (h'.get? b).isSome = true
          rw [k1 b o' hbC ho']; rfl
      have lb' : Labs G [] h' σ₁.H := by rw [hH]; exact ⟨rfl, .nil, fun i a c h => by simp at h, fun _ h => (by cases h), fun _ h => (by cases h)⟩
      have F'' := F₂.reframe spw' gs' lb' wok
      obtain ⟨vs, hl, hr⟩ := F'.labs.ok 0 D _ rfl rfl
      obtain ⟨dn1, dn2, dn3, dn4⟩ := F₂.freshNot hD0
      obtain ⟨kk, ho⟩ := hl
      refine ⟨[], sp.spw spw' hwr, (fun _ h => nomatch h), F'', ?_⟩
      simp only [RepC]
      exact ⟨D, vs, _, rfl, rfl, (fun q => nomatch q), dn2, ⟨kk, k1 D _ (fun q => hDC (List.mem_singleton.mp q)) ho⟩, (hr.flat fk).flatX⟩
  exact codeAny_compStart_list (start _ rfl) (It.self 0 _ _ _ (It.frame _ _ _ st fun b _ o e => old4 b o e) (start _ rfl))
end
end
section
section
variable {τ υ : Type} {G : Gnd} {n m : Nat} {fi : Fi} {env : Env} {A : Around} {α β wr fp : List Addr} {s s₀ s₁ s₂ s' : Shared} {σ σ' σ₁ σ₂ σ₃ σ₄ : AS} {h' : Heap} {t : Nat}
theorem clL_none {cs : List (Str × Addr)} : ∀ {names : List (Str × NameKind)} {acc : List (Str × Addr)}, (∀ x ∈ names, x.2 ≠ .free) → clL cs names acc = acc
  | [], acc, _ => rfl
  | (x, k) :: r, acc, h => by
    have hk : (k == NameKind.free) = false := by
      have := h _ (.head _)
      cases k <;> first | rfl | exact absurd rfl this
    rw [clL, hk]
    exact clL_none fun y hy => h y (.tail _ hy)
/-- a lambda within a body: a function without closure -/
theorem pe_lambda (ok : G.Ok) {q : Mk} (hq : q ∈ G.mks) {ql : Str} (hcode : fi.code = some (.ref q.c, ql)) {params : Arguments} {body : Expr} {scope : Scope} {pos : Pos} (hpos : pos = q.pos) (hqual : ql ++ "<lambda>" = q.qual)
    (hdef : ∀ env, defaultsOf params env = ([], []) := by intro _; rfl) (hfree : ∀ x ∈ scope.names, x.2 ≠ .free := by decide) : PE G n fi σ (.Lambda params body scope pos) (.fn "<lambda>" q.qual params (.expr body) scope) σ := .mk fun A env α s hA E F => by
  subst hpos
  show wpAny _ A (eval _ env) _ _ _
  refine kla_eval (hdef env) ?_
  rw [(E.code _ _ hcode).2, hqual]
  have hcl : closureFor scope env = pure [] := by
    rw [closureFor_ok (fun x hx hf => absurd hf (hfree x hx)), clOf_eq, clL_none hfree]
  obtain ⟨hgP, hb⟩ := builtinsAt ok F.gs hq
  obtain ⟨ps, hP, hps⟩ := F.gs.tabs q hq
  have hPT : q.P ∈ G.TB := List.mem_map_of_mem hq
  have hc := (E.code _ _ hcode).1
  have C := (ok.hd q hq).keeps F.gs.base
  rcases hps with rfl | ⟨c', rfl, hr⟩
  · refine kla_makeFunction hcl E.gl (ok.T.g.keeps F.gs.base) hc C hP trivial rfl hgP hb fun c' ctv h' tk hx hge hlt hrec htb => ?_
    have hup : ∀ b o, b ≠ q.P → s.heap.get? b = some o → (h'.push (kla_obj "<lambda>" q.qual params body scope [] ((G.mg "__name__").getD .none) c' ctv)).get? b = some o := fun b o hb e => Heap.get?_push_of_some _ (hx b o hb e)
    have hrec' := hrec.push (kla_obj "<lambda>" q.qual params body scope [] ((G.mg "__name__").getD .none) c' ctv)
    have hP' := Heap.get?_push_of_some (kla_obj "<lambda>" q.qual params body scope [] ((G.mg "__name__").getD .none) c' ctv) htb
    have F' := F.tab (t := tk) ok hq hup hP' hrec'
    refine ⟨[], ⟨⟨_, _, _, rfl⟩, fun b o _ ht e => hup b o (fun z => ht (z ▸ hPT)) e, fun b e => ?_⟩, (fun _ h => nomatch h), by rw [List.append_nil]; exact F', ?_⟩
    · by_cases z : b = q.P
      · rw [z]; show (Heap.get? _ _).isSome = true; rw [hP']; rfl
      · obtain ⟨o, ho⟩ := Option.isSome_iff_exists.mp e; show (Heap.get? _ _).isSome = true; rw [hup b o z ho]; rfl
    · show RepC _ _ _ (.fn _ _ _ _ _) _
      simp only [RepC]
      exact ⟨_, _, _, _, _, rfl, Heap.get?_push_size _ rfl, hrec'⟩
  · refine kla_makeFunctionHit hcl E.gl (ok.T.g.keeps F.gs.base) hc C hP (by simp [TriplesOk, rawInt]) (cv := .ref c') (by simp [codeAmong, rawInt]) hb fun ctv h' tk hk hsz => ?_
    have hup : ∀ b o, s.heap.get? b = some o → (h'.push (kla_obj "<lambda>" q.qual params body scope [] ((G.mg "__name__").getD .none) c' ctv)).get? b = some o := fun b o e => Heap.get?_push_of_some _ (hk b o e)
    refine ⟨[], Sp.all hup, (fun _ h => nomatch h), by rw [List.append_nil]; exact F.all (t := tk) hup, ?_⟩
    show RepC _ _ _ (.fn _ _ _ _ _) _
    simp only [RepC]
    exact ⟨_, _, _, _, _, rfl, Heap.get?_push_size _ rfl, frz_code (fun a o _ e => hup a o e) hr⟩
/-- the call of such a function, seen from the frame that holds it -/
theorem lam_call (ok : G.Ok) {name qual : Str} {params : Arguments} {body : Expr} {scope : Scope} {ds : List D} {d : D}
    (bs : List (Str × D)) (hbind : ∀ (s : Shared) (X : List Addr) (c : Option (List Addr)) (vals : List Value) (doc pm cdv ctv : Value), RepsC X c s.heap ds vals →
      ∃ binds, BindsTo s { name, qualname := qual, params, body := .expr body, scope, globals := mainGlobals, closure := [], defaults := .none, kwdefaults := .none, doc, pyModule := pm, annotations := none, code := cdv, closureTuple := ctv, builtins := builtinsNs } ⟨vals, []⟩ binds ∧ binds.map (·.1) = bs.map (·.1) ∧ RepsC X c s.heap (bs.map (·.2)) (binds.map (·.2)))
    (hkind : (bs.all fun p => scope.names.lookup p.1 == some .local) = true) (hnc : ∀ x ∈ scope.names, x.2 ≠ .cell) (hfl : d.flat = true)
    (hbody : ∀ cv, PE G n ⟨scope, some (cv, qual ++ ".<locals>."), false, some []⟩ ⟨bs.reverse, [], σ.H⟩ body d ⟨bs.reverse, [], σ.H⟩)
    (hco : scope.isCoroutine = false := by rfl) (hgen : scope.isGenerator = false := by rfl) (hk : scope.kind = .function := by rfl) :
    ∀ A env α s f vals, OKA (n + 1) A → EnvOk env fi → Fm G env σ α s → Rep env α s.heap (.fn name qual params (.expr body) scope) f → Reps env α s.heap ds vals → wpAny (model G.prog G.w) A (call f vals) (Post G env α s σ (RD d)) bot s := fun A env α s fv vals hA hE F rf ra => by
  simp only [RepC] at rf
  obtain ⟨f, doc, pm, cdv, ctv, rfl, hobj, hcode⟩ := rf
  obtain ⟨binds, hB, hn, hr⟩ := hbind s _ _ vals doc pm cdv ctv ra
  refine wpAny_call (kla_callFunE hA.room hobj rfl hco hgen rfl hcode (hB _ _ _ _ ?_))
  refine wpAny_newFunctionEnv hnc (fun x hx => ?_) (fun h₁ hns hsb => ?_) hk
  · have : x.1 ∈ bs.map (·.1) := by rw [← hn]; exact List.mem_map_of_mem hx
    obtain ⟨p, hp, e⟩ := List.mem_map.mp this
    have := List.all_eq_true.mp hkind p hp
    rw [e] at this
    simpa using this
  have hLf : s.heap.get? s.heap.objs.size = none := fresh_size (Nat.le_refl _)
  have keep : ∀ b o, s.heap.get? b = some o → h₁.get? b = some o := fun b o e => hsb.extBut b o (Nat.ne_of_lt (Heap.lt_size e)) (Heap.get?_push_of_some _ e)
  refine ⟨(ok.T.nolimit.keeps F.gs.base).keeps keep, kla_codeExpr ?_⟩
  generalize hL : s.heap.objs.size = L at hns hsb hLf ⊢
  have hEi : EnvOk (newEnv scope L mainGlobals [] (qual ++ ".<locals>.") (some f) cdv none builtinsNs) ⟨scope, some (cdv, qual ++ ".<locals>."), false, some []⟩ :=
    ⟨rfl, rfl, rfl, hk, fun c q e => by cases e; exact ⟨rfl, rfl⟩, (fun h => nomatch h), fun c e => by cases e; rfl⟩
  obtain ⟨n1, n2, n3, n4⟩ := F.freshNot hLf
  have fk : FrzKeep s.heap h₁ := fun a o _ e => keep a o e
  have lift : ∀ {d : D} {v : Value}, Rep env α s.heap d v → RepC [L] (some α) h₁ d v := fun {d v} r => by
    refine stillα fk (fun _ _ a o _ _ _ e => keep a o e) (r.liftY fun a o ho hx q => ?_)
    rw [List.mem_singleton.mp q, hLf] at ho; cases ho
  have Fi : Fm G (newEnv scope L mainGlobals [] (qual ++ ".<locals>.") (some f) cdv none builtinsNs) ⟨bs.reverse, [], σ.H⟩ α { s with heap := h₁, toks := s.toks + binds.length } := by
    refine ⟨F.gs.all keep, F.labs.chg (ch := []) (fun b o _ e => keep b o e) (fun _ h => nomatch h) fk, ⟨_, hns, fun x d e => ?_⟩, fun x d e => by simp at e, (fun c hc => nomatch hc), List.nodup_nil, n1, (fun c hc => nomatch hc), n3, (fun c hc => nomatch hc)⟩
    obtain ⟨v, h1, h2⟩ := lookup_pair (l1 := bs.reverse) (l2 := binds.reverse) (by rw [List.map_reverse, List.map_reverse, hn]) (by rw [List.map_reverse, List.map_reverse]; exact hr.reverse) x d e
    exact ⟨v, h1, lift h2⟩
  refine wpAny_mono ((hbody cdv).run _ _ α _ hA.deeper hEi Fi) (fun v s₂ x => ?_) fun _ _ x => x.elim
  obtain ⟨β, sp, hb, F2, r⟩ := x
  have hβ : β = [] := none_of_len F2.labs (by rw [F.labs.len])
  subst hβ
  have spA : Sp G α s s₂ := by
    obtain ⟨⟨h₂, t₂, dr, rfl⟩, kp, lv⟩ := sp
    exact ⟨⟨h₂, t₂, _, rfl⟩, fun b ob hb' ht e => kp b ob hb' ht (keep b ob e), fun b e => lv b (by obtain ⟨ob, h1⟩ := Option.isSome_iff_exists.mp e; show (h₁.get? b).isSome = true; rw [keep b ob h1]; rfl)⟩
  refine ⟨[], spA, (fun _ h => nomatch h), F.step (H' := σ.H) F2.gs spA (fun _ h => nomatch h) F2.labs, ?_⟩
  exact (RepC.dn hfl r).flatX.up
end
end
section
/-! sorted by a key that makes pairs -/
noncomputable def runT {α : Type} (lt : Nat → Nat → Bool) : KasT α → α
  | .ret a => a
  | .ask i j k => runT lt (k (lt i j))
noncomputable def inR {α : Type} (n : Nat) (lt : Nat → Nat → Bool) : KasT α → Bool
  | .ret _ => true
  | .ask i j k => decide (i < n) && decide (j < n) && inR n lt (k (lt i j))
theorem kas_pure {α : Type} {cmp : Nat → Nat → (Bool → Shared → Prop) → Shared → Prop} {n : Nat} {lt : Nat → Nat → Bool} {s : Shared} {Q : α → Shared → Prop} (h : ∀ i j (C : Bool → Shared → Prop), i < n → j < n → C (lt i j) s → cmp i j C s) :
    ∀ t : KasT α, inR n lt t = true → Q (runT lt t) s → t.kasWp cmp Q s
  | .ret a, _, q => q
  | .ask i j k, r, q => by
    simp only [inR, Bool.and_eq_true, decide_eq_true_eq] at r
    show cmp i j (fun b s' => (k b).kasWp cmp Q s') s
    exact h i j _ r.1.1 r.1.2 (kas_pure h (k (lt i j)) r.2 q)
noncomputable def noHeap : Heap := { objs := #[] }
theorem noHeap_get {a : Addr} : noHeap.get? a = none := Heap.get?_none_of_le (Nat.zero_le _)
noncomputable def allBut (h : Heap) (L : Addr) : List (Addr × Obj) := (List.range h.objs.size).filterMap fun a => if a = L then none else (h.get? a).map fun o => (a, o)
theorem allBut_mem {h : Heap} {L a : Addr} {o : Obj} : (a, o) ∈ allBut h L ↔ a ≠ L ∧ h.get? a = some o := by
  unfold allBut
  rw [List.mem_filterMap]
  constructor
  · rintro ⟨b, hb, e⟩
    split at e
    · cases e
    · rename_i q
      obtain ⟨o', h1, h2⟩ := Option.map_eq_some_iff.mp e
      cases h2
      exact ⟨q, h1⟩
  · rintro ⟨h1, h2⟩
    exact ⟨a, List.mem_range.mpr (Heap.lt_size h2), by rw [if_neg h1, h2]; rfl⟩
theorem fm_nodup {f : Addr → Option (Addr × Obj)} (hf : ∀ a p, f a = some p → p.1 = a) : ∀ {l : List Addr}, l.Nodup → ((l.filterMap f).map (·.1)).Nodup
  | [], _ => by simp
  | a :: l, nd => by
    have nd' := List.nodup_cons.mp nd
    have ih := fm_nodup hf nd'.2
    rw [List.filterMap_cons]
    cases e : f a with
    | none => exact ih
    | some p =>
      show (p.1 :: (l.filterMap f).map (·.1)).Nodup
      refine List.nodup_cons.mpr ⟨fun q => ?_, ih⟩
      obtain ⟨p', h1, h2⟩ := List.mem_map.mp q
      obtain ⟨b, h3, h4⟩ := List.mem_filterMap.mp h1
      have h5 := hf b p' h4
      have h6 := hf a p e
      rw [h5, h6] at h2
      exact nd'.1 (h2 ▸ h3)
theorem allBut_nodup (h : Heap) (L : Addr) : ((allBut h L).map (·.1)).Nodup := by
  unfold allBut
  refine fm_nodup (fun a p e => ?_) List.nodup_range
  split at e
  · cases e
  · obtain ⟨o', h1, h2⟩ := Option.map_eq_some_iff.mp e
    rw [← h2]
theorem allBut_news {h : Heap} {L : Addr} : News noHeap L h (allBut h L) := fun p hp => by
  obtain ⟨a, o⟩ := p
  have := allBut_mem.mp hp
  exact ⟨this.2, this.1, noHeap_get⟩
theorem updF_ex {d : Addr} {o : Obj} : ∀ {l : List (Addr × Obj)}, (l.map (·.1)).Nodup → (d, o) ∈ l → ∃ g, UpdF d o l g ∧ ∀ o', (d, o') ∈ g o' ∧ ∀ p ∈ l, p.1 ≠ d → p ∈ g o'
  | [], _, h => by simp at h
  | p :: r, nd, h => by
    simp only [List.map_cons, List.nodup_cons] at nd
    by_cases q : p.1 = d
    · have hp : p = (d, o) := by
        rcases List.mem_cons.mp h with h | h
        · exact h.symm
        · exact absurd (List.mem_map.mpr ⟨(d, o), h, rfl⟩) (q ▸ nd.1)
      subst hp
      refine ⟨_, .head fun p' hp' z => nd.1 (List.mem_map.mpr ⟨p', hp', z⟩), fun o' => ⟨.head _, fun p' hp' z => ?_⟩⟩
      rcases List.mem_cons.mp hp' with rfl | hp'
      · exact absurd rfl z
      · exact .tail _ hp'
    · rcases List.mem_cons.mp h with h | h
      · exact absurd (by rw [← h]) q
      · obtain ⟨g, h1, h2⟩ := updF_ex nd.2 h
        refine ⟨_, .tail q h1, fun o' => ⟨.tail _ (h2 o').1, fun p' hp' z => ?_⟩⟩
        rcases List.mem_cons.mp hp' with rfl | hp'
        · exact .head _
        · exact .tail _ ((h2 o').2 p' hp' z)
section
variable {τ υ : Type} {G : Gnd} {n m : Nat} {fi : Fi} {env : Env} {A : Around} {α β wr fp : List Addr} {s s₀ s₁ s₂ s' : Shared} {σ σ' σ₁ σ₂ σ₃ σ₄ : AS} {h' : Heap} {t : Nat} {mm : Str → Option Value}
structure KL (L : Addr) (mm : Str → Option Value) (s s' : Shared) : Prop where
  same : ∃ h tk dr, s' = { s with heap := h, toks := tk, drawn := dr }
  ns : s'.heap.Ns L mm
  keep : ∀ b o, b ≠ L → s.heap.get? b = some o → s'.heap.get? b = some o
theorem KL.fr {L : Addr} (k : KL L mm s s') : Fr noHeap L s'.heap mm := ⟨k.ns, (fun b o e => by rw [noHeap_get] at e; cases e), Nat.zero_le _⟩
theorem KL.frz {L : Addr} (hL : ∀ o, s.heap.get? L = some o → ¬ Frz o) (k : KL L mm s s') : FrzKeep s.heap s'.heap := fun a o f e => k.keep a o (fun q => hL o (q ▸ e) f) e
/-- one list changes: what the kit's lemmas ask and give -/
theorem KL.upd {L kS : Addr} {o : Obj} (hl : ∀ b o, s.heap.get? b = some o → b ≠ kS) (k : KL L mm s s') (hk : s'.heap.get? kS = some o) (hkL : kS ≠ L) : ∃ g, UpdF kS o (allBut s'.heap L) g ∧ ∀ h' o', Fr noHeap L h' mm → News noHeap L h' (g o') →
    KL L mm s { s' with heap := h' } ∧ h'.get? kS = some o' ∧ ∀ b ob, b ≠ L → b ≠ kS → s'.heap.get? b = some ob → h'.get? b = some ob := by
  obtain ⟨g, h1, h2⟩ := updF_ex (allBut_nodup s'.heap L) (allBut_mem.mpr ⟨hkL, hk⟩)
  refine ⟨g, h1, fun h' o' F N => ?_⟩
  have kp : ∀ b ob, b ≠ L → b ≠ kS → s'.heap.get? b = some ob → h'.get? b = some ob := fun b ob hb hk e => (N (b, ob) ((h2 o').2 _ (allBut_mem.mpr ⟨hb, e⟩) hk)).1
  obtain ⟨h, tk, dr, rfl⟩ := k.same
  exact ⟨⟨⟨h', tk, dr, rfl⟩, F.ns, fun b ob hb e => kp b ob hb (hl b ob e) (k.keep b ob hb e)⟩, (N _ (h2 o').1).1, kp⟩
theorem KL.fm (F : Fm G env σ α s) (hr : ∀ x d, σ.loc.lookup x = some d → ∃ v, mm x = some v ∧ Rep env α s.heap d v) (k : KL env.locals mm s s') : Fm G env σ α s' := by
  obtain ⟨h', tk, dr, rfl⟩ := k.same
  have hn := k.ns
  have hs := k.keep
  dsimp only at hn hs
  obtain ⟨gs, lb, fk, lk⟩ := F.one (t := 0) (a := env.locals) (by obtain ⟨o, _, _, ho, _⟩ := hn; rw [ho]; rfl) (fun b o hb e => hs b o hb e) (.head _)
  have g : ∀ {d : D} {v : Value}, Rep env α s.heap d v → Rep env α h' d v := fun {d v} r => by
    have := RepC.still (c' := some (α ++ [])) fk lk (grow_of fun _ h => nomatch h) r
    rwa [List.append_nil] at this
  refine ⟨gs, lb, ⟨_, hn, fun y e he => ?_⟩, fun y e he => ?_, fun c hc => ?_, F.nd, F.la, F.ca, F.lg, F.cg⟩
  · obtain ⟨u, h1, h2⟩ := hr y e he
    exact ⟨u, h1, g h2⟩
  · obtain ⟨c, u, h1, ⟨o, h2, h2'⟩, h3⟩ := F.cel y e he
    exact ⟨c, u, h1, ⟨o, hs _ _ (F.lc (mem_cells h1)) h2, h2'⟩, g h3⟩
  · obtain ⟨u, o, h2, h2'⟩ := F.cells c hc
    exact ⟨u, o, hs _ _ (F.lc hc) h2, h2'⟩
/-- the ground without what a lambda's making changes -/
noncomputable def Gnd.noMk (G : Gnd) : Gnd := { G with mks := [] }
theorem Ok.noMk (ok : G.Ok) : G.noMk.Ok := ⟨ok.X, ok.T, (fun P h => nomatch h), (fun q h => nomatch h), (fun q h => nomatch h)⟩
theorem Gs.noMk {h : Heap} (gs : Gs G h) : Gs G.noMk h := ⟨gs.base, (fun q h => nomatch h), gs.fx⟩
theorem Fm.noMk (F : Fm G env σ α s) : Fm G.noMk env σ α s := ⟨F.gs.noMk, ⟨F.labs.len, F.labs.nd, F.labs.ok, F.labs.g0, (fun a _ h => nomatch h)⟩, F.loc, F.cel, F.cells, F.nd, F.la, F.ca, F.lg, F.cg⟩
end
end
section
noncomputable def encP2 (p : Int × Int) : D := .tup [.int p.1, .int p.2]
noncomputable def keyN (p : Int × Int) : Int × Int := (-p.1, p.2)
noncomputable def ltP (ks : List (Int × Int)) (i j : Nat) : Bool := let a := ks.getD i (0, 0); let b := ks.getD j (0, 0); if a.1 == b.1 then (if a.2 == b.2 then false else decide (a.2 < b.2)) else decide (a.1 < b.1)
section
variable {τ υ : Type} {G : Gnd} {n m : Nat} {fi : Fi} {env : Env} {A : Around} {α β wr fp : List Addr} {s s₀ s₁ s₂ s' : Shared} {σ σ' σ₁ σ₂ σ₃ σ₄ : AS} {h' : Heap} {t : Nat} {mm : Str → Option Value}
theorem RepC.flat {X : List Addr} {h h' : Heap} (k : FrzKeep h h') {d : D} {v : Value} (x : RepC X none h d v) : RepC X none h' d v := RepC.still (c := none) (c' := none) k (fun _ e => nomatch e) (fun _ e => nomatch e) x
theorem pair_rep {h : Heap} {X : List Addr} {c : Option (List Addr)} {p : Int × Int} {v : Value} (r : RepC X c h (encP2 p) v) : ∃ a o n t t', v = .ref a ∧ h.get? a = some o ∧ o.cls = .type "tuple" ∧ o.data = .seq #[Value.int p.1 t, Value.int p.2 t'] n := by
  unfold encP2 at r
  simp only [RepC] at r
  obtain ⟨a, vs, rfl, ht, hr⟩ := r
  simp only [RepsC, RepC] at hr
  obtain ⟨v1, _, rfl, ⟨t, rfl⟩, v2, _, rfl, ⟨t', rfl⟩, rfl⟩ := hr
  obtain ⟨o, ho, hc, n, hd⟩ := ht
  exact ⟨a, o, n, t, t', rfl, ho, hc, hd⟩
theorem pairs_tups {h : Heap} {X : List Addr} {c : Option (List Addr)} : ∀ {ps : List (Int × Int)} {vs : List Value}, RepsC X c h (ps.map encP2) vs → ∃ fs : List Value, KatTups h vs fs ∧ fs.length = ps.length ∧ ∀ v ∈ fs, ∃ i t, v = .int i t
  | [], vs, r => by
    simp only [List.map_nil, RepsC] at r
    subst r
    exact ⟨[], .nil, rfl, fun v h => nomatch h⟩
  | p :: ps, vs, r => by
    simp only [List.map_cons, RepsC] at r
    obtain ⟨v, vs', rfl, r1, r2⟩ := r
    obtain ⟨fs, h1, h2, h3⟩ := pairs_tups r2
    obtain ⟨a, o, n, t, t', rfl, ho, hc, hd⟩ := pair_rep r1
    refine ⟨.int p.1 t :: fs, .cons ho hc hd rfl h1, by simp [h2], fun v hv => ?_⟩
    rcases List.mem_cons.mp hv with rfl | hv
    · exact ⟨_, _, rfl⟩
    · exact h3 v hv
theorem pair_ask {prog : Program} {w : World} {X : List Addr} {c : Option (List Addr)} {ps : List (Int × Int)} {vs : List Value} (r : RepsC X c s.heap (ps.map encP2) vs) {i j : Nat} {C : Bool → Shared → Prop} (hi : i < ps.length) (hj : j < ps.length) (h : C (ltP ps i j) s) : kas_ask prog w A (tuples' true) vs i j C s := by
  have get : ∀ {i : Nat}, i < ps.length → RepC X c s.heap (encP2 (ps.getD i (0, 0))) (vs.getD i Value.none) := fun {i} hi => by
    obtain ⟨v, h1, h2⟩ := r.get (i := i) (d := encP2 (ps.getD i (0, 0))) (by rw [List.getElem?_map, List.getD_eq_getElem?_getD, List.getElem?_eq_getElem hi]; rfl)
    rw [List.getD_eq_getElem?_getD (l := vs), h1]
    exact h2
  unfold kas_ask
  obtain ⟨a, o, n, t, t', e1, ho, hc, hd⟩ := pair_rep (get hi)
  obtain ⟨a', o', n', u, u', e1', ho', hc', hd'⟩ := pair_rep (get hj)
  rw [e1, e1']
  unfold ltP at h
  generalize ps.getD i (0, 0) = x at *
  generalize ps.getD j (0, 0) = y at *
  obtain ⟨x1, x2⟩ := x
  obtain ⟨y1, y2⟩ := y
  dsimp only at h hd hd'
  refine kat_lt ho hd ho' hd' ?_
  show KatLex prog w A true (decide (2 < 2)) C [(Value.int x1 t, Value.int y1 u), (Value.int x2 t', Value.int y2 u')] 0 s
  refine kat_cons (wpAny_eqBool_int ?_)
  cases e : (x1 == y1) with
  | true =>
    rw [e] at h
    simp only [if_true] at h
    refine kat_yes (kat_cons (wpAny_eqBool_int ?_))
    cases e2 : (x2 == y2) with
    | true =>
      rw [e2] at h
      exact kat_yes (kat_nil h)
    | false =>
      rw [e2] at h
      simp only [Bool.false_eq_true, if_false] at h
      exact kat_no (kat_one _ _ (P.lt_int h))
  | false =>
    rw [e] at h
    simp only [Bool.false_eq_true, if_false] at h
    exact kat_no (oneLt_int h)
/-- what a key gives of one item -/
noncomputable def KeyOf (G : Gnd) (n : Nat) (fi : Fi) (σ : AS) (fD : D) (p : Int × Int) : Prop := ∀ A env α s f vals, OKA n A → EnvOk env fi → Fm G.noMk env σ α s → Rep env α s.heap fD f → Reps env α s.heap [encP2 p] vals → wpAny (model G.prog G.w) A (call f vals) (Post G.noMk env α s σ (RD (encP2 (keyN p)))) bot s
theorem keys_run {fD : D} {f : Value} {kS D₀ : Addr} {e1 : Nat} {Fin : List Value → Nat → Shared → Prop} (hA : OKA n A) (hE : EnvOk env fi) (F : Fm G env σ α s) (hr : ∀ x d, σ.loc.lookup x = some d → ∃ v, mm x = some v ∧ Rep env α s.heap d v) (hH : σ.H = []) (rf : Rep env α s.heap fD f) (hff : fD.flat = true)
    (hkS : s.heap.get? kS = none) (hD : s.heap.get? D₀ = none) (hkL : kS ≠ env.locals) (hDL : D₀ ≠ env.locals) (hne : D₀ ≠ kS) :
    ∀ (r : List (Int × Int)) (vals : List Value) (done : List (Int × Int)) (ks : List Value) (e : Nat) (s' : Shared), (∀ p ∈ r, KeyOf G n fi σ fD p) → KL env.locals mm s s' → RepsC [] none s.heap (r.map encP2) vals → s'.heap.get? kS = some (seqObj "list" ks.toArray e) → s'.heap.get? D₀ = some (seqObj "list" #[] e1) → RepsC [] none s'.heap (done.map encP2) ks →
      (∀ ks e s', KL env.locals mm s s' → s'.heap.get? kS = some (seqObj "list" ks.toArray e) → s'.heap.get? D₀ = some (seqObj "list" #[] e1) → RepsC [] none s'.heap ((done ++ r.map keyN).map encP2) ks → Fin ks e s') →
      KatKeys G.prog G.w A noHeap env.locals mm kS f Fin vals ks e s' := by
  have hα : α = [] := List.length_eq_zero_iff.mp (by rw [F.labs.len, hH]; rfl)
  subst hα
  have fk : ∀ {s'}, KL env.locals mm s s' → FrzKeep s.heap s'.heap := fun k => k.frz F.notL
  intro r
  induction r with
  | nil =>
    intro vals done ks e s' hk k rv hS hDd rk fin
    simp only [List.map_nil, RepsC] at rv
    subst rv
    exact KatKeys.nil (fin ks e s' k hS hDd (by simpa using rk))
  | cons p r ih =>
    intro vals done ks e s' hk k rv hS hDd rk fin
    simp only [List.map_cons, RepsC] at rv
    obtain ⟨v, vals', rfl, r1, r2⟩ := rv
    have F' := k.fm F hr
    refine KatKeys.cons (wpAny_mono (hk p (.head _) A env [] s' f [v] hA hE F'.noMk ?_ ?_) (fun kv s₂ x => ?_) fun _ _ x => x)
    · exact ((RepC.dn hff rf).flat (fk k)).flatX.up
    · show RepsC _ _ _ [encP2 p] [v]
      simp only [RepsC]
      exact ⟨v, [], rfl, (r1.flat (fk k)).flatX.up, rfl⟩
    · obtain ⟨β, sp, hb, F2, rr⟩ := x
      have hβ : β = [] := none_of_len F2.labs (by rw [hH]; rfl)
      subst hβ
      have kp : ∀ b o, s'.heap.get? b = some o → s₂.heap.get? b = some o := fun b o e => sp.keep b o (by simp) (by intro h; exact nomatch h) e
      have k2 : KL env.locals mm s s₂ := by
        obtain ⟨h, tk, dr, rfl⟩ := k.same
        obtain ⟨h2, tk2, dr2, rfl⟩ := sp.same
        exact ⟨⟨h2, tk2, dr2, rfl⟩, k.ns.at' fun o e => kp _ _ e, fun b o hb e => kp _ _ (k.keep b o hb e)⟩
      obtain ⟨g, hg, up⟩ := k2.upd (kS := kS) (fun b o e q => by rw [q, hkS] at e; cases e) (kp _ _ hS) hkL
      refine KatBack.intro k2.fr allBut_news hg fun h' c Fr' N' => ?_
      obtain ⟨k3, hS3, kp3⟩ := up h' _ Fr' N'
      have notk : ∀ o, s₂.heap.get? kS = some o → ¬ Frz o := fun o e fz => by
        rw [kp _ _ hS] at e; cases e
        exact absurd fz (by unfold Frz; simp)
      have fk3 : FrzKeep s₂.heap h' := fun a o fz e => kp3 a o (fun q => F2.notL o (q ▸ e) fz) (fun q => notk o (q ▸ e) fz) e
      refine ih vals' (done ++ [keyN p]) (ks ++ [kv]) c _ (fun p' hp' => hk p' (.tail _ hp')) k3 r2 hS3 (kp3 _ _ hDL hne (kp _ _ hDd)) ?_ fun ks e s' a b c d => fin ks e s' a b c (by simpa [List.append_assoc] using d)
      rw [List.map_append]
      refine RepsC.append ((rk.flat (fun a o _ e => kp a o e)).flat fk3) ?_
      simp only [List.map_cons, List.map_nil, RepsC]
      exact ⟨kv, [], rfl, (RepC.dn rfl rr).flatX.flat fk3, rfl⟩
theorem sortedK_run {fD : D} {q l : Addr} {ps : List (Int × Int)} {vs : List Value} {Q : Value → Shared → Prop} {Er : Value → Shared → Prop} (hA : OKA (n + 2) A) (hE : EnvOk env fi) (F : Fm G env σ α s) (hH : σ.H = []) (rf : Rep env α s.heap fD (.ref q)) (hff : fD.flat = true)
    (hk : ∀ p ∈ ps, KeyOf G n fi σ fD p) (hl : s.heap.IsList l vs.toArray) (rv : RepsC [] none s.heap (ps.map encP2) vs) (h2 : 2 ≤ ps.length) (h64 : ps.length < 64) {idx : List Nat} (hin : inR ps.length (ltP (ps.map keyN)) (kas_sort ps.length) = true) (hrun : (runT (ltP (ps.map keyN)) (kas_sort ps.length)).toList = idx) (hidx : ∀ i ∈ idx, i < ps.length)
    (fin : ∀ h' tk dr D out, s.heap.get? D = none → Fm G env σ α { s with heap := h', toks := tk, drawn := dr } → KL env.locals (fun x => (F.loc.choose x)) s { s with heap := h', toks := tk, drawn := dr } → h'.PlainList D (List.toArray out) → RepsC [] none h' (idx.map fun i => encP2 (ps.getD i (0, 0))) out → Q (.ref D) { s with heap := h', toks := tk, drawn := dr }) :
    wpAny (model G.prog G.w) A (call (.builtin "sorted") [.ref l] [("key", .ref q)]) Q Er s := by
  obtain ⟨hns, hr⟩ := F.loc.choose_spec
  generalize F.loc.choose = mm at hns hr fin
  have hlen : vs.length = ps.length := by rw [rv.length, List.length_map]
  have k0 : KL env.locals mm s s := ⟨⟨s.heap, s.toks, s.drawn, rfl⟩, hns, fun b o _ e => e⟩
  refine kat_sortedK (prog := G.prog) (w := G.w) (h₀ := noHeap) (L := env.locals) (m := mm) (vs := vs) (b := false) (f := .ref q) (news := allBut s.heap env.locals) k0.fr allBut_news hl (by omega) (by omega) (ksk_s1 _ _) (fun _ => ksk_l1 _ _) (fun _ => ksk_t1 _ _) fun D kS e1 h' F1 N1 l0 l1 => ?_
  have k1 : KL env.locals mm s { s with heap := h' } := ⟨⟨h', s.toks, s.drawn, rfl⟩, F1.ns, fun b o hb e => (N1 _ (.tail _ (.tail _ (allBut_mem.mpr ⟨hb, e⟩)))).1⟩
  have hkS := (N1 _ (.head _)).1
  have hkL := (N1 _ (.head _)).2.1
  have hD := (N1 _ (.tail _ (.head _))).1
  have hDL := (N1 _ (.tail _ (.head _))).2.1
  have hD0 : s.heap.get? D = none := by
    cases z : s.heap.get? D with
    | none => rfl
    | some o => exact absurd (l1 _ (allBut_mem.mpr ⟨hDL, z⟩)) (Nat.lt_irrefl _)
  have hkS0 : s.heap.get? kS = none := by
    cases z : s.heap.get? kS with
    | none => rfl
    | some o => exact absurd (Nat.lt_trans (l1 _ (allBut_mem.mpr ⟨hkL, z⟩)) l0) (Nat.lt_irrefl _)
  refine keys_run hA.in1.in1 hE F hr hH rf hff hkS0 hD0 hkL hDL (Nat.ne_of_lt l0) ps vs [] [] 0 _ hk k1 rv hkS hD (by simp only [List.map_nil, RepsC]) fun ks e s2 k2 hS2 hD2 rk => ?_
  rw [List.nil_append] at rk
  obtain ⟨fs, t1, t2, t3⟩ := pairs_tups rk
  refine kat_kind (T := .type "int") t1 (by rw [t2, List.length_map]; omega) (fun v hv => ?_) rfl ?_
  · obtain ⟨i, t, rfl⟩ := t3 v hv
    exact Looks.of_pure rfl
  · show KasT.kasWp (kas_ask G.prog G.w A.in1.in1 (tuples' true) ks) _ _ s2
    refine kas_pure (n := ps.length) (lt := ltP (ps.map keyN)) (fun i j C hi hj h => pair_ask rk (by rw [List.length_map]; exact hi) (by rw [List.length_map]; exact hj) h) _ (by rw [hlen]; exact hin) ?_
    rw [hlen, hrun]
    obtain ⟨g, hg, up⟩ := k2.upd (kS := kS) (fun b o e q => by rw [q, hkS0] at e; cases e) hS2 hkL
    refine KatFin.intro k2.fr allBut_news hg fun h3 c3 F3 N3 => ?_
    obtain ⟨k3, _, kp3⟩ := up h3 _ F3 N3
    have hD3 := kp3 _ _ hDL (Nat.ne_of_lt l0) hD2
    obtain ⟨g', hg', up'⟩ := k3.upd (kS := D) (fun b o e q => by rw [q, hD0] at e; cases e) hD3 hDL
    refine KasFin.intro k3.fr allBut_news hg' fun h4 c4 F4 N4 => ?_
    obtain ⟨k4, hD4, _⟩ := up' h4 _ F4 N4
    obtain ⟨h5, tk, dr, e5⟩ := k4.same
    have hh : h4 = h5 := congrArg Shared.heap e5
    rw [e5] at k4 ⊢
    rw [hh] at hD4
    refine fin h5 tk dr D _ hD0 (k4.fm F hr) k4 ⟨_, hD4⟩ ?_
    have rv5 := rv.flat (k4.frz F.notL)
    refine RepsC.of (by simp [katRev]) fun i d v hd hv => ?_
    simp only [katRev, Bool.false_eq_true, if_false] at hv
    rw [List.getElem?_map] at hd hv
    obtain ⟨j, j1, j2⟩ := Option.map_eq_some_iff.mp hd
    obtain ⟨j', j3, j4⟩ := Option.map_eq_some_iff.mp hv
    rw [j1] at j3; cases j3
    subst j2; subst j4
    have hj := hidx j (List.mem_of_getElem? j1)
    obtain ⟨v, h1, h2⟩ := rv5.get (i := j) (d := encP2 (ps.getD j (0, 0))) (by rw [List.getElem?_map, List.getD_eq_getElem?_getD, List.getElem?_eq_getElem hj]; rfl)
    rw [List.getD_eq_getElem?_getD (l := vs), h1]
    exact h2
end
end
section
/-! enumerate over any plain iterator -/
structure Inn (prog : Program) (w : World) (it : Addr) (k : Nat) (val : Nat → Value) (fpi : List Addr) (J : Nat → Heap → Prop) : Prop where
  mem : it ∈ fpi
  frame : ∀ i h h', J i h → (∀ b ∈ fpi, ∀ o, h.get? b = some o → h'.get? b = some o) → J i h'
  obj : ∀ i h, J i h → ∃ o, h.get? it = some o ∧ ItObj o
  item : ∀ i (A : Around) (s : Shared) (Q : Value → Shared → Prop) (E : Value → Shared → Prop), i < k → J i s.heap → (∀ h', J (i + 1) h' → Heap.SameBut it s.heap h' → Q (val i) { s with heap := h' }) → wpAny (model prog w) A (Builtin.SmallTypes.nextOf (.ref it)) Q E s
  fin : ∀ (A : Around) (s : Shared) (Q : Value → Shared → Prop) (E : Value → Shared → Prop), A.handled = none → J k s.heap → (∀ h' e, Heap.ExtBut it s.heap h' → (∃ o, h'.get? e = some o ∧ o.cls = .type "StopIteration") → E (.ref e) { s with heap := h' }) → wpAny (model prog w) A (Builtin.SmallTypes.nextOf (.ref it)) Q E s
section
variable {prog : Program} {w : World} {A : Around} {E : Value → Shared → Prop} {s : Shared}
theorem inn_list {it l : Addr} {items : Array Value} (hli : l ≠ it) : Inn prog w it items.size (fun i => items.getD i .none) [it, l] (fun i h => h.IsListIter it l i ∧ h.IsList l items) where
  mem := .head _
  frame := fun i h h' ⟨a, b⟩ k => ⟨a.at fun o x => k it (by simp) o x, b.at fun o x => k l (by simp) o x⟩
  obj := fun i h x => by
    obtain ⟨o, h1, h2, h3⟩ := x.1
    exact ⟨o, h1, _, h3, fun q t e => by simp at e⟩
  item := fun i A s Q E hi ⟨a, b⟩ hQ => wpAny_nextOf_list_item a b (by simp [Array.getD, hi]) fun h' a' hs => hQ h' ⟨a', b.at fun o x => (hs.2 l hli).trans x⟩ hs
  fin := fun A s Q E hh ⟨a, b⟩ hE => wpAny_nextOf_list_end hh a b (Array.getElem?_eq_none (Nat.le_refl _)) hE
theorem nextOf_rev_item {it l : Addr} {i : Nat} {items : Array Value} {x : Value} {Q : Value → Shared → Prop} (hit : s.heap.IsRevIter it l (i : Int)) (hl : s.heap.IsList l items) (hx : items[i]? = some x)
    (hQ : ∀ h', h'.IsRevIter it l ((i : Int) - 1) → Heap.SameBut it s.heap h' → Q x { s with heap := h' }) : wpAny (model prog w) A (Builtin.SmallTypes.nextOf (.ref it)) Q E s := by
  obtain ⟨o, ho, hc, hd⟩ := id hit
  obtain ⟨ol, hol, _, nl, hdl⟩ := hl
  unfold Builtin.SmallTypes.nextOf
  refine wpAny_bind (wpAny_callSpecial?_slot (name := Str.ofString "__next__") hit.typeIs F.slot_lri_next
    (wpAny_call_entry F.slot_lri_next hit.typeIs F.entry_lri_next ?_ (F.args_lri_next_1 _)))
  unfold Builtin.«list_reverseiterator.__next__»
  refine wpAny_bind (wpAny_of_eq (a := (Value.ref it, [])) rfl ?_)
  try dsimp only
  refine wpAny_bind (wpAny_field ho hd (x := rawInt (i : Int)) rfl ?_)
  show wpAny _ _ (if (i : Int) < 0 then _ else _) _ _ s
  rw [if_neg (by omega)]
  show wpAny _ _ (field (.ref it) 0 >>= _) _ _ s
  refine wpAny_bind (wpAny_field ho hd (x := .ref l) rfl ?_)
  show wpAny _ _ (seqItems? (.ref l) >>= _) _ _ s
  refine wpAny_bind (wpAny_seqItems hol hdl ?_)
  simp only [Int.toNat_natCast, hx]
  refine wpAny_bind (wpAny_setField ho hd (by simp) ?_)
  first
  | refine wpAny_pure ⟨x, rfl, wpAny_pure (hQ _ ?_ (Heap.SameBut.update ..))⟩
  | refine wpAny_bind (wpAny_pure (wpAny_pure ⟨x, rfl, wpAny_pure (hQ _ ?_ (Heap.SameBut.update ..))⟩))
  exact ⟨_, Heap.get?_update_self _ ho (Obj.isFreed_of_fields (Obj.data_mapFields hd _)), (Obj.cls_mapFields ..).trans hc, by
    rw [Obj.data_mapFields hd]; simp⟩
theorem nextOf_rev_end {it l : Addr} {Q : Value → Shared → Prop} (hh : A.handled = none) (hit : s.heap.IsRevIter it l (-1))
    (hE : ∀ h' e, Heap.ExtBut it s.heap h' → (∃ o, h'.get? e = some o ∧ o.cls = .type "StopIteration") → E (.ref e) { s with heap := h' }) : wpAny (model prog w) A (Builtin.SmallTypes.nextOf (.ref it)) Q E s := by
  obtain ⟨o, ho, hc, hd⟩ := id hit
  unfold Builtin.SmallTypes.nextOf
  refine wpAny_bind (wpAny_callSpecial?_slot (name := Str.ofString "__next__") hit.typeIs F.slot_lri_next
    (wpAny_call_entry F.slot_lri_next hit.typeIs F.entry_lri_next ?_ (F.args_lri_next_1 _)))
  unfold Builtin.«list_reverseiterator.__next__»
  refine wpAny_bind (wpAny_of_eq (a := (Value.ref it, [])) rfl ?_)
  try dsimp only
  refine wpAny_bind (wpAny_field ho hd (x := rawInt (-1)) rfl ?_)
  show wpAny _ _ (if (-1 : Int) < 0 then _ else _) _ _ s
  rw [if_pos (by decide)]
  refine wpAny_bind (wpAny_rule ?_)
  first
  | show wpAny _ _ (newExc (.type "StopIteration") [] >>= _) _ _ _
  | (refine wpAny_bind ?_; show wpAny _ _ (newExc (.type "StopIteration") [] >>= _) _ _ _)
  refine wpAny_bind ?_
  simp only [newExc, newTuple]
  refine wpAny_bind (wpAny_newObj_type ?_ (by size_fits))
  refine wpAny_bind (m := firstArgMember _ _) (wpAny_of_eq (a := Value.none) (by first | rfl | (simp only [firstArgMember]; rfl)) ?_)
  refine wpAny_newObj_type ?_ (by size_fits)
  simp only [raiseNew]
  refine wpAny_bind (wpAny_handled ?_)
  first | rw [show A.in1.handled = none from hh] | rw [hh]
  refine wpAny_bind (wpAny_pure (wpAny_throw ?_))
  exact hE _ _ (((Heap.ExtBut.refl _ _).push _).push _) ⟨_, Heap.get?_push_size _ rfl, rfl⟩
theorem inn_rev {it l : Addr} {items : Array Value} (hli : l ≠ it) : Inn prog w it items.size (fun i => items.getD (items.size - 1 - i) .none) [it, l] (fun i h => h.IsRevIter it l ((items.size : Int) - 1 - (i : Int)) ∧ h.IsList l items) where
  mem := .head _
  frame := fun i h h' ⟨a, b⟩ k => ⟨a.at fun o x => k it (by simp) o x, b.at fun o x => k l (by simp) o x⟩
  obj := fun i h x => by
    obtain ⟨o, h1, h2, h3⟩ := x.1
    exact ⟨o, h1, _, h3, fun q t e => by simp [rawInt] at e⟩
  item := fun i A s Q E hi ⟨a, b⟩ hQ => by
    rw [show (items.size : Int) - 1 - (i : Int) = ((items.size - 1 - i : Nat) : Int) from by omega] at a
    refine nextOf_rev_item a b (x := items.getD (items.size - 1 - i) .none) (by simp [Array.getD, show items.size - 1 - i < items.size by omega]) fun h' a' hs => hQ h' ⟨?_, b.at fun o x => (hs.2 l hli).trans x⟩ hs
    rw [show (items.size : Int) - 1 - ((i + 1 : Nat) : Int) = ((items.size - 1 - i : Nat) : Int) - 1 from by omega]
    exact a'
  fin := fun A s Q E hh ⟨a, b⟩ hE => by
    rw [show (items.size : Int) - 1 - (items.size : Int) = -1 from by omega] at a
    exact nextOf_rev_end hh a hE
variable {it e : Addr} {k : Nat} {val : Nat → Value} {fpi : List Addr} {J : Nat → Heap → Prop}
theorem enumI_next (I : Inn prog w it k val fpi J) (hne : e ∉ fpi) {i : Nat} {old : Value} {Q : Value → Shared → Prop} (he : IsEnum s.heap e it i old) (hJ : J i s.heap) (hi : i < k)
    (hQ : ∀ h', IsEnumOut h' e it ((i : Int) + 1) (val i) s.heap.objs.size → J (i + 1) h' →
      h'.get? s.heap.objs.size = some { cls := .type "tuple", data := .seq #[.int i s.toks, val i] } → h'.objs.size = s.heap.objs.size + 1 →
      (∀ b o, b ≠ e → b ≠ it → s.heap.get? b = some o → h'.get? b = some o) → Q (.ref s.heap.objs.size) { s with heap := h', toks := s.toks + 1 }) :
    wpAny (model prog w) A (Builtin.«enumerate.__next__» ⟨[.ref e], []⟩) (fun fin s' => ∃ v, fin = .done (.ret v) ∧ Q v s') E s := by
  obtain ⟨hp, g, d, tk, os⟩ := s
  have hei : e ≠ it := fun q => hne (q ▸ I.mem)
  have jE : ∀ {i : Nat} {h h' : Heap}, J i h → Heap.SameBut e h h' → J i h' := fun {i h h'} x hs => I.frame _ _ _ x fun b hb o y => (hs.2 b fun q => hne (q ▸ hb)).trans y
  show wpAny _ _ (field (.ref e) 2 >>= _) _ _ _
  refine wpAny_bind (wpAny_field he rfl (x := .ref it) rfl ?_)
  refine wpAny_bind (I.item i _ _ _ _ hi hJ fun h₁ hit₁ hs₁ => ?_)
  replace hs₁ : Heap.SameBut it hp h₁ := hs₁
  generalize val i = x at *
  have he₁ : IsEnum h₁ e it i old := (hs₁.2 e hei).trans he
  show wpAny _ _ (field (.ref e) 3 >>= _) _ _ ⟨h₁, g, d, tk, os⟩
  refine wpAny_bind (wpAny_field he₁ rfl (x := rawInt i) rfl ?_)
  show wpAny _ _ (field (.ref e) 4 >>= _) _ _ ⟨h₁, g, d, tk, os⟩
  refine wpAny_bind (wpAny_field he₁ rfl (x := .none) rfl ?_)
  show wpAny _ _ (mkInt i >>= _) _ _ ⟨h₁, g, d, tk, os⟩
  refine wpAny_bind (wpAny_mkInt ?_)
  show wpAny _ _ (setField (.ref e) 3 (rawInt ((i : Int) + 1)) >>= _) _ _ ⟨h₁, g, d, tk + 1, os⟩
  refine wpAny_bind (wpAny_setField_rec he₁ (by simp) fun h₂ he₂ hs₂ => ?_)
  replace hs₂ : Heap.SameBut e h₁ h₂ := hs₂
  replace he₂ : IsEnum h₂ e it ((i : Int) + 1) old := he₂
  show wpAny _ _ (setField (.ref e) 4 .none >>= _) _ _ ⟨h₂, g, d, tk + 1, os⟩
  refine wpAny_bind (wpAny_setField_rec he₂ (by simp) fun h₃ he₃ hs₃ => ?_)
  replace hs₃ : Heap.SameBut e h₂ h₃ := hs₃
  replace he₃ : IsEnum h₃ e it ((i : Int) + 1) old := he₃
  show wpAny _ _ (newTuple [.int i tk, x] >>= _) _ _ ⟨h₃, g, d, tk + 1, os⟩
  refine wpAny_bind (wpAny_newTuple ?_)
  have he₄ : IsEnum (h₃.push { cls := .type "tuple", data := .seq #[.int i tk, x] }) e it ((i : Int) + 1) old := Heap.get?_push_of_some _ he₃
  have hit₄ : J (i + 1) (h₃.push { cls := .type "tuple", data := .seq #[.int i tk, x] }) := I.frame _ _ _ (jE (jE hit₁ hs₂) hs₃) fun b _ o y => Heap.get?_push_of_some _ y
  generalize hh₄ : h₃.push { cls := .type "tuple", data := .seq #[.int i tk, x] } = h₄ at he₄ hit₄
  have hsz : h₃.objs.size = hp.objs.size := by rw [hs₃.1, hs₂.1, hs₁.1]
  have hel : e < hp.objs.size := Heap.lt_size he
  have ht₄ : h₄.get? hp.objs.size = some { cls := .type "tuple", data := .seq #[.int i tk, x] } := by rw [← hh₄, ← hsz]; exact Heap.get?_push_size _ rfl
  have hz₄ : h₄.objs.size = hp.objs.size + 1 := by rw [← hh₄, Heap.size_push, hsz]
  have hk₄ : ∀ b o, b ≠ e → b ≠ it → hp.get? b = some o → h₄.get? b = some o := fun b o hbe hbi hb => by
    rw [← hh₄]; exact Heap.get?_push_of_some _ (hs₃.extBut b o hbe (hs₂.extBut b o hbe (hs₁.extBut b o hbi hb)))
  show wpAny _ _ (Builtin.SmallTypes.ownedTupleIsFree (.ref e) >>= _) _ _ ⟨h₄, g, d, tk + 1, os⟩
  rw [hsz]
  clear hh₄ he₃ hs₃ he₂ hs₂ he₁ hs₁ hit₁ hsz h₃ h₂ h₁
  refine wpAny_bind ?_
  · unfold Builtin.SmallTypes.ownedTupleIsFree
    refine wpAny_bind (wpAny_field he₄ rfl (x := .none) rfl (wpAny_pure ?_))
    simp only [if_true]
    refine wpAny_bind (wpAny_rule ?_)
    refine wpAny_bind (wpAny_field he₄ rfl (x := old) rfl ?_)
    refine wpAny_bind (wpAny_setField_rec he₄ (by simp) fun h₅ he₅ hs₅ => ?_)
    replace hs₅ : Heap.SameBut e h₄ h₅ := hs₅
    replace he₅ : IsEnum h₅ e it ((i : Int) + 1) x := he₅
    show wpAny _ _ (Builtin.SmallTypes.ownedTupleHandOut (.ref e) (.ref hp.objs.size) >>= _) _ _ ⟨h₅, g, d, tk + 1, os⟩
    refine wpAny_bind ?_
    · unfold Builtin.SmallTypes.ownedTupleHandOut
      refine wpAny_bind (wpAny_setField_rec he₅ (by simp) fun h₆ he₆ hs₆ => ?_)
      replace hs₆ : Heap.SameBut e h₅ h₆ := hs₆
      replace he₆ : IsEnumOut h₆ e it ((i : Int) + 1) x hp.objs.size := he₆
      refine wpAny_setField_rec he₆ (by simp) fun h₇ he₇ hs₇ => ?_
      replace hs₇ : Heap.SameBut e h₆ h₇ := hs₇
      replace he₇ : IsEnumOut h₇ e it ((i : Int) + 1) x hp.objs.size := he₇
      refine wpAny_bind (wpAny_letGo (wpAny_pure ⟨_, rfl, hQ h₇ he₇ ?_ ?_ ?_ ?_⟩))
      · exact jE (jE (jE hit₄ hs₅) hs₆) hs₇
      · exact hs₇.extBut _ _ (Nat.ne_of_gt hel) (hs₆.extBut _ _ (Nat.ne_of_gt hel) (hs₅.extBut _ _ (Nat.ne_of_gt hel) ht₄))
      · rw [hs₇.1, hs₆.1, hs₅.1, hz₄]
      · exact fun b o hbe hbi hb => hs₇.extBut b o hbe (hs₆.extBut b o hbe (hs₅.extBut b o hbe (hk₄ b o hbe hbi hb)))
theorem enumI_item (I : Inn prog w it k val fpi J) (hne : e ∉ fpi) {i : Nat} {old : Value} {Q : Option Value → Shared → Prop} (he : IsEnum s.heap e it i old) (hJ : J i s.heap) (hi : i < k)
    (hQ : ∀ h', IsEnumOut h' e it ((i : Int) + 1) (val i) s.heap.objs.size → J (i + 1) h' →
      h'.get? s.heap.objs.size = some { cls := .type "tuple", data := .seq #[.int i s.toks, val i] } → h'.objs.size = s.heap.objs.size + 1 →
      (∀ b o, b ≠ e → b ≠ it → s.heap.get? b = some o → h'.get? b = some o) → Q (some (.ref s.heap.objs.size)) { s with heap := h', toks := s.toks + 1 }) :
    wpAny (model prog w) A (pyNext (.ref e)) Q E s := by
  have hT : s.TypeIs (.ref e) "enumerate" := ⟨_, he, rfl⟩
  unfold pyNext
  exact wpAny_bind (wpAny_attempt (wpAny_callSpecial?_slot (name := Str.ofString "__next__") hT F.slot_enumerate_next
    (wpAny_call_entry F.slot_enumerate_next hT F.entry_enumerate_next
      (enumI_next I hne he hJ hi fun h' a b c d k => wpAny_pure (hQ h' a b c d k)) (F.args_enumerate_next_1 _))))
theorem enumI_end (I : Inn prog w it k val fpi J) {old : Value} {Q : Option Value → Shared → Prop} (hh : A.handled = none)
    (he : IsEnum s.heap e it k old) (hJ : J k s.heap) (hQ : ∀ h', Heap.ExtBut it s.heap h' → Q none { s with heap := h' }) : wpAny (model prog w) A (pyNext (.ref e)) Q E s := by
  have hT : s.TypeIs (.ref e) "enumerate" := ⟨_, he, rfl⟩
  unfold pyNext
  refine wpAny_bind (wpAny_attempt (wpAny_callSpecial?_slot (name := Str.ofString "__next__") hT F.slot_enumerate_next
    (wpAny_call_entry F.slot_enumerate_next hT F.entry_enumerate_next ?_ (F.args_enumerate_next_1 _))))
  show wpAny _ _ (field (.ref e) 2 >>= _) _ _ _
  refine wpAny_bind (wpAny_field he rfl (x := .ref it) rfl ?_)
  refine wpAny_bind (I.fin _ _ _ _ hh hJ fun h' x he' hx' => ?_)
  obtain ⟨o, ho, hc⟩ := hx'
  refine wpAny_bind (wpAny_isInstance (T := "StopIteration") (b := true) ⟨o, ho, hc⟩ isSubtype_stop ?_)
  exact wpAny_pure (hQ _ he')
theorem meets_enumerate_newR (it l : Addr) (i : Int) :
    Meets (Builtin.«enumerate.__new__» ⟨[.type "enumerate", .ref it], []⟩) (fun _ R s => s.heap.get? it = some (revObj l i) ∧
      R (.ok (.ret (.ref s.heap.objs.size)))
        { s with heap := s.heap.push { cls := .type "enumerate", data := .fields #[.none, .bool false, .ref it, rawInt 0, .none, .none] } }) :=
  .of_wp fun prog w A R s h => by
    obtain ⟨hp, g, d, tk, os⟩ := s; obtain ⟨hl, h⟩ := h
    have hsub := sub_enumerate
    have hL : Heap.IsRevIter (Shared.heap ⟨hp, g, d, tk, os⟩) it l i := ⟨_, hl, rfl, rfl⟩
    wp_walk using AutoSeq1.wpAny_loadPart' hl
    refine wpAny_stack_any fun st => wpAny_pure ?_
    split
    · rename_i c _ _ _ _ _
      cases (c == Value.type "enumerate")
      · wp_walk using AutoSeq1.wpAny_loadPart' hl, wpAny_pyIter_revIter hL
        exact ⟨_, rfl, h⟩
      · wp_walk using AutoSeq1.wpAny_loadPart' hl, wpAny_pyIter_revIter hL
        exact ⟨_, rfl, h⟩
    · wp_walk using AutoSeq1.wpAny_loadPart' hl, wpAny_pyIter_revIter hL
      exact ⟨_, rfl, h⟩
theorem call_enumerate_rev {it l : Addr} {i : Int} {Q : Value → Shared → Prop} (ho : s.heap.get? it = some (revObj l i))
    (h : Q (.ref s.heap.objs.size) { s with heap := s.heap.push { cls := .type "enumerate", data := .fields #[.none, .bool false, .ref it, rawInt 0, .none, .none] } }) :
    wpAny (model prog w) A (call (.type "enumerate") [.ref it]) Q E s := by
  refine callType_new F.called_enumerate (by decide) (F.typeCall_enumerate_1 _) (F.newCall_enumerate_1 _) (fun obj => F.args_object_init_2 obj _) F.entry_enumerate_new
    (meets_enumerate_newR it l i) ⟨ho, ?_⟩
  exact ⟨⟨_, Heap.get?_push_size _ rfl, rfl⟩, h⟩
end
end
section
section
variable {τ υ : Type} {G : Gnd} {n m : Nat} {fi : Fi} {env : Env} {A : Around} {α β wr fp : List Addr} {s s₀ s₁ s₂ s' : Shared} {σ σ' σ₁ σ₂ σ₃ σ₄ : AS} {h' : Heap} {t : Nat}
noncomputable def enumD (ds : List D) : List D := (List.range ds.length).map fun (i : Nat) => D.tup [.int i, ds.getD i .none]
theorem enumD_len {ds : List D} : (enumD ds).length = ds.length := by simp [enumD]
theorem Itr.enum {e it : Addr} {k : Nat} {val : Nat → Value} {fpi : List Addr} {J : Nat → Heap → Prop} {h₀ : Heap} {ds : List D} {es : List Expr} {kk : Nat} {tp : Pos} (hh : A.handled = none) (I : Inn G.prog G.w it k val fpi J) (hne : e ∉ fpi) (hk : ds.length = k)
    (hP : ∀ i h, i < k → FrzKeep h₀ h → RepC [] none h (ds.getD i .none) (val i)) :
    Itr G A e (e :: fpi) [e, it] (.Tuple es kk tp) h₀ (enumD ds) (fun i h => (∃ old, IsEnum h e it i old) ∧ J i h) (fun i v h => ∃ T x, v = .ref T ∧ IsEnumOut h e it ((i : Int) + 1) x T ∧ J (i + 1) h) := by
  have hei : e ≠ it := fun q => hne (q ▸ I.mem)
  have itE : ∀ {h : Heap} {i : Int} {old : Value}, IsEnum h e it i old → ∃ o, h.get? e = some o ∧ ItObj o := fun x => ⟨_, x, _, rfl, fun q t e => by simp at e⟩
  have itO : ∀ {h : Heap} {i : Int} {x : Value} {T : Addr}, IsEnumOut h e it i x T → ∃ o, h.get? e = some o ∧ ItObj o := fun x => ⟨_, x, _, rfl, fun q t e => by simp at e⟩
  have nf : ∀ {h : Heap} {a : Addr} {o : Obj}, (∃ o, h.get? a = some o ∧ ItObj o) → h.get? a = some o → ¬ Frz o := fun ⟨o', h1, h2⟩ e f => by rw [h1] at e; cases e; exact h2.notFrz f
  refine ⟨fun b hb => ?_, fun i h h' ⟨⟨old, a⟩, j⟩ k => ⟨⟨old, k e (.head _) _ a⟩, I.frame _ _ _ j fun b hb => k b (.tail _ hb)⟩, fun i h ⟨⟨old, a⟩, j⟩ b hb => ?_, fun i v h ⟨T, x, _, a, j⟩ b hb => ?_, fun i s Q E hi ⟨⟨old, a⟩, j⟩ fk hQ => ?_, fun i v s Q E ⟨T, x, e1, a, j⟩ hQ => ?_, fun s Q E ⟨⟨old, a⟩, j⟩ hQ => ?_, fun i s Q E ⟨⟨old, a⟩, j⟩ hQ => wpAny_pyIter_enum a hQ⟩
  · rcases List.mem_cons.mp hb with rfl | hb
    · exact .head _
    · rw [List.mem_singleton.mp hb]; exact .tail _ I.mem
  · rcases List.mem_cons.mp hb with rfl | hb
    · exact itE a
    · rw [List.mem_singleton.mp hb]; exact I.obj _ _ j
  · rcases List.mem_cons.mp hb with rfl | hb
    · exact itO a
    · rw [List.mem_singleton.mp hb]; exact I.obj _ _ j
  · rw [enumD_len] at hi
    refine enumI_item I hne a j (by omega) fun h' ho hj hT hsz kp => ?_
    have fk' : FrzKeep h₀ h' := fun b o f y => kp b o (fun q => nf (itE a) (q ▸ fk b o f y) f) (fun q => nf (I.obj _ _ j) (q ▸ fk b o f y) f) (fk b o f y)
    refine hQ (.ref s.heap.objs.size) h' (s.toks + 1) (.tup [.int i, ds.getD i .none]) ?_ ?_ ⟨_, _, rfl, ho, hj⟩ fun b o hb y => kp b o (fun q => hb (by simp [q])) (fun q => hb (by simp [q])) y
    · unfold enumD
      rw [List.getElem?_map, List.getElem?_range hi]
      rfl
    · simp only [RepC, RepsC]
      exact ⟨s.heap.objs.size, [.int i s.toks, val i], rfl, ⟨_, hT, rfl, _, rfl⟩, _, _, rfl, ⟨_, rfl⟩, _, _, rfl, hP i h' (by omega) fk', rfl⟩
  · subst e1
    refine wpAny_letOwnedTupleGo_enum a fun h' he' hs' => hQ h' ⟨⟨x, by simpa using he'⟩, I.frame _ _ _ j fun b hb o y => (hs'.2 b fun q => hne (q ▸ hb)).trans y⟩ fun b o hb y => ?_
    exact (hs'.2 b fun q => hb (by simp [q])).trans y
  · rw [enumD_len, hk] at a j
    exact enumI_end I hh a j fun h' hx => hQ h' s.toks fun b o hb y => hx b o (fun q => hb (by simp [q])) y
theorem wrok_two {I I' : Addr} {o o' : Obj} {s₁ : Shared} (F : Fm G env σ α s₁) (hI : s₁.heap.get? I = none) (hI' : s₁.heap.get? I' = none) (ho : s.heap.get? I = some o) (hi : ItObj o) (ho' : s.heap.get? I' = some o') (hi' : ItObj o') : WrOk G env α [I, I'] s.heap := by
  have x := wrok_one F hI ho hi
  have y := wrok_one F hI' ho' hi'
  have both : ∀ {P : Addr → Prop}, (∀ b ∈ [I], P b) → (∀ b ∈ [I'], P b) → ∀ b ∈ [I, I'], P b := fun h1 h2 b hb => by
    rcases List.mem_cons.mp hb with rfl | hb
    · exact h1 _ (.head _)
    · exact h2 _ hb
  obtain ⟨x1, x2, x3, x4, x5⟩ := x
  obtain ⟨y1, y2, y3, y4, y5⟩ := y
  exact ⟨both x1 y1, both x2 y2, both x3 y3, both x4 y4, both x5 y5⟩
theorem pi_enumL {es : List Expr} {kk : Nat} {p tp pos : Pos} {e : Expr} {src : List D} (hf : PE G n fi σ (.Name "enumerate" p) (.val (.type "enumerate")) σ) (h : PE G n fi σ e (.lst src) σ₁)
    (he : ∀ env, starEach [e] env = (false, eval e env) :: starEach [] env := by intro _; rfl)
    (hq : ∀ env, eval (.Call (.Name "enumerate" p) [e] [] pos) env = (do callWith pos (← eval (.Name "enumerate" p) env) [] (backTo pos (starEach [e] env)) (backToKw pos (keywordEach [] env))) := by intro _; rfl) (hp : ∀ env, (backTo pos (starEach [e] env)).any (·.1) = false := by intro _; rfl) : PI G n fi σ (.Call (.Name "enumerate" p) [e] [] pos) (.Tuple es kk tp) (enumD src) σ₁ := .mk fun A env α s hA hE F =>
  ev_callQ hE hA F hf (pes_cons h pes_nil he) pks_nil (fun _ _ => keeps_type) (fun β s₁ vals kvals sp hb F1 r1 r2 => by
    simp only [RepsC] at r1 r2; obtain ⟨v, _, rfl, r, rfl⟩ := r1; subst r2
    simp only [RepC] at r
    obtain ⟨a, vs, _, rfl, e, hna, hnx, hl, hr⟩ := r
    cases e
    obtain ⟨kk, ho⟩ := id hl
    refine call_enumerate_list hl.isList fun h' h1 h2 h3 k => ?_
    have hax : a < s₁.heap.objs.size := Heap.lt_size ho
    refine wpAny_pyIter_enum h1 ?_
    have F' := F1.all (t := s₁.toks) k
    have hfe : s₁.heap.get? (s₁.heap.objs.size + 1) = none := fresh_size (Nat.le_succ _)
    have hne : (s₁.heap.objs.size + 1) ∉ [s₁.heap.objs.size, a] := fun q => by
      rcases List.mem_cons.mp q with q | q
      · exact absurd q (Nat.succ_ne_self _)
      · exact absurd hax (List.mem_singleton.mp q ▸ Nat.not_lt.mpr (Nat.le_succ _))
    have hfi : s₁.heap.get? s₁.heap.objs.size = none := fresh_size (Nat.le_refl _)
    obtain ⟨oi, hoi, hii⟩ := it_list h2
    refine ⟨β, s₁.heap.objs.size + 1, _, _, _, _, rfl, sp.trans (Sp.all (t := s₁.toks) k), hb, F', Itr.enum hA.hh (inn_list (items := vs.toArray) (Nat.ne_of_lt hax)) hne (by rw [List.size_toArray, hr.length]) (fun i h hi fk => ?_), ⟨⟨_, h1⟩, h2, hl.isList.at fun o e => k _ _ e⟩, ?_, fun b hb => ?_, fun b hb => ?_⟩
    · rw [List.size_toArray, hr.length] at hi
      obtain ⟨v, e1, e2⟩ := hr.get (i := i) (d := src.getD i .none) (by rw [List.getD_eq_getElem?_getD, List.getElem?_eq_getElem hi]; rfl)
      have e3 : vs.toArray.getD i .none = v := by
        have hi' := (List.getElem?_eq_some_iff.mp e1).1
        simp [Array.getD, hi', (List.getElem?_eq_some_iff.mp e1).2]
      rw [e3]
      exact (e2.flatX.flat (fun a o _ e => k a o e)).flat fk
    · exact wrok_two (s₁ := s₁) F1 hfe hfi h1 ⟨_, rfl, fun q t e => by simp at e⟩ hoi hii
    · rcases List.mem_cons.mp hb with rfl | hb
      · exact sp.gone hfe
      · rw [List.mem_singleton.mp hb]; exact sp.gone hfi
    · rcases List.mem_cons.mp hb with rfl | hb
      · exact ⟨by rw [h1]; rfl, .inl (.head _)⟩
      · rcases List.mem_cons.mp hb with rfl | hb
        · exact ⟨by rw [hoi]; rfl, .inl (.tail _ (.head _))⟩
        · rw [List.mem_singleton.mp hb]
          refine ⟨by rw [k _ _ ho]; rfl, .inr ⟨hna, hnx, fun q => ?_⟩⟩
          obtain ⟨q', hq, e⟩ := List.mem_map.mp q
          obtain ⟨ps, h1, _⟩ := F1.gs.tabs q' hq
          rw [e, ho] at h1; cases h1) hq hp
/-- reversed, as a value that lives on -/
theorem pi_enumR {es : List Expr} {kk : Nat} {p p2 tp pos pos2 : Pos} {e : Expr} {src : List D} (hf : PE G n fi σ (.Name "enumerate" p) (.val (.type "enumerate")) σ) (hg : PE G n fi σ (.Name "reversed" p2) (.val (.type "reversed")) σ) (h : PE G n fi σ e (.lst src) σ₁)
    (he : ∀ env, starEach [e] env = (false, eval e env) :: starEach [] env := by intro _; rfl)
    (he2 : ∀ env, starEach [.Call (.Name "reversed" p2) [e] [] pos2] env = (false, eval (.Call (.Name "reversed" p2) [e] [] pos2) env) :: starEach [] env := by intro _; rfl)
    (hq2 : ∀ env, eval (.Call (.Name "reversed" p2) [e] [] pos2) env = (do callWith pos2 (← eval (.Name "reversed" p2) env) [] (backTo pos2 (starEach [e] env)) (backToKw pos2 (keywordEach [] env))) := by intro _; rfl) (hp2 : ∀ env, (backTo pos2 (starEach [e] env)).any (·.1) = false := by intro _; rfl)
    (hq : ∀ env, eval (.Call (.Name "enumerate" p) [.Call (.Name "reversed" p2) [e] [] pos2] [] pos) env = (do callWith pos (← eval (.Name "enumerate" p) env) [] (backTo pos (starEach [.Call (.Name "reversed" p2) [e] [] pos2] env)) (backToKw pos (keywordEach [] env))) := by intro _; rfl) (hp : ∀ env, (backTo pos (starEach [.Call (.Name "reversed" p2) [e] [] pos2] env)).any (·.1) = false := by intro _; rfl) :
    PI G n fi σ (.Call (.Name "enumerate" p) [.Call (.Name "reversed" p2) [e] [] pos2] [] pos) (.Tuple es kk tp) (enumD src.reverse) σ₁ := .mk fun A env α s hA hE F => by
  refine wpAny_mono (Q := fun x s₁ => wpAny (model G.prog G.w) A (pyIter x) (SrcAt G A env α σ₁ (.Tuple es kk tp) (enumD src.reverse) s) bot s₁) ?_ (fun _ _ x => x) fun _ _ x => x
  rw [hq]
  refine wpAny_bind (seq2 (hf.run A env α s hA hE F) fun v β₀ s₀ sp₀ hb₀ F0 r0 => ?_)
  simp only [RepC] at r0; subst r0
  refine callWith_of (P := fun h => KeepsF G h (.type "enumerate")) (by rw [hp]; rfl) (fun h x => x) (evalArgs_all (hp env) rfl ?_)
  refine wpAny_items_cons ?_ (he2 env)
  refine ev_callQ hE hA F0 hg (pes_cons h pes_nil he) pks_nil (fun _ _ => keeps_type) (fun β s₁ vals kvals sp' hb' F1 r1 r2 => ?_) hq2 hp2
  simp only [RepsC] at r1 r2; obtain ⟨v, _, rfl, r, rfl⟩ := r1; subst r2
  simp only [RepC] at r
  obtain ⟨a, vs, _, rfl, e, hna, hnx, hl, hr⟩ := r
  cases e
  obtain ⟨kn, ho⟩ := id hl
  refine call_reversed_list hl.isList ?_
  refine wpAny_items_nil (wpAny_evalAll_nil ⟨keeps_type, ?_⟩)
  have sp : Sp G α s s₁ := sp₀.trans' hb₀ sp'
  have hb : ∀ b ∈ β₀ ++ β, s.heap.get? b = none := fun b h => by
    rcases List.mem_append.mp h with h | h
    · exact hb₀ b h
    · exact sp₀.gone (hb' b h)
  rw [List.append_assoc] at F1 hna
  have hax : a < s₁.heap.objs.size := Heap.lt_size ho
  have hfi : s₁.heap.get? s₁.heap.objs.size = none := fresh_size (Nat.le_refl _)
  have hfe : s₁.heap.get? (s₁.heap.objs.size + 1) = none := fresh_size (Nat.le_succ _)
  generalize hh₁ : s₁.heap.push (revObj a ((vs.toArray.size : Int) - 1)) = h₁
  have hz : h₁.objs.size = s₁.heap.objs.size + 1 := by rw [← hh₁, Heap.size_push]
  have k1 : ∀ b o, s₁.heap.get? b = some o → h₁.get? b = some o := by rw [← hh₁]; exact push_all _
  have hit : h₁.get? s₁.heap.objs.size = some (revObj a ((vs.toArray.size : Int) - 1)) := by rw [← hh₁]; exact Heap.get?_push_size _ rfl
  refine call_enumerate_rev (l := a) (i := (vs.toArray.size : Int) - 1) hit ?_
  show wpAny _ _ (pyIter (.ref h₁.objs.size)) _ _ { s₁ with heap := h₁.push _ }
  rw [hz]
  generalize hh₂ : h₁.push { cls := .type "enumerate", data := .fields #[.none, .bool false, .ref s₁.heap.objs.size, rawInt 0, .none, .none] } = h₂
  have k2 : ∀ b o, h₁.get? b = some o → h₂.get? b = some o := by rw [← hh₂]; exact push_all _
  have k : ∀ b o, s₁.heap.get? b = some o → h₂.get? b = some o := fun b o e => k2 _ _ (k1 _ _ e)
  have he : IsEnum h₂ (s₁.heap.objs.size + 1) s₁.heap.objs.size 0 .none := by rw [← hh₂, ← hz]; exact Heap.get?_push_size _ rfl
  have hit2 := k2 _ _ hit
  have F' := F1.all (t := s₁.toks) k
  have hne : (s₁.heap.objs.size + 1) ∉ [s₁.heap.objs.size, a] := fun q => by
      rcases List.mem_cons.mp q with q | q
      · exact absurd q (Nat.succ_ne_self _)
      · exact absurd hax (List.mem_singleton.mp q ▸ Nat.not_lt.mpr (Nat.le_succ _))
  refine wpAny_pyIter_enum he ?_
  refine ⟨β₀ ++ β, s₁.heap.objs.size + 1, _, _, _, _, rfl, sp.trans (Sp.all (t := s₁.toks) k), hb, F', Itr.enum hA.hh (inn_rev (items := vs.toArray) (Nat.ne_of_lt hax)) hne (by rw [List.size_toArray, hr.length, List.length_reverse]) (fun i h hi fk => ?_), ⟨⟨_, he⟩, ⟨_, hit2, rfl, by simp [revObj]⟩, hl.isList.at fun o e => k _ _ e⟩, ?_, fun b hb => ?_, fun b hb => ?_⟩
  · rw [List.size_toArray] at hi
    have hl' := hr.length
    obtain ⟨v, e1, e2⟩ := hr.get (i := vs.length - 1 - i) (d := src.reverse.getD i .none) (by
      rw [List.getD_eq_getElem?_getD, List.getElem?_reverse (by omega +splitNatSub), hl', List.getElem?_eq_getElem (by omega +splitNatSub)]; rfl)
    have e3 : vs.toArray.getD (vs.toArray.size - 1 - i) .none = v := by
      have hi' := (List.getElem?_eq_some_iff.mp e1).1
      simp [Array.getD, hi', (List.getElem?_eq_some_iff.mp e1).2]
    rw [e3]
    exact (e2.flatX.flat (fun a o _ e => k a o e)).flat fk
  · exact wrok_two (s₁ := s₁) F1 hfe hfi he ⟨_, rfl, fun q t e => by simp at e⟩ hit2 ⟨_, rfl, fun q t e => by simp [rawInt] at e⟩
  · rcases List.mem_cons.mp hb with rfl | hb
    · exact sp.gone hfe
    · rw [List.mem_singleton.mp hb]; exact sp.gone hfi
  · rcases List.mem_cons.mp hb with rfl | hb
    · exact ⟨by rw [he]; rfl, .inl (.head _)⟩
    · rcases List.mem_cons.mp hb with rfl | hb
      · exact ⟨by rw [hit2]; rfl, .inl (.tail _ (.head _))⟩
      · rw [List.mem_singleton.mp hb]
        refine ⟨by rw [k _ _ ho]; rfl, .inr ⟨hna, hnx, fun q => ?_⟩⟩
        obtain ⟨q', hq, e⟩ := List.mem_map.mp q
        obtain ⟨ps, h1, _⟩ := F1.gs.tabs q' hq
        rw [e, ho] at h1; cases h1
end
end
section
theorem encP2_tups : Enc 50 encP2 := enc_pair (f := D.int) (g := D.int) enc_int enc_int
section
variable {τ υ : Type} {G : Gnd} {n m : Nat} {fi : Fi} {env : Env} {A : Around} {α β wr fp : List Addr} {s s₀ s₁ s₂ s' : Shared} {σ σ' σ₁ σ₂ σ₃ σ₄ : AS} {h' : Heap} {t : Nat}
theorem s_ifSorted {l a lam : Expr} {p cp kp tp pos : Pos} {fD : D} {qs ps : List (Int × Int)} {x y : List Stmt} {Q : Out → Prop} {idx : List Nat} (hl : PE G (n + 2) fi σ l (.lst (qs.map encP2)) σ) (hs : PE G (n + 2) fi σ (.Name "sorted" p) (.val (.builtin "sorted")) σ) (ha : PE G (n + 2) fi σ a (.lst (ps.map encP2)) σ) (hlam : PE G (n + 2) fi σ lam fD σ)
    (hH : σ.H = []) (hff : fD.flat = true) (hfn : ∃ nm ql pr bd sc, fD = .fn nm ql pr bd sc) (hk : ∀ p ∈ ps, KeyOf G n fi σ fD p) (h2 : 2 ≤ ps.length) (h64 : ps.length < 64) (hin : inR ps.length (ltP (ps.map keyN)) (kas_sort ps.length) = true) (hrun : (runT (ltP (ps.map keyN)) (kas_sort ps.length)).toList = idx) (hidx : ∀ i ∈ idx, i < ps.length)
    (hq : qs = idx.map fun i => ps.getD i (0, 0)) (k : SE G (n + 2) fi σ y Q)
    (hm : behindInMarks .NotEq (.Call (.Name "sorted" p) [a] [⟨some "key", lam, kp⟩] cp) = false := by with_unfolding_all rfl)
    (he : ∀ env, starEach [a] env = (false, eval a env) :: starEach [] env := by intro _; rfl)
    (heq : ∀ env, eval (.Call (.Name "sorted" p) [a] [⟨some "key", lam, kp⟩] cp) env = (do callWith cp (← eval (.Name "sorted" p) env) [] (backTo cp (starEach [a] env)) (backToKw cp (keywordEach [⟨some "key", lam, kp⟩] env))) := by intro _; rfl) (hp : ∀ env, (backTo cp (starEach [a] env)).any (·.1) = false := by intro _; rfl) :
    S1 G (n + 2) fi σ (.If (.Compare l [.NotEq] [.Call (.Name "sorted" p) [a] [⟨some "key", lam, kp⟩] cp] tp) x y pos) Q := .mk fun A env α s hA hE F => by
  refine wpAny_If (wpAny_isTrue_Compare1 (seq2 (hl.run A env α s hA hE F) fun u β s₁ sp hb F1 r1 => ?_) hm)
  refine ev_callQ hE hA F1 hs (pes_cons ha pes_nil he) (pks_cons hlam pks_nil) (fun _ _ => keeps_blt) (fun γ s₂ vals kvals sp2 hb2 F2 r2 r3 => ?_) heq hp
  simp only [RepsC] at r2 r3
  obtain ⟨va, _, rfl, ra, rfl⟩ := r2
  obtain ⟨vf, _, rfl, rf, rfl⟩ := r3
  have r1' := F1.still sp2 hb2 r1
  simp only [RepC] at ra
  obtain ⟨la, vs, α', rfl, e, hna, hnx, hpl, hr⟩ := ra
  cases e
  obtain ⟨fa, rfl⟩ : ∃ fa, vf = .ref fa := by
    obtain ⟨nm, ql, pr, bd, sc, rfl⟩ := hfn
    simp only [RepC] at rf
    obtain ⟨fa, _, _, _, _, rfl, _⟩ := rf
    exact ⟨fa, rfl⟩
  show wpAny _ A (call (.builtin "sorted") [.ref la] [("key", .ref fa)]) _ _ s₂
  refine sortedK_run hA hE F2 hH rf hff hk hpl.isList hr.flatX h2 h64 hin hrun hidx fun h' tk dr D out hD F3 kl hout rout => ?_
  have fr := F2.freshNot hD
  have fk := kl.frz F2.notL
  have lk : LstKeep (xsOf env) (some ((α ++ β) ++ γ)) s₂.heap h' := fun _ _ b o _ hx _ e => kl.keep b o (fun q => hx (q ▸ .head _)) e
  have ru := stillα fk lk r1'
  have rv : RepC (xsOf env) (some ((α ++ β) ++ γ)) h' (.lst (qs.map encP2)) (.ref D) := by
    simp only [RepC]
    refine ⟨D, out, _, rfl, rfl, fr.1, fr.2.1, hout, ?_⟩
    rw [hq, List.map_map]
    exact rout.flatX
  have sp3 : Sp G (foot env ((α ++ β) ++ γ)) s₂ { s₂ with heap := h', toks := tk, drawn := dr } := ⟨⟨_, _, _, rfl⟩, fun b o hb _ e => kl.keep b o (fun q => hb (q ▸ .head _)) e, fun b e => by
    by_cases q : b = env.locals
    · obtain ⟨o, _, _, ho, _⟩ := kl.ns; rw [q]; show (Heap.get? _ _).isSome = true; rw [ho]; rfl
    · obtain ⟨o, ho⟩ := Option.isSome_iff_exists.mp e; show (Heap.get? _ _).isSome = true; rw [kl.keep b o q ho]; rfl⟩
  refine seq2 ((o_neL (σ := σ) (xs := qs) (ys := qs) encP2_tups (.inl rfl) (.inl rfl)).run A env _ _ u (.ref D) hA hE F3 ru rv) fun wv δ s₄ sp4 hb4 F4 r4 => ?_
  simp only [RepC] at r4
  subst r4
  refine wpAny_truthy_bool ?_
  rw [if_neg (by simp)]
  refine wpAny_mono (k.run A env _ s₄ hA hE F4) (fun fl s₅ z => ?_) fun _ _ z => z
  exact SPost.up sp.foot hb (SPost.up sp2.foot hb2 (SPost.up (β := []) sp3 (fun _ h => nomatch h) (by rw [List.append_nil]; exact SPost.up sp4.foot hb4 z)))
end
end
section
noncomputable def P0 : PySem.Params := { strHash := fun _ => 0, shareClass := fun _ => 0, mergeTok := id, idOf := fun _ => 0, idOfShared := fun _ _ => 0, followText := fun _ => true, idOfImm := fun _ => 0 }
structure Parts where
  params : Arguments
  body : List Stmt
  scope : Scope
section
variable {P : PySem.Params} {a : Nat} {oc : Value} {od : Option Addr} {osl : Array (Option Value)} {name qual : Str} {params : Arguments} {body : List Stmt} {scope : Scope} {dV kV doc pm cdv ct : Value} {an : Option Addr}
noncomputable abbrev theParts (_ : (K39 P).lookup a = some ⟨oc, od, .func (fnOf name qual params body scope dV kV doc pm an cdv ct), osl⟩) : Parts := ⟨params, body, scope⟩
theorem theCode (_ : (K39 P).lookup a = some ⟨oc, od, .func (fnOf name qual params body scope dV kV doc pm an cdv ct), osl⟩) (h : codeIn (K39 P) cdv qual = true) : codeIn (K39 P) cdv qual = true := h
variable {l r x y : List Stmt} {t : Expr} {q : Pos} {name' : Str}
noncomputable abbrev thenOf (_ : l = .If t x y q :: r) : List Stmt := x
noncomputable abbrev elseOf (_ : l = .If t x y q :: r) : List Stmt := y
noncomputable abbrev testOf (_ : l = .While t x y q :: r) : Expr := t
noncomputable abbrev loopOf (_ : l = .While t x y q :: r) : List Stmt := x
noncomputable abbrev innerOf (_ : l = .FunctionDef name params body [] none [] scope none name' q :: r) : Parts := ⟨params, body, scope⟩
end
noncomputable abbrev comp_pow.parts : Parts := theParts (P := P0) (a := 46) rfl
noncomputable abbrev comp_pow.body : List Stmt := comp_pow.parts.body
noncomputable abbrev comp_pow.scope : Scope := comp_pow.parts.scope
noncomputable abbrev comp_pow.params : Arguments := comp_pow.parts.params
noncomputable def comp_pow.ho (P : PySem.Params) := (show (K39 P).lookup 46 = some ⟨_, _, .func (fnOf _ _ comp_pow.params comp_pow.body comp_pow.scope _ _ _ _ _ _ _), _⟩ from rfl)
noncomputable def comp_pow.code (P : PySem.Params) := theCode (comp_pow.ho P) (by kernel_rfl)
noncomputable abbrev s2i.parts : Parts := theParts (P := P0) (a := 53) rfl
noncomputable abbrev s2i.body : List Stmt := s2i.parts.body
noncomputable abbrev s2i.scope : Scope := s2i.parts.scope
noncomputable abbrev s2i.params : Arguments := s2i.parts.params
noncomputable def s2i.ho (P : PySem.Params) := (show (K39 P).lookup 53 = some ⟨_, _, .func (fnOf _ _ s2i.params s2i.body s2i.scope _ _ _ _ _ _ _), _⟩ from rfl)
noncomputable def s2i.code (P : PySem.Params) := theCode (s2i.ho P) (by kernel_rfl)
noncomputable abbrev ifs.parts : Parts := theParts (P := P0) (a := 60) rfl
noncomputable abbrev ifs.body : List Stmt := ifs.parts.body
noncomputable abbrev ifs.scope : Scope := ifs.parts.scope
noncomputable abbrev ifs.params : Arguments := ifs.parts.params
noncomputable def ifs.ho (P : PySem.Params) := (show (K39 P).lookup 60 = some ⟨_, _, .func (fnOf _ _ ifs.params ifs.body ifs.scope _ _ _ _ _ _ _), _⟩ from rfl)
noncomputable def ifs.code (P : PySem.Params) := theCode (ifs.ho P) (by kernel_rfl)
noncomputable abbrev div2.parts : Parts := theParts (P := P0) (a := 67) rfl
noncomputable abbrev div2.body : List Stmt := div2.parts.body
noncomputable abbrev div2.scope : Scope := div2.parts.scope
noncomputable abbrev div2.params : Arguments := div2.parts.params
noncomputable def div2.ho (P : PySem.Params) := (show (K39 P).lookup 67 = some ⟨_, _, .func (fnOf _ _ div2.params div2.body div2.scope _ _ _ _ _ _ _), _⟩ from rfl)
noncomputable def div2.code (P : PySem.Params) := theCode (div2.ho P) (by kernel_rfl)
noncomputable abbrev i2d.parts : Parts := theParts (P := P0) (a := 81) rfl
noncomputable abbrev i2d.body : List Stmt := i2d.parts.body
noncomputable abbrev i2d.scope : Scope := i2d.parts.scope
noncomputable abbrev i2d.params : Arguments := i2d.parts.params
noncomputable def i2d.ho (P : PySem.Params) := (show (K39 P).lookup 81 = some ⟨_, _, .func (fnOf _ _ i2d.params i2d.body i2d.scope _ _ _ _ _ _ _), _⟩ from rfl)
noncomputable def i2d.code (P : PySem.Params) := theCode (i2d.ho P) (by kernel_rfl)
noncomputable abbrev d2i.parts : Parts := theParts (P := P0) (a := 88) rfl
noncomputable abbrev d2i.body : List Stmt := d2i.parts.body
noncomputable abbrev d2i.scope : Scope := d2i.parts.scope
noncomputable abbrev d2i.params : Arguments := d2i.parts.params
noncomputable def d2i.ho (P : PySem.Params) := (show (K39 P).lookup 88 = some ⟨_, _, .func (fnOf _ _ d2i.params d2i.body d2i.scope _ _ _ _ _ _ _), _⟩ from rfl)
noncomputable def d2i.code (P : PySem.Params) := theCode (d2i.ho P) (by kernel_rfl)
noncomputable abbrev dmpos.parts : Parts := theParts (P := P0) (a := 95) rfl
noncomputable abbrev dmpos.body : List Stmt := dmpos.parts.body
noncomputable abbrev dmpos.scope : Scope := dmpos.parts.scope
noncomputable abbrev dmpos.params : Arguments := dmpos.parts.params
noncomputable def dmpos.ho (P : PySem.Params) := (show (K39 P).lookup 95 = some ⟨_, _, .func (fnOf _ _ dmpos.params dmpos.body dmpos.scope _ _ _ _ _ _ _), _⟩ from rfl)
noncomputable def dmpos.code (P : PySem.Params) := theCode (dmpos.ho P) (by kernel_rfl)
noncomputable abbrev idm.parts : Parts := theParts (P := P0) (a := 102) rfl
noncomputable abbrev idm.body : List Stmt := idm.parts.body
noncomputable abbrev idm.scope : Scope := idm.parts.scope
noncomputable abbrev idm.params : Arguments := idm.parts.params
noncomputable def idm.ho (P : PySem.Params) := (show (K39 P).lookup 102 = some ⟨_, _, .func (fnOf _ _ idm.params idm.body idm.scope _ _ _ _ _ _ _), _⟩ from rfl)
noncomputable def idm.code (P : PySem.Params) := theCode (idm.ho P) (by kernel_rfl)
noncomputable abbrev insr.parts : Parts := theParts (P := P0) (a := 111) rfl
noncomputable abbrev insr.body : List Stmt := insr.parts.body
noncomputable abbrev insr.scope : Scope := insr.parts.scope
noncomputable abbrev insr.params : Arguments := insr.parts.params
noncomputable def insr.ho (P : PySem.Params) := (show (K39 P).lookup 111 = some ⟨_, _, .func (fnOf _ _ insr.params insr.body insr.scope _ _ _ _ _ _ _), _⟩ from rfl)
noncomputable def insr.code (P : PySem.Params) := theCode (insr.ho P) (by kernel_rfl)
noncomputable abbrev bright.parts : Parts := theParts (P := P0) (a := 120) rfl
noncomputable abbrev bright.body : List Stmt := bright.parts.body
noncomputable abbrev bright.scope : Scope := bright.parts.scope
noncomputable abbrev bright.params : Arguments := bright.parts.params
noncomputable def bright.ho (P : PySem.Params) := (show (K39 P).lookup 120 = some ⟨_, _, .func (fnOf _ _ bright.params bright.body bright.scope _ _ _ _ _ _ _), _⟩ from rfl)
noncomputable def bright.code (P : PySem.Params) := theCode (bright.ho P) (by kernel_rfl)
noncomputable abbrev insl.parts : Parts := theParts (P := P0) (a := 129) rfl
noncomputable abbrev insl.body : List Stmt := insl.parts.body
noncomputable abbrev insl.scope : Scope := insl.parts.scope
noncomputable abbrev insl.params : Arguments := insl.parts.params
noncomputable def insl.ho (P : PySem.Params) := (show (K39 P).lookup 129 = some ⟨_, _, .func (fnOf _ _ insl.params insl.body insl.scope _ _ _ _ _ _ _), _⟩ from rfl)
noncomputable def insl.code (P : PySem.Params) := theCode (insl.ho P) (by kernel_rfl)
noncomputable abbrev bleft.parts : Parts := theParts (P := P0) (a := 138) rfl
noncomputable abbrev bleft.body : List Stmt := bleft.parts.body
noncomputable abbrev bleft.scope : Scope := bleft.parts.scope
noncomputable abbrev bleft.params : Arguments := bleft.parts.params
noncomputable def bleft.ho (P : PySem.Params) := (show (K39 P).lookup 138 = some ⟨_, _, .func (fnOf _ _ bleft.params bleft.body bleft.scope _ _ _ _ _ _ _), _⟩ from rfl)
noncomputable def bleft.code (P : PySem.Params) := theCode (bleft.ho P) (by kernel_rfl)
noncomputable abbrev hinit.parts : Parts := theParts (P := P0) (a := 176) rfl
noncomputable abbrev hinit.body : List Stmt := hinit.parts.body
noncomputable abbrev hinit.scope : Scope := hinit.parts.scope
noncomputable abbrev hinit.params : Arguments := hinit.parts.params
noncomputable def hinit.ho (P : PySem.Params) := (show (K39 P).lookup 176 = some ⟨_, _, .func (fnOf _ _ hinit.params hinit.body hinit.scope _ _ _ _ _ _ _), _⟩ from rfl)
noncomputable def hinit.code (P : PySem.Params) := theCode (hinit.ho P) (by kernel_rfl)
noncomputable abbrev hconv.parts : Parts := theParts (P := P0) (a := 183) rfl
noncomputable abbrev hconv.body : List Stmt := hconv.parts.body
noncomputable abbrev hconv.scope : Scope := hconv.parts.scope
noncomputable abbrev hconv.params : Arguments := hconv.parts.params
noncomputable def hconv.ho (P : PySem.Params) := (show (K39 P).lookup 183 = some ⟨_, _, .func (fnOf _ _ hconv.params hconv.body hconv.scope _ _ _ _ _ _ _), _⟩ from rfl)
noncomputable def hconv.code (P : PySem.Params) := theCode (hconv.ho P) (by kernel_rfl)
noncomputable abbrev hgetall.parts : Parts := theParts (P := P0) (a := 221) rfl
noncomputable abbrev hgetall.body : List Stmt := hgetall.parts.body
noncomputable abbrev hgetall.scope : Scope := hgetall.parts.scope
noncomputable abbrev hgetall.params : Arguments := hgetall.parts.params
noncomputable def hgetall.ho (P : PySem.Params) := (show (K39 P).lookup 221 = some ⟨_, _, .func (fnOf _ _ hgetall.params hgetall.body hgetall.scope _ _ _ _ _ _ _), _⟩ from rfl)
noncomputable def hgetall.code (P : PySem.Params) := theCode (hgetall.ho P) (by kernel_rfl)
noncomputable abbrev hkeys.parts : Parts := theParts (P := P0) (a := 234) rfl
noncomputable abbrev hkeys.body : List Stmt := hkeys.parts.body
noncomputable abbrev hkeys.scope : Scope := hkeys.parts.scope
noncomputable abbrev hkeys.params : Arguments := hkeys.parts.params
noncomputable def hkeys.ho (P : PySem.Params) := (show (K39 P).lookup 234 = some ⟨_, _, .func (fnOf _ _ hkeys.params hkeys.body hkeys.scope _ _ _ _ _ _ _), _⟩ from rfl)
noncomputable def hkeys.code (P : PySem.Params) := theCode (hkeys.ho P) (by kernel_rfl)
noncomputable abbrev hitems.parts : Parts := theParts (P := P0) (a := 246) rfl
noncomputable abbrev hitems.body : List Stmt := hitems.parts.body
noncomputable abbrev hitems.scope : Scope := hitems.parts.scope
noncomputable abbrev hitems.params : Arguments := hitems.parts.params
noncomputable def hitems.ho (P : PySem.Params) := (show (K39 P).lookup 246 = some ⟨_, _, .func (fnOf _ _ hitems.params hitems.body hitems.scope _ _ _ _ _ _ _), _⟩ from rfl)
noncomputable def hitems.code (P : PySem.Params) := theCode (hitems.ho P) (by kernel_rfl)
noncomputable abbrev hadd.parts : Parts := theParts (P := P0) (a := 279) rfl
noncomputable abbrev hadd.body : List Stmt := hadd.parts.body
noncomputable abbrev hadd.scope : Scope := hadd.parts.scope
noncomputable abbrev hadd.params : Arguments := hadd.parts.params
noncomputable def hadd.ho (P : PySem.Params) := (show (K39 P).lookup 279 = some ⟨_, _, .func (fnOf _ _ hadd.params hadd.body hadd.scope _ _ _ _ _ _ _), _⟩ from rfl)
noncomputable def hadd.code (P : PySem.Params) := theCode (hadd.ho P) (by kernel_rfl)
noncomputable abbrev cells.parts : Parts := theParts (P := P0) (a := 291) rfl
noncomputable abbrev cells.body : List Stmt := cells.parts.body
noncomputable abbrev cells.scope : Scope := cells.parts.scope
noncomputable abbrev cells.params : Arguments := cells.parts.params
noncomputable def cells.ho (P : PySem.Params) := (show (K39 P).lookup 291 = some ⟨_, _, .func (fnOf _ _ cells.params cells.body cells.scope _ _ _ _ _ _ _), _⟩ from rfl)
noncomputable def cells.code (P : PySem.Params) := theCode (cells.ho P) (by kernel_rfl)
noncomputable abbrev table.parts : Parts := theParts (P := P0) (a := 298) rfl
noncomputable abbrev table.body : List Stmt := table.parts.body
noncomputable abbrev table.scope : Scope := table.parts.scope
noncomputable abbrev table.params : Arguments := table.parts.params
noncomputable def table.ho (P : PySem.Params) := (show (K39 P).lookup 298 = some ⟨_, _, .func (fnOf _ _ table.params table.body table.scope _ _ _ _ _ _ _), _⟩ from rfl)
noncomputable def table.code (P : PySem.Params) := theCode (table.ho P) (by kernel_rfl)
noncomputable abbrev whole.parts : Parts := theParts (P := P0) (a := 305) rfl
noncomputable abbrev whole.body : List Stmt := whole.parts.body
noncomputable abbrev whole.scope : Scope := whole.parts.scope
noncomputable abbrev whole.params : Arguments := whole.parts.params
noncomputable def whole.ho (P : PySem.Params) := (show (K39 P).lookup 305 = some ⟨_, _, .func (fnOf _ _ whole.params whole.body whole.scope _ _ _ _ _ _ _), _⟩ from rfl)
noncomputable def whole.code (P : PySem.Params) := theCode (whole.ho P) (by kernel_rfl)
noncomputable abbrev floors.parts : Parts := theParts (P := P0) (a := 310) rfl
noncomputable abbrev floors.body : List Stmt := floors.parts.body
noncomputable abbrev floors.scope : Scope := floors.parts.scope
noncomputable abbrev floors.params : Arguments := floors.parts.params
noncomputable def floors.ho (P : PySem.Params) := (show (K39 P).lookup 310 = some ⟨_, _, .func (fnOf _ _ floors.params floors.body floors.scope _ _ _ _ _ _ _), _⟩ from rfl)
noncomputable def floors.code (P : PySem.Params) := theCode (floors.ho P) (by kernel_rfl)
noncomputable abbrev plain.parts : Parts := theParts (P := P0) (a := 315) rfl
noncomputable abbrev plain.body : List Stmt := plain.parts.body
noncomputable abbrev plain.scope : Scope := plain.parts.scope
noncomputable abbrev plain.params : Arguments := plain.parts.params
noncomputable def plain.ho (P : PySem.Params) := (show (K39 P).lookup 315 = some ⟨_, _, .func (fnOf _ _ plain.params plain.body plain.scope _ _ _ _ _ _ _), _⟩ from rfl)
noncomputable def plain.code (P : PySem.Params) := theCode (plain.ho P) (by kernel_rfl)
noncomputable abbrev falls.parts : Parts := theParts (P := P0) (a := 320) rfl
noncomputable abbrev falls.body : List Stmt := falls.parts.body
noncomputable abbrev falls.scope : Scope := falls.parts.scope
noncomputable abbrev falls.params : Arguments := falls.parts.params
noncomputable def falls.ho (P : PySem.Params) := (show (K39 P).lookup 320 = some ⟨_, _, .func (fnOf _ _ falls.params falls.body falls.scope _ _ _ _ _ _ _), _⟩ from rfl)
noncomputable def falls.code (P : PySem.Params) := theCode (falls.ho P) (by kernel_rfl)
noncomputable abbrev told.parts : Parts := theParts (P := P0) (a := 325) rfl
noncomputable abbrev told.body : List Stmt := told.parts.body
noncomputable abbrev told.scope : Scope := told.parts.scope
noncomputable abbrev told.params : Arguments := told.parts.params
noncomputable def told.ho (P : PySem.Params) := (show (K39 P).lookup 325 = some ⟨_, _, .func (fnOf _ _ told.params told.body told.scope _ _ _ _ _ _ _), _⟩ from rfl)
noncomputable def told.code (P : PySem.Params) := theCode (told.ho P) (by kernel_rfl)
noncomputable abbrev strips.parts : Parts := theParts (P := P0) (a := 330) rfl
noncomputable abbrev strips.body : List Stmt := strips.parts.body
noncomputable abbrev strips.scope : Scope := strips.parts.scope
noncomputable abbrev strips.params : Arguments := strips.parts.params
noncomputable def strips.ho (P : PySem.Params) := (show (K39 P).lookup 330 = some ⟨_, _, .func (fnOf _ _ strips.params strips.body strips.scope _ _ _ _ _ _ _), _⟩ from rfl)
noncomputable def strips.code (P : PySem.Params) := theCode (strips.ho P) (by kernel_rfl)
noncomputable abbrev agree.parts : Parts := theParts (P := P0) (a := 335) rfl
noncomputable abbrev agree.body : List Stmt := agree.parts.body
noncomputable abbrev agree.scope : Scope := agree.parts.scope
noncomputable abbrev agree.params : Arguments := agree.parts.params
noncomputable def agree.ho (P : PySem.Params) := (show (K39 P).lookup 335 = some ⟨_, _, .func (fnOf _ _ agree.params agree.body agree.scope _ _ _ _ _ _ _), _⟩ from rfl)
noncomputable def agree.code (P : PySem.Params) := theCode (agree.ho P) (by kernel_rfl)
noncomputable abbrev ground.parts : Parts := theParts (P := P0) (a := 342) rfl
noncomputable abbrev ground.body : List Stmt := ground.parts.body
noncomputable abbrev ground.scope : Scope := ground.parts.scope
noncomputable abbrev ground.params : Arguments := ground.parts.params
noncomputable def ground.ho (P : PySem.Params) := (show (K39 P).lookup 342 = some ⟨_, _, .func (fnOf _ _ ground.params ground.body ground.scope _ _ _ _ _ _ _), _⟩ from rfl)
noncomputable def ground.code (P : PySem.Params) := theCode (ground.ho P) (by kernel_rfl)
noncomputable abbrev laid.parts : Parts := theParts (P := P0) (a := 349) rfl
noncomputable abbrev laid.body : List Stmt := laid.parts.body
noncomputable abbrev laid.scope : Scope := laid.parts.scope
noncomputable abbrev laid.params : Arguments := laid.parts.params
noncomputable def laid.ho (P : PySem.Params) := (show (K39 P).lookup 349 = some ⟨_, _, .func (fnOf _ _ laid.params laid.body laid.scope _ _ _ _ _ _ _), _⟩ from rfl)
noncomputable def laid.code (P : PySem.Params) := theCode (laid.ho P) (by kernel_rfl)
noncomputable abbrev law.parts : Parts := theParts (P := P0) (a := 354) rfl
noncomputable abbrev law.body : List Stmt := law.parts.body
noncomputable abbrev law.scope : Scope := law.parts.scope
noncomputable abbrev law.params : Arguments := law.parts.params
noncomputable def law.ho (P : PySem.Params) := (show (K39 P).lookup 354 = some ⟨_, _, .func (fnOf _ _ law.params law.body law.scope _ _ _ _ _ _ _), _⟩ from rfl)
noncomputable def law.code (P : PySem.Params) := theCode (law.ho P) (by kernel_rfl)
noncomputable abbrev bleft.test0 : Expr := testOf (l := thenOf (l := bleft.body.drop 2) rfl) rfl
noncomputable abbrev bleft.loop0 : List Stmt := loopOf (l := thenOf (l := bleft.body.drop 2) rfl) rfl
noncomputable abbrev bleft.test1 : Expr := testOf (l := elseOf (l := bleft.body.drop 2) rfl) rfl
noncomputable abbrev bleft.loop1 : List Stmt := loopOf (l := elseOf (l := bleft.body.drop 2) rfl) rfl
noncomputable abbrev bright.test0 : Expr := testOf (l := thenOf (l := bright.body.drop 2) rfl) rfl
noncomputable abbrev bright.loop0 : List Stmt := loopOf (l := thenOf (l := bright.body.drop 2) rfl) rfl
noncomputable abbrev bright.test1 : Expr := testOf (l := elseOf (l := bright.body.drop 2) rfl) rfl
noncomputable abbrev bright.loop1 : List Stmt := loopOf (l := elseOf (l := bright.body.drop 2) rfl) rfl
noncomputable abbrev i2d.inner : Parts := innerOf (l := i2d.body.drop 1) rfl
noncomputable abbrev i2d.ibody : List Stmt := i2d.inner.body
noncomputable abbrev i2d.iscope : Scope := i2d.inner.scope
noncomputable abbrev i2d.iparams : Arguments := i2d.inner.params
noncomputable abbrev d2i.inner : Parts := innerOf (l := d2i.body.drop 0) rfl
noncomputable abbrev d2i.ibody : List Stmt := d2i.inner.body
noncomputable abbrev d2i.iscope : Scope := d2i.inner.scope
noncomputable abbrev d2i.iparams : Arguments := d2i.inner.params
noncomputable abbrev s2i.inner : Parts := innerOf (l := s2i.body.drop 1) rfl
noncomputable abbrev s2i.ibody : List Stmt := s2i.inner.body
noncomputable abbrev s2i.iscope : Scope := s2i.inner.scope
noncomputable abbrev s2i.iparams : Arguments := s2i.inner.params
end
/-- the code tables of the text: who makes what within its body -/
noncomputable def theMks : List Mk := [⟨80, 76, ⟨90, 4, 99, 28⟩, "_int2digits.<locals>.inner"⟩, ⟨87, 83, ⟨105, 4, 110, 55⟩, "_digits2int.<locals>.inner"⟩, ⟨52, 48, ⟨50, 4, 54, 74⟩, "_str_to_int_inner.<locals>.inner"⟩,
  ⟨348, 344, ⟨349, 52, 349, 73⟩, "_law_laid.<locals>.<lambda>"⟩, ⟨353, 351, ⟨356, 79, 356, 111⟩, "law.<locals>.<lambda>"⟩]
noncomputable abbrev mkG (prog : Program) (w : World) (g0 : Heap) (mg mb : Str → Option Value) (loose : List Str) (mean : ExcName → Option Value) (fx : List (Addr × Obj)) : Gnd :=
  { prog, w, K := K39 w.params, g0, mg, mb, mks := theMks, loose, mean, fx }
section
variable {G : Gnd} {n m : Nat} {fi : Fi} {env : Env} {A : Around} {α : List Addr} {s : Shared} {σ σ' σ₁ σ₂ σ₃ σ₄ : AS}
/-- a state that says less -/
structure Sub (σ' σ : AS) : Prop where
  loc : ∀ x d, σ'.loc.lookup x = some d → σ.loc.lookup x = some d
  cel : ∀ x d, σ'.cel.lookup x = some d → σ.cel.lookup x = some d
  H : σ'.H = σ.H
noncomputable def SubL (l' l : List (Str × D)) : Prop := ∀ x d, l'.lookup x = some d → l.lookup x = some d
theorem subl_nil {l : List (Str × D)} : SubL [] l := fun x d h => by simp at h
theorem subl_cons {l l' : List (Str × D)} {x : Str} {d : D} (h : l.lookup x = some d) (r : SubL l' l) : SubL ((x, d) :: l') l := fun y e he => by
  rw [List.lookup_cons] at he
  split at he
  · rename_i q; cases he; rw [beq_iff_eq.mp q]; exact h
  · exact r y e he
theorem Fm.weak (F : Fm G env σ α s) (u : Sub σ' σ) : Fm G env σ' α s :=
  ⟨F.gs, u.H ▸ F.labs, let ⟨m, h, r⟩ := F.loc; ⟨m, h, fun x d e => r x d (u.loc x d e)⟩, fun x d e => F.cel x d (u.cel x d e), F.cells, F.nd, F.la, F.ca, F.lg, F.cg⟩
theorem SE.weak {ss : List Stmt} {Q : Out → Prop} (u : Sub σ' σ) (h : SE G n fi σ' ss Q) : SE G n fi σ ss Q := .mk fun A env α s hA hE F => h.run A env α s hA hE (F.weak u)
theorem PT.weak {e : Expr} {b : Bool} (u : Sub σ' σ) (h : PT G n fi σ' e b σ₁) : PT G n fi σ e b σ₁ := .mk fun A env α s hA hE F => h.run A env α s hA hE (F.weak u)
theorem PE.weak {e : Expr} {d : D} (u : Sub σ' σ) (h : PE G n fi σ' e d σ₁) : PE G n fi σ e d σ₁ := .mk fun A env α s hA hE F => h.run A env α s hA hE (F.weak u)
theorem WhB.weak {test : Expr} {body : List Stmt} {Q : Out → Prop} {k : Nat} (u : Sub σ' σ) (h : WhB G n fi test body Q k σ') : WhB G n fi test body Q k σ := by
  cases k with
  | zero => exact h
  | succ k =>
    obtain ⟨b, σ₁, h1, h2, h3⟩ := h
    refine ⟨b, σ₁, PT.weak u h1, by rw [h2, u.H], ?_⟩
    rw [u.H] at h3
    exact h3
theorem SN.weak {x : Str} {d : D} (u : Sub σ' σ) (h : SN G n fi σ' x d σ₁) : SN G n fi σ x d σ₁ := .mk fun A env α s v hA hE F r => h.run A env α s v hA hE (F.weak u) r
theorem ForB.weak {x : Str} {body : List Stmt} {Q : Out → Prop} (hQ : ∀ σ σ' : AS, Sub σ' σ → Q (.next σ') → Q (.next σ)) : ∀ {src : List D} {σ σ' : AS}, Sub σ' σ → ForB G n fi x body Q src σ' → ForB G n fi x body Q src σ
  | [], σ, σ', u, h => hQ σ σ' u h
  | d :: src, σ, σ', u, h => by
    obtain ⟨σ₁, h1, h2, h3⟩ := h
    refine ⟨σ₁, SN.weak u h1, by rw [h2, u.H], ?_⟩
    rw [← u.H]
    exact h3
theorem SubL.mk {l l' c : List (Str × D)} {H : List Cont} (h : SubL l' l) : Sub ⟨l', c, H⟩ ⟨l, c, H⟩ := ⟨h, fun _ _ e => e, rfl⟩
theorem SubL.mk2 {l l' c c' : List (Str × D)} {H : List Cont} (h : SubL l' l) (h2 : SubL c' c) : Sub ⟨l', c', H⟩ ⟨l, c, H⟩ := ⟨h, h2, rfl⟩
end
theorem dI_get {υ : Type} {f : υ → D} {xs : List υ} {i : Nat} {y : υ} (h : xs[i]? = some y) : (xs.map f)[i]? = some (f y) := by rw [List.getElem?_map, h]; rfl
theorem pe_itemN {G : Gnd} {n : Nat} {fi : Fi} {σ σ₁ σ₂ : AS} {υ : Type} {value slice : Expr} {pos : Pos} {d : D} {f : υ → D} {xs : List υ} {i : Nat} {y : υ} (h1 : PE G n fi σ value d σ₁) (h2 : PE G n fi σ₁ slice (.int (i : Nat)) σ₂) (hl : IsL σ₂ d (xs.map f)) (hi : xs[i]? = some y) (hz : xs.length ≤ 1000000)
    (hs : ∀ o i, subscripted slice false o i = operate [o, i] (getItem o i) := by intro _ _; rfl) : PE G n fi σ (.Subscript value slice pos) (f y) σ₂ :=
  pe_item h1 h2 hl (Int.natCast_nonneg _) (by have := (List.getElem?_eq_some_iff.mp hi).1; omega) (by rw [Int.toNat_natCast]; exact dI_get hi) hs
theorem getD_some {υ : Type} {xs : List υ} {i : Nat} {y : υ} (h : i < xs.length) : xs[i]? = some (xs.getD i y) := by rw [List.getD_eq_getElem?_getD, List.getElem?_eq_getElem h]; rfl
theorem not_interactive {env : Env} {fi : Fi} (E : EnvOk env fi) : interactive env = false := by
  unfold interactive
  rw [E.sc, E.kind]; rfl
theorem s_exprN {G : Gnd} {n : Nat} {fi : Fi} {σ σ₁ : AS} {e : Expr} {pos : Pos} {Q : Out → Prop} (h : PE G n fi σ e .none σ₁) (q : Q (.next σ₁)) (hw : ∀ env, swapsWith e none pos.line env = pure false) : S1 G n fi σ (.Expr e pos) Q :=
  s_expr h trivial q (fun _ E => not_interactive E) hw
/-! the tactics of the walk -/
local macro_rules | `(tactic| walk_at "po") => `(tactic| first
  | exact o_add | exact o_sub | exact o_iadd | exact o_eq | exact o_ne | exact o_lt | exact o_le | exact o_gt | exact o_ge | exact o_neg | exact o_inv
  | exact o_fdiv (by decide) (by decide) | exact o_fmod (by decide) (by decide) | exact o_noneIsNone | exact o_noneIsNotNone
  | exact o_isNone (by intro h; cases h) (by intro h; cases h) (by intro u h; cases h) | exact o_isNotNone (by intro h; cases h) (by intro h; cases h) (by intro u h; cases h))
local macro_rules | `(tactic| walk_at "pv") => `(tactic| first
  | exact pe_int | exact pe_str | exact pe_none | exact pe_bool
  | exact pe_loc | exact pe_cel | exact pe_fre
  | (apply pe_binop; (· walk_at "pv"); (· walk_at "pv"); (· walk_at "po"))
  | (apply pe_unop; (· walk_at "pv"); (· walk_at "po"))
  | (apply pe_cmp; (· walk_at "pv"); (· walk_at "pv"); (· walk_at "po"); (· with_unfolding_all rfl)))
local macro_rules | `(tactic| walk_at "pt") => `(tactic| first
  | (apply pt_cmp; (· walk_at "pv"); (· walk_at "pv"); (· walk_at "po"); (· with_unfolding_all rfl))
  | (apply pt_not; (· walk_at "pt"))
  | (apply pt_val; (· walk_at "pv"); (· first | exact ot_int | exact ot_bool); (· intro _ _; rfl)))
local macro_rules | `(tactic| walk_at "sub_l") => `(tactic| (repeat (first | exact subl_nil | (refine subl_cons (by rfl) ?_))))
/-! statements -/
local macro_rules | `(tactic| walk_at "ps_set") => `(tactic| (apply se_cons; apply s_assign; (· walk_at "pv"); (· first | exact sn_loc | exact sn_cel); rotate_left; (· intro _ _; rfl); show SE _ _ _ _ _ _))
local macro_rules | `(tactic| walk_at "ps_end") => `(tactic| (refine se_nil ?_; show SE _ _ _ _ _ _))
/- a branch not taken -/
local macro_rules | `(tactic| walk_at "ps_no") => `(tactic| (apply se_cons; apply s_if; (· walk_at "pt"); rw [if_neg (by decide)]; refine se_nil ?_; show SE _ _ _ _ _ _))
local macro_rules | `(tactic| walk_at "ps_yes") => `(tactic| (apply se_cons; apply s_if; (· walk_at "pt"); rw [if_pos (by decide)]))
section
section
variable {prog : Program} {w : World} {g0 : Heap} {mg mb : PySem.Str → Option Value} {loose : List PySem.Str} {mean : ExcName → Option Value} {fx : List (Addr × Obj)} {n : Nat} {fi : Fi} {σ : AS} {pos : PySem.Pos}
theorem g.len (P : PySem.Params) : nsIn (K39 P) mainGlobals "len" = some none := by kernel_rfl
theorem pg.len (ok : ((mkG prog w g0 mg mb loose mean fx)).Ok) (hk : fi.scope.names.lookup ("len" : Str) = some .globalImplicit := by rfl) : PE (mkG prog w g0 mg mb loose mean fx) n fi σ (.Name "len" pos) (.val (.builtin "len")) σ := pe_blt ok (g.len w.params) (by kernel_rfl) hk (by decide) (by decide)
theorem g.range (P : PySem.Params) : nsIn (K39 P) mainGlobals "range" = some none := by kernel_rfl
theorem pg.range (ok : ((mkG prog w g0 mg mb loose mean fx)).Ok) (hk : fi.scope.names.lookup ("range" : Str) = some .globalImplicit := by rfl) : PE (mkG prog w g0 mg mb loose mean fx) n fi σ (.Name "range" pos) (.val (.type "range")) σ := pe_blt ok (g.range w.params) (by kernel_rfl) hk (by decide) (by decide)
theorem g.reversed (P : PySem.Params) : nsIn (K39 P) mainGlobals "reversed" = some none := by kernel_rfl
theorem pg.reversed (ok : ((mkG prog w g0 mg mb loose mean fx)).Ok) (hk : fi.scope.names.lookup ("reversed" : Str) = some .globalImplicit := by rfl) : PE (mkG prog w g0 mg mb loose mean fx) n fi σ (.Name "reversed" pos) (.val (.type "reversed")) σ := pe_blt ok (g.reversed w.params) (by kernel_rfl) hk (by decide) (by decide)
theorem g.enumerate (P : PySem.Params) : nsIn (K39 P) mainGlobals "enumerate" = some none := by kernel_rfl
theorem pg.enumerate (ok : ((mkG prog w g0 mg mb loose mean fx)).Ok) (hk : fi.scope.names.lookup ("enumerate" : Str) = some .globalImplicit := by rfl) : PE (mkG prog w g0 mg mb loose mean fx) n fi σ (.Name "enumerate" pos) (.val (.type "enumerate")) σ := pe_blt ok (g.enumerate w.params) (by kernel_rfl) hk (by decide) (by decide)
theorem g.int (P : PySem.Params) : nsIn (K39 P) mainGlobals "int" = some none := by kernel_rfl
theorem pg.int (ok : ((mkG prog w g0 mg mb loose mean fx)).Ok) (hk : fi.scope.names.lookup ("int" : Str) = some .globalImplicit := by rfl) : PE (mkG prog w g0 mg mb loose mean fx) n fi σ (.Name "int" pos) (.val (.type "int")) σ := pe_blt ok (g.int w.params) (by kernel_rfl) hk (by decide) (by decide)
theorem g.str (P : PySem.Params) : nsIn (K39 P) mainGlobals "str" = some none := by kernel_rfl
theorem pg.str (ok : ((mkG prog w g0 mg mb loose mean fx)).Ok) (hk : fi.scope.names.lookup ("str" : Str) = some .globalImplicit := by rfl) : PE (mkG prog w g0 mg mb loose mean fx) n fi σ (.Name "str" pos) (.val (.type "str")) σ := pe_blt ok (g.str w.params) (by kernel_rfl) hk (by decide) (by decide)
theorem g.list (P : PySem.Params) : nsIn (K39 P) mainGlobals "list" = some none := by kernel_rfl
theorem pg.list (ok : ((mkG prog w g0 mg mb loose mean fx)).Ok) (hk : fi.scope.names.lookup ("list" : Str) = some .globalImplicit := by rfl) : PE (mkG prog w g0 mg mb loose mean fx) n fi σ (.Name "list" pos) (.val (.type "list")) σ := pe_blt ok (g.list w.params) (by kernel_rfl) hk (by decide) (by decide)
theorem g.set (P : PySem.Params) : nsIn (K39 P) mainGlobals "set" = some none := by kernel_rfl
theorem pg.set (ok : ((mkG prog w g0 mg mb loose mean fx)).Ok) (hk : fi.scope.names.lookup ("set" : Str) = some .globalImplicit := by rfl) : PE (mkG prog w g0 mg mb loose mean fx) n fi σ (.Name "set" pos) (.val (.type "set")) σ := pe_blt ok (g.set w.params) (by kernel_rfl) hk (by decide) (by decide)
theorem g.type (P : PySem.Params) : nsIn (K39 P) mainGlobals "type" = some none := by kernel_rfl
theorem pg.type (ok : ((mkG prog w g0 mg mb loose mean fx)).Ok) (hk : fi.scope.names.lookup ("type" : Str) = some .globalImplicit := by rfl) : PE (mkG prog w g0 mg mb loose mean fx) n fi σ (.Name "type" pos) (.val (.type "type")) σ := pe_blt ok (g.type w.params) (by kernel_rfl) hk (by decide) (by decide)
theorem g.sorted (P : PySem.Params) : nsIn (K39 P) mainGlobals "sorted" = some none := by kernel_rfl
theorem pg.sorted (ok : ((mkG prog w g0 mg mb loose mean fx)).Ok) (hk : fi.scope.names.lookup ("sorted" : Str) = some .globalImplicit := by rfl) : PE (mkG prog w g0 mg mb loose mean fx) n fi σ (.Name "sorted" pos) (.val (.builtin "sorted")) σ := pe_blt ok (g.sorted w.params) (by kernel_rfl) hk (by decide) (by decide)
theorem g.sum (P : PySem.Params) : nsIn (K39 P) mainGlobals "sum" = some none := by kernel_rfl
theorem pg.sum (ok : ((mkG prog w g0 mg mb loose mean fx)).Ok) (hk : fi.scope.names.lookup ("sum" : Str) = some .globalImplicit := by rfl) : PE (mkG prog w g0 mg mb loose mean fx) n fi σ (.Name "sum" pos) (.val (.builtin "sum")) σ := pe_blt ok (g.sum w.params) (by kernel_rfl) hk (by decide) (by decide)
theorem g.abs (P : PySem.Params) : nsIn (K39 P) mainGlobals "abs" = some none := by kernel_rfl
theorem pg.abs (ok : ((mkG prog w g0 mg mb loose mean fx)).Ok) (hk : fi.scope.names.lookup ("abs" : Str) = some .globalImplicit := by rfl) : PE (mkG prog w g0 mg mb loose mean fx) n fi σ (.Name "abs" pos) (.val (.builtin "abs")) σ := pe_blt ok (g.abs w.params) (by kernel_rfl) hk (by decide) (by decide)
theorem g.chr (P : PySem.Params) : nsIn (K39 P) mainGlobals "chr" = some none := by kernel_rfl
theorem pg.chr (ok : ((mkG prog w g0 mg mb loose mean fx)).Ok) (hk : fi.scope.names.lookup ("chr" : Str) = some .globalImplicit := by rfl) : PE (mkG prog w g0 mg mb loose mean fx) n fi σ (.Name "chr" pos) (.val (.builtin "chr")) σ := pe_blt ok (g.chr w.params) (by kernel_rfl) hk (by decide) (by decide)
theorem g.divmod (P : PySem.Params) : nsIn (K39 P) mainGlobals "divmod" = some none := by kernel_rfl
theorem pg.divmod (ok : ((mkG prog w g0 mg mb loose mean fx)).Ok) (hk : fi.scope.names.lookup ("divmod" : Str) = some .globalImplicit := by rfl) : PE (mkG prog w g0 mg mb loose mean fx) n fi σ (.Name "divmod" pos) (.val (.builtin "divmod")) σ := pe_blt ok (g.divmod w.params) (by kernel_rfl) hk (by decide) (by decide)
theorem g.compute_powers (P : PySem.Params) : nsIn (K39 P) mainGlobals "compute_powers" = some (some (.ref 46)) := by kernel_rfl
theorem pg.compute_powers (ok : ((mkG prog w g0 mg mb loose mean fx)).Ok) (hk : fi.scope.names.lookup ("compute_powers" : Str) = some .globalImplicit := by rfl) : PE (mkG prog w g0 mg mb loose mean fx) n fi σ (.Name "compute_powers" pos) (.val (.ref 46)) σ := pe_glob ok (g.compute_powers w.params) hk (by decide)
theorem g.str_to_int_inner (P : PySem.Params) : nsIn (K39 P) mainGlobals "_str_to_int_inner" = some (some (.ref 53)) := by kernel_rfl
theorem pg.str_to_int_inner (ok : ((mkG prog w g0 mg mb loose mean fx)).Ok) (hk : fi.scope.names.lookup ("_str_to_int_inner" : Str) = some .globalImplicit := by rfl) : PE (mkG prog w g0 mg mb loose mean fx) n fi σ (.Name "_str_to_int_inner" pos) (.val (.ref 53)) σ := pe_glob ok (g.str_to_int_inner w.params) hk (by decide)
theorem g.int_from_string (P : PySem.Params) : nsIn (K39 P) mainGlobals "int_from_string" = some (some (.ref 60)) := by kernel_rfl
theorem pg.int_from_string (ok : ((mkG prog w g0 mg mb loose mean fx)).Ok) (hk : fi.scope.names.lookup ("int_from_string" : Str) = some .globalImplicit := by rfl) : PE (mkG prog w g0 mg mb loose mean fx) n fi σ (.Name "int_from_string" pos) (.val (.ref 60)) σ := pe_glob ok (g.int_from_string w.params) hk (by decide)
theorem g.div2n1n (P : PySem.Params) : nsIn (K39 P) mainGlobals "_div2n1n" = some (some (.ref 67)) := by kernel_rfl
theorem pg.div2n1n (ok : ((mkG prog w g0 mg mb loose mean fx)).Ok) (hk : fi.scope.names.lookup ("_div2n1n" : Str) = some .globalImplicit := by rfl) : PE (mkG prog w g0 mg mb loose mean fx) n fi σ (.Name "_div2n1n" pos) (.val (.ref 67)) σ := pe_glob ok (g.div2n1n w.params) hk (by decide)
theorem g.int2digits (P : PySem.Params) : nsIn (K39 P) mainGlobals "_int2digits" = some (some (.ref 81)) := by kernel_rfl
theorem pg.int2digits (ok : ((mkG prog w g0 mg mb loose mean fx)).Ok) (hk : fi.scope.names.lookup ("_int2digits" : Str) = some .globalImplicit := by rfl) : PE (mkG prog w g0 mg mb loose mean fx) n fi σ (.Name "_int2digits" pos) (.val (.ref 81)) σ := pe_glob ok (g.int2digits w.params) hk (by decide)
theorem g.digits2int (P : PySem.Params) : nsIn (K39 P) mainGlobals "_digits2int" = some (some (.ref 88)) := by kernel_rfl
theorem pg.digits2int (ok : ((mkG prog w g0 mg mb loose mean fx)).Ok) (hk : fi.scope.names.lookup ("_digits2int" : Str) = some .globalImplicit := by rfl) : PE (mkG prog w g0 mg mb loose mean fx) n fi σ (.Name "_digits2int" pos) (.val (.ref 88)) σ := pe_glob ok (g.digits2int w.params) hk (by decide)
theorem g.divmod_pos (P : PySem.Params) : nsIn (K39 P) mainGlobals "_divmod_pos" = some (some (.ref 95)) := by kernel_rfl
theorem pg.divmod_pos (ok : ((mkG prog w g0 mg mb loose mean fx)).Ok) (hk : fi.scope.names.lookup ("_divmod_pos" : Str) = some .globalImplicit := by rfl) : PE (mkG prog w g0 mg mb loose mean fx) n fi σ (.Name "_divmod_pos" pos) (.val (.ref 95)) σ := pe_glob ok (g.divmod_pos w.params) hk (by decide)
theorem g.int_divmod (P : PySem.Params) : nsIn (K39 P) mainGlobals "int_divmod" = some (some (.ref 102)) := by kernel_rfl
theorem pg.int_divmod (ok : ((mkG prog w g0 mg mb loose mean fx)).Ok) (hk : fi.scope.names.lookup ("int_divmod" : Str) = some .globalImplicit := by rfl) : PE (mkG prog w g0 mg mb loose mean fx) n fi σ (.Name "int_divmod" pos) (.val (.ref 102)) σ := pe_glob ok (g.int_divmod w.params) hk (by decide)
theorem g.insort_right (P : PySem.Params) : nsIn (K39 P) mainGlobals "insort_right" = some (some (.ref 111)) := by kernel_rfl
theorem pg.insort_right (ok : ((mkG prog w g0 mg mb loose mean fx)).Ok) (hk : fi.scope.names.lookup ("insort_right" : Str) = some .globalImplicit := by rfl) : PE (mkG prog w g0 mg mb loose mean fx) n fi σ (.Name "insort_right" pos) (.val (.ref 111)) σ := pe_glob ok (g.insort_right w.params) hk (by decide)
theorem g.bisect_right (P : PySem.Params) : nsIn (K39 P) mainGlobals "bisect_right" = some (some (.ref 120)) := by kernel_rfl
theorem pg.bisect_right (ok : ((mkG prog w g0 mg mb loose mean fx)).Ok) (hk : fi.scope.names.lookup ("bisect_right" : Str) = some .globalImplicit := by rfl) : PE (mkG prog w g0 mg mb loose mean fx) n fi σ (.Name "bisect_right" pos) (.val (.ref 120)) σ := pe_glob ok (g.bisect_right w.params) hk (by decide)
theorem g.insort_left (P : PySem.Params) : nsIn (K39 P) mainGlobals "insort_left" = some (some (.ref 129)) := by kernel_rfl
theorem pg.insort_left (ok : ((mkG prog w g0 mg mb loose mean fx)).Ok) (hk : fi.scope.names.lookup ("insort_left" : Str) = some .globalImplicit := by rfl) : PE (mkG prog w g0 mg mb loose mean fx) n fi σ (.Name "insort_left" pos) (.val (.ref 129)) σ := pe_glob ok (g.insort_left w.params) hk (by decide)
theorem g.bisect_left (P : PySem.Params) : nsIn (K39 P) mainGlobals "bisect_left" = some (some (.ref 138)) := by kernel_rfl
theorem pg.bisect_left (ok : ((mkG prog w g0 mg mb loose mean fx)).Ok) (hk : fi.scope.names.lookup ("bisect_left" : Str) = some .globalImplicit := by rfl) : PE (mkG prog w g0 mg mb loose mean fx) n fi σ (.Name "bisect_left" pos) (.val (.ref 138)) σ := pe_glob ok (g.bisect_left w.params) hk (by decide)
theorem g.law_cells (P : PySem.Params) : nsIn (K39 P) mainGlobals "_law_cells" = some (some (.ref 291)) := by kernel_rfl
theorem pg.law_cells (ok : ((mkG prog w g0 mg mb loose mean fx)).Ok) (hk : fi.scope.names.lookup ("_law_cells" : Str) = some .globalImplicit := by rfl) : PE (mkG prog w g0 mg mb loose mean fx) n fi σ (.Name "_law_cells" pos) (.val (.ref 291)) σ := pe_glob ok (g.law_cells w.params) hk (by decide)
theorem g.law_table (P : PySem.Params) : nsIn (K39 P) mainGlobals "_law_table" = some (some (.ref 298)) := by kernel_rfl
theorem pg.law_table (ok : ((mkG prog w g0 mg mb loose mean fx)).Ok) (hk : fi.scope.names.lookup ("_law_table" : Str) = some .globalImplicit := by rfl) : PE (mkG prog w g0 mg mb loose mean fx) n fi σ (.Name "_law_table" pos) (.val (.ref 298)) σ := pe_glob ok (g.law_table w.params) hk (by decide)
theorem g.law_whole (P : PySem.Params) : nsIn (K39 P) mainGlobals "_law_whole" = some (some (.ref 305)) := by kernel_rfl
theorem pg.law_whole (ok : ((mkG prog w g0 mg mb loose mean fx)).Ok) (hk : fi.scope.names.lookup ("_law_whole" : Str) = some .globalImplicit := by rfl) : PE (mkG prog w g0 mg mb loose mean fx) n fi σ (.Name "_law_whole" pos) (.val (.ref 305)) σ := pe_glob ok (g.law_whole w.params) hk (by decide)
theorem g.law_floors (P : PySem.Params) : nsIn (K39 P) mainGlobals "_law_floors" = some (some (.ref 310)) := by kernel_rfl
theorem pg.law_floors (ok : ((mkG prog w g0 mg mb loose mean fx)).Ok) (hk : fi.scope.names.lookup ("_law_floors" : Str) = some .globalImplicit := by rfl) : PE (mkG prog w g0 mg mb loose mean fx) n fi σ (.Name "_law_floors" pos) (.val (.ref 310)) σ := pe_glob ok (g.law_floors w.params) hk (by decide)
theorem g.law_plain (P : PySem.Params) : nsIn (K39 P) mainGlobals "_law_plain" = some (some (.ref 315)) := by kernel_rfl
theorem pg.law_plain (ok : ((mkG prog w g0 mg mb loose mean fx)).Ok) (hk : fi.scope.names.lookup ("_law_plain" : Str) = some .globalImplicit := by rfl) : PE (mkG prog w g0 mg mb loose mean fx) n fi σ (.Name "_law_plain" pos) (.val (.ref 315)) σ := pe_glob ok (g.law_plain w.params) hk (by decide)
theorem g.law_falls (P : PySem.Params) : nsIn (K39 P) mainGlobals "_law_falls" = some (some (.ref 320)) := by kernel_rfl
theorem pg.law_falls (ok : ((mkG prog w g0 mg mb loose mean fx)).Ok) (hk : fi.scope.names.lookup ("_law_falls" : Str) = some .globalImplicit := by rfl) : PE (mkG prog w g0 mg mb loose mean fx) n fi σ (.Name "_law_falls" pos) (.val (.ref 320)) σ := pe_glob ok (g.law_falls w.params) hk (by decide)
theorem g.law_told (P : PySem.Params) : nsIn (K39 P) mainGlobals "_law_told" = some (some (.ref 325)) := by kernel_rfl
theorem pg.law_told (ok : ((mkG prog w g0 mg mb loose mean fx)).Ok) (hk : fi.scope.names.lookup ("_law_told" : Str) = some .globalImplicit := by rfl) : PE (mkG prog w g0 mg mb loose mean fx) n fi σ (.Name "_law_told" pos) (.val (.ref 325)) σ := pe_glob ok (g.law_told w.params) hk (by decide)
theorem g.law_strips (P : PySem.Params) : nsIn (K39 P) mainGlobals "_law_strips" = some (some (.ref 330)) := by kernel_rfl
theorem pg.law_strips (ok : ((mkG prog w g0 mg mb loose mean fx)).Ok) (hk : fi.scope.names.lookup ("_law_strips" : Str) = some .globalImplicit := by rfl) : PE (mkG prog w g0 mg mb loose mean fx) n fi σ (.Name "_law_strips" pos) (.val (.ref 330)) σ := pe_glob ok (g.law_strips w.params) hk (by decide)
theorem g.law_names_agree (P : PySem.Params) : nsIn (K39 P) mainGlobals "_law_names_agree" = some (some (.ref 335)) := by kernel_rfl
theorem pg.law_names_agree (ok : ((mkG prog w g0 mg mb loose mean fx)).Ok) (hk : fi.scope.names.lookup ("_law_names_agree" : Str) = some .globalImplicit := by rfl) : PE (mkG prog w g0 mg mb loose mean fx) n fi σ (.Name "_law_names_agree" pos) (.val (.ref 335)) σ := pe_glob ok (g.law_names_agree w.params) hk (by decide)
theorem g.law_ground (P : PySem.Params) : nsIn (K39 P) mainGlobals "_law_ground" = some (some (.ref 342)) := by kernel_rfl
theorem pg.law_ground (ok : ((mkG prog w g0 mg mb loose mean fx)).Ok) (hk : fi.scope.names.lookup ("_law_ground" : Str) = some .globalImplicit := by rfl) : PE (mkG prog w g0 mg mb loose mean fx) n fi σ (.Name "_law_ground" pos) (.val (.ref 342)) σ := pe_glob ok (g.law_ground w.params) hk (by decide)
theorem g.law_laid (P : PySem.Params) : nsIn (K39 P) mainGlobals "_law_laid" = some (some (.ref 349)) := by kernel_rfl
theorem pg.law_laid (ok : ((mkG prog w g0 mg mb loose mean fx)).Ok) (hk : fi.scope.names.lookup ("_law_laid" : Str) = some .globalImplicit := by rfl) : PE (mkG prog w g0 mg mb loose mean fx) n fi σ (.Name "_law_laid" pos) (.val (.ref 349)) σ := pe_glob ok (g.law_laid w.params) hk (by decide)
theorem g.Headers (P : PySem.Params) : nsIn (K39 P) mainGlobals "Headers" = some (some (.ref 282)) := by kernel_rfl
theorem pg.Headers (ok : ((mkG prog w g0 mg mb loose mean fx)).Ok) (hk : fi.scope.names.lookup ("Headers" : Str) = some .globalImplicit := by rfl) : PE (mkG prog w g0 mg mb loose mean fx) n fi σ (.Name "Headers" pos) (.val (.ref 282)) σ := pe_glob ok (g.Headers w.params) hk (by decide)
theorem g.name_disallowed_re (P : PySem.Params) : nsIn (K39 P) mainGlobals "_name_disallowed_re" = some (some (.ref 148)) := by kernel_rfl
theorem pg.name_disallowed_re (ok : ((mkG prog w g0 mg mb loose mean fx)).Ok) (hk : fi.scope.names.lookup ("_name_disallowed_re" : Str) = some .globalImplicit := by rfl) : PE (mkG prog w g0 mg mb loose mean fx) n fi σ (.Name "_name_disallowed_re" pos) (.val (.ref 148)) σ := pe_glob ok (g.name_disallowed_re w.params) hk (by decide)
theorem g.value_disallowed_re (P : PySem.Params) : nsIn (K39 P) mainGlobals "_value_disallowed_re" = some (some (.ref 153)) := by kernel_rfl
theorem pg.value_disallowed_re (ok : ((mkG prog w g0 mg mb loose mean fx)).Ok) (hk : fi.scope.names.lookup ("_value_disallowed_re" : Str) = some .globalImplicit := by rfl) : PE (mkG prog w g0 mg mb loose mean fx) n fi σ (.Name "_value_disallowed_re" pos) (.val (.ref 153)) σ := pe_glob ok (g.value_disallowed_re w.params) hk (by decide)
end
end
section
section
variable {G : Gnd} {n m : Nat} {fi : Fi} {env : Env} {A : Around} {α : List Addr} {s : Shared} {σ σ' σ₁ σ₂ σ₃ σ₄ : AS}
theorem Sub.trans {σ₁ σ₂ σ₃ : AS} (a : Sub σ₁ σ₂) (b : Sub σ₂ σ₃) : Sub σ₁ σ₃ := ⟨fun x d e => b.loc x d (a.loc x d e), fun x d e => b.cel x d (a.cel x d e), a.H.trans b.H⟩
theorem Sub.refl {σ : AS} : Sub σ σ := ⟨fun _ _ e => e, fun _ _ e => e, rfl⟩
noncomputable def NextOk (σ₀ : AS) : Out → Prop := fun o => ∃ σ, o = .next σ ∧ Sub σ₀ σ
theorem for_ind {x : Str} {body : List Stmt} : ∀ {src : List D} (inv : Nat → AS) (h : ∀ i d, src[i]? = some d → ∃ σ', SN G n fi (inv i) x d σ' ∧ σ'.H = (inv i).H ∧ SE G n fi σ' body (NextOk (inv (i + 1)))) (hH : ∀ i, (inv i).H.length = (inv 0).H.length), ForB G n fi x body (NextOk (inv src.length)) src (inv 0)
  | [], inv, h, hH => ⟨_, rfl, .refl⟩
  | d :: src, inv, h, hH => by
    obtain ⟨σ', h1, h2, h3⟩ := h 0 d rfl
    refine ⟨σ', h1, h2, h3.mono ?_⟩
    rintro o ⟨σ'', rfl, u⟩
    have := for_ind (src := src) (fun i => inv (i + 1)) (fun i d e => h (i + 1) d (by simpa using e)) (fun i => by rw [hH (i + 1), hH (0 + 1)])
    refine ⟨by rw [← u.H, hH], ForB.weak (fun σ σ' u q => ?_) u this⟩
    obtain ⟨σ0, e, v⟩ := q
    cases e
    exact ⟨σ, rfl, v.trans u⟩
theorem se_for {x : Str} {px pos : Pos} {iter : Expr} {body rest : List Stmt} {src : List D} {Q : Out → Prop} (inv : Nat → AS) (hit : PI G n fi σ iter (.Name x px) src σ₁) (h0 : Sub (inv 0) σ₁) (hH : ∀ i, (inv i).H.length = (inv 0).H.length)
    (h : ∀ i d, src[i]? = some d → ∃ σ', SN G n fi (inv i) x d σ' ∧ σ'.H = (inv i).H ∧ SE G n fi σ' body (NextOk (inv (i + 1)))) (k : SE G n fi (inv src.length) rest Q)
    (hs : ∀ env x, foldedSetIterable iter env x = pure x := by intro _ _; rfl) : SE G n fi σ (.For (.Name x px) iter body [] pos :: rest) Q := by
  refine se_cons (S1.mono (s_for hit (ForB.weak (fun σ σ' u q => ?_) h0 (for_ind inv h hH)) hs) ?_)
  · obtain ⟨σ0, e, v⟩ := q
    cases e
    exact ⟨σ, rfl, v.trans u⟩
  · rintro o ⟨σ', rfl, u⟩
    exact SE.weak u k
theorem rngD_get {a c : Int} {k i : Nat} {d : D} (h : (rngD a c k)[i]? = some d) : i < k ∧ d = .int (a + (i : Int) * c) := by
  unfold rngD at h
  rw [List.getElem?_map] at h
  obtain ⟨j, h1, h2⟩ := Option.map_eq_some_iff.mp h
  obtain ⟨h3, h4⟩ := List.getElem?_eq_some_iff.mp h1
  rw [List.length_range] at h3
  rw [List.getElem_range] at h4
  subst h4
  exact ⟨h3, h2.symm⟩
theorem small1 {a b : Int} (h1 : -1000000 ≤ a) (h2 : a ≤ 1000000) (h3 : -1000000 ≤ b) (h4 : b ≤ 1000000) : Builtin.Range.small a b 1 = true := small_one (by omega) (by omega) (by omega) (by omega)
theorem size1 {a b : Int} : Builtin.Range.rangeSize a b 1 = ((b - a).toNat : Int) := by rw [rangeSize_one]; split <;> omega
theorem compB_map {cel : List (Str × D)} {H : List Cont} {x : Str} {px : Pos} {elt : Expr} {υ υ' : Type} {f : υ → D} {g : υ' → D} {k : υ → υ'} (hg : ∀ b, (g b).flat = true) (hx : fi.scope.names.lookup x = some .local) :
    ∀ (l : List υ), (∀ b ∈ l, PE G n fi ⟨[(x, f b)], cel, H⟩ elt (g (k b)) ⟨[(x, f b)], cel, H⟩) → CompB G n fi cel H (.Name x px) elt [] (l.map f) ((l.map k).map g)
  | [], _ => .nil
  | b :: l, h => .keep (tgt_name hx) pts_nil (h b (.head _)) (hg _) (compB_map hg hx l fun b hb => h b (.tail _ hb))
theorem compB_filter {cel : List (Str × D)} {H : List Cont} {x : Str} {px : Pos} {elt test : Expr} {υ υ' : Type} {f : υ → D} {g : υ' → D} {k : υ → υ'} {p : υ → Bool} (hg : ∀ b, (g b).flat = true) (hx : fi.scope.names.lookup x = some .local) :
    ∀ (l : List υ), (∀ b ∈ l, PT G n fi ⟨[(x, f b)], cel, H⟩ test (p b) ⟨[(x, f b)], cel, H⟩) → (∀ b ∈ l, PE G n fi ⟨[(x, f b)], cel, H⟩ elt (g (k b)) ⟨[(x, f b)], cel, H⟩) → CompB G n fi cel H (.Name x px) elt [test] (l.map f) (((l.filter p).map k).map g)
  | [], _, _ => .nil
  | b :: l, ht, h => by
    have r := compB_filter (px := px) hg hx l (fun b hb => ht b (.tail _ hb)) fun b hb => h b (.tail _ hb)
    have hb := ht b (.head _)
    rw [List.filter_cons]
    cases hp : p b with
    | true => rw [hp] at hb; exact .keep (tgt_name hx) (pts_one hb) (h b (.head _)) (hg _) r
    | false => rw [hp] at hb; exact .skip (tgt_name hx) (pts_one hb) r
end
end
section
section
variable {G : Gnd} {n m : Nat} {fi : Fi} {env : Env} {A : Around} {α : List Addr} {s : Shared} {σ σ' σ₁ σ₂ σ₃ σ₄ : AS}
theorem s_ret0 {pos : Pos} {Q : Out → Prop} (q : Q (.ret .none σ)) : S1 G n fi σ (.Return none pos) Q := .mk fun A env α s hA hE F =>
  wpAny_Return_none (SPost.here (o := .ret .none σ) q F ⟨_, rfl, by simp only [RepC]⟩)
theorem clL_ok {cs : List (Str × Addr)} : ∀ {names : List (Str × NameKind)} {acc : List (Str × Addr)}, (∀ x ∈ names, x.2 = .free → ∃ c, cs.lookup x.1 = some c) → (∀ p ∈ acc, cs.lookup p.1 = some p.2) → ∀ p ∈ clL cs names acc, cs.lookup p.1 = some p.2
  | [], _, _, ha, p, hp => ha p hp
  | (n, k) :: r, acc, h, ha, p, hp => by
    rw [clL] at hp
    refine clL_ok (fun x hx => h x (.tail _ hx)) (fun q hq => ?_) p hp
    split at hq
    · rename_i hk
      rcases List.mem_cons.mp hq with rfl | hq
      · obtain ⟨c, hc⟩ := h (n, k) (.head _) (by simpa using hk)
        show cs.lookup n = some _
        rw [hc]; rfl
      · exact ha q hq
    · exact ha q hq
theorem celCl_lookup {cl : List (Str × Addr)} {x : Str} {d : D} (hc : (cl.lookup x).isSome = true) : ∀ {l : List (Str × D)}, l.lookup x = some d → (celCl cl l).lookup x = some d
  | [], h => by simp at h
  | (y, e) :: r, h => by
    rw [List.lookup_cons] at h
    unfold celCl
    rw [List.filter_cons]
    split at h
    · rename_i q
      rw [beq_iff_eq.mp q] at hc
      rw [if_pos hc, List.lookup_cons, q]; exact h
    · rename_i q
      have ih := celCl_lookup hc (l := r) h
      unfold celCl at ih
      split
      · rw [List.lookup_cons, q]; exact ih
      · exact ih
end
end
section
section
variable {G : Gnd} {n m : Nat} {fi : Fi} {env : Env} {A : Around} {α : List Addr} {s : Shared} {σ σ' σ₁ σ₂ σ₃ σ₄ : AS}
noncomputable def nmE (l : List (Str × Pos)) : List Expr := l.map fun p => .Name p.1 p.2
noncomputable def SNs (G : Gnd) (n : Nat) (fi : Fi) : AS → List (Str × Pos) → List D → AS → Prop
  | σ, [], [], σ' => σ' = σ
  | σ, p :: l, d :: ds, σ' => ∃ σ₁, SN G n fi σ p.1 d σ₁ ∧ SNs G n fi σ₁ l ds σ'
  | _, _, _, _ => False
theorem assignEach_names : ∀ (l : List (Str × Pos)), assignEach (nmE l) env = l.map fun p => (false, assign (.Name p.1 p.2) env)
  | [] => rfl
  | p :: l => by
    show (false, assign (.Name p.1 p.2) env) :: assignEach (nmE l) env = _
    rw [assignEach_names l]; rfl
theorem assign_names (hA : OKA n A) (hE : EnvOk env fi) : ∀ (l : List (Str × Pos)) (ds : List D) (vs : List Value) (s : Shared) (σ σ' : AS), Fm G env σ α s → SNs G n fi σ l ds σ' → Reps env α s.heap ds vs →
    wpAny (model G.prog G.w) A (assignInOrder (l.map fun p => assign (.Name p.1 p.2) env) vs) (fun _ s' => Sp G (env.locals :: ownC env) s s' ∧ Fm G env σ' α s') bot s
  | [], [], vs, s, σ, σ', F, hs, r => by
    simp only [RepsC] at r; subst r
    cases hs
    exact assignInOrder_nil ⟨.refl, F⟩
  | p :: l, d :: ds, vs, s, σ, σ', F, hs, r => by
    simp only [RepsC] at r
    obtain ⟨v, rest, rfl, r1, r2⟩ := r
    obtain ⟨σ₁, h1, h2⟩ := hs
    refine assignInOrder_cons (wpAny_assign_Name (wpAny_mono (h1.run A env α s v hA hE F r1) (fun _ s₁ ⟨sp, F1⟩ => ?_) fun _ _ x => x))
    have fk := F.frz (locFoot (α := α) (h := sp))
    have lk := F.lst (locFoot (α := α) (h := sp))
    have r2' : Reps env α s₁.heap ds rest := by
      have := RepsC.still (c' := some (α ++ [])) fk lk (grow_of fun _ h => nomatch h) r2
      rwa [List.append_nil] at this
    exact wpAny_mono (assign_names hA hE l ds rest s₁ σ₁ σ' F1 h2 r2') (fun _ s₂ ⟨sp2, F2⟩ => ⟨sp.trans sp2, F2⟩) fun _ _ x => x
  | [], _ :: _, _, _, _, _, _, hs, _ => hs.elim
  | _ :: _, [], _, _, _, _, _, hs, _ => hs.elim
/-- x, y = e -/
theorem s_assignT {l : List (Str × Pos)} {es : List Expr} {k : Nat} {tp pos : Pos} {e : Expr} {ds : List D} {Q : Out → Prop} (h : PE G n fi σ e (.tup ds) σ₁) (hl : ds.length = l.length) (hs : SNs G n fi σ₁ l ds σ₂) (q : Q (.next σ₂)) (he : es = nmE l := by rfl)
    (hsw : ∀ env, swapsWithSole [.Tuple es k tp] e pos.line env = pure false := by intro _; rfl) (hw : ∀ env, swappedStores [.Tuple es k tp] e env = pure none := by intro _; rfl) : S1 G n fi σ (.Assign [.Tuple es k tp] e pos) Q := .mk fun A env α s hA hE F => by
  refine Assign_Tuple (seq2 (h.run A env α s hA hE F) fun v β s₁ sp hb F1 r1 => ?_) (hsw env) (hw env)
  subst he
  simp only [RepC] at r1
  obtain ⟨a, vs, rfl, ht, hr⟩ := r1
  have hlen := hr.length
  refine wpAny_assign_Tuple hA.hh ht (by rw [assignEach_names]; simp; omega) (by rw [assignEach_names, List.findIdx?_eq_none_iff]; simp) fun h' hx => ?_
  have k : ∀ b o, s₁.heap.get? b = some o → h'.get? b = some o := fun b o e => hx b o (Nat.ne_of_lt (Heap.lt_size e)) e
  have F1' := F1.all (t := s₁.toks) k
  have e2 : (assignEach (nmE l) env).map (·.2) = l.map fun p => assign (.Name p.1 p.2) env := by rw [assignEach_names, List.map_map]; rfl
  rw [e2]
  refine wpAny_mono (assign_names hA hE l ds vs _ σ₁ σ₂ F1' hs (F1.keepDs k hr)) (fun _ s₂ ⟨sp2, F2⟩ => ?_) fun _ _ x => x
  exact SPost.up sp.foot hb (SPost.up (β := []) (Sp.all (t := s₁.toks) k) (fun _ h => nomatch h) ⟨.next σ₂, [], q, by rw [List.append_nil]; exact locFoot (h := sp2), (fun _ h => nomatch h), by rw [List.append_nil, List.append_nil]; exact F2, rfl⟩)
theorem pe_globI {G : Gnd} {σ : AS} {x : Str} {pos : Pos} {i : Int} {t : Tok} (h : PE G n fi σ (.Name x pos) (.val (.int i t)) σ) : PE G n fi σ (.Name x pos) (.int i) σ := .mk fun A env α s hA hE F =>
  wpAny_mono (h.run A env α s hA hE F) (fun v s' ⟨β, a, b, c, d⟩ => ⟨β, a, b, c, by simp only [RepC] at d ⊢; exact ⟨t, d⟩⟩) fun _ _ x => x
end
end
section
/-! bisect_left over ints -/
noncomputable def blGo (xs : List Int) (x : Int) : Nat → Nat → Nat → Nat
  | 0, lo, _ => lo
  | f + 1, lo, hi => if lo < hi then (if xs.getD ((lo + hi) / 2) 0 < x then blGo xs x f ((lo + hi) / 2 + 1) hi else blGo xs x f lo ((lo + hi) / 2)) else lo
section
variable {prog : Program} {w : World} {g0 : Heap} {mg mb : Str → Option Value} {loose : List Str} {mean : ExcName → Option Value} {fx : List (Addr × Obj)}
theorem fdiv2 (a b : Nat) : ((a : Int) + (b : Int)).fdiv 2 = (((a + b) / 2 : Nat) : Int) := by
  rw [Int.fdiv_eq_ediv_of_nonneg _ (by decide)]; omega
noncomputable def blLoc (a x key lo hi : D) : List (Str × D) := [("lo", lo), ("hi", hi), ("a", a), ("x", x), ("key", key)]
theorem bl_loop {n : Nat} {xs : List Int} {x : Int} {c : List (Str × D)} {H : List Cont} {cv : Option (Value × Str)} (hx : xs.length ≤ 1000000) : ∀ (f lo hi : Nat), hi - lo < f → hi ≤ xs.length →
    WhB (mkG prog w g0 mg mb loose mean fx) n ⟨bleft.scope, cv, true, none⟩ bleft.test0 bleft.loop0
      (fun o => ∃ σ, o = .next σ ∧ σ.loc.lookup ("lo" : Str) = some (D.int (blGo xs x f lo hi : Nat)) ∧ σ.H = H) f ⟨blLoc (.lst (dI xs)) (.int x) .none (.int lo) (.int hi), c, H⟩ := by
  intro f
  induction f with
  | zero => intro lo hi h; omega
  | succ f ih =>
    intro lo hi hf hh
    refine ⟨decide ((lo : Int) < (hi : Int)), _, by walk_at "pt", rfl, ?_⟩
    by_cases hlt : (lo : Int) < (hi : Int)
    · have hlt' : lo < hi := by omega
      rw [if_pos (decide_eq_true hlt)]
      have hm : (lo + hi) / 2 < xs.length := by omega
      walk_at "ps_set"
      rw [fdiv2]
      apply se_cons; apply s_if
      · apply pt_cmp
        · exact pe_itemN pe_loc pe_loc (.inl rfl) (getD_some (y := 0) hm) hx
        · walk_at "pv"
        · walk_at "po"
        · with_unfolding_all rfl
      · by_cases hc : xs.getD ((lo + hi) / 2) 0 < x
        · rw [if_pos (decide_eq_true hc)]
          walk_at "ps_set"
          walk_at "ps_end"
          refine se_nil ⟨rfl, ?_⟩
          have e : blGo xs x (f + 1) lo hi = blGo xs x f ((lo + hi) / 2 + 1) hi := by simp only [blGo, if_pos hlt', if_pos hc]
          rw [e]
          refine WhB.weak (σ' := ⟨blLoc (.lst (dI xs)) (.int x) .none (.int (((lo + hi) / 2 + 1 : Nat) : Int)) (.int hi), c, H⟩) (SubL.mk (by unfold blLoc; walk_at "sub_l")) (ih _ _ (by omega) hh)
        · rw [if_neg (by rw [decide_eq_false hc]; decide)]
          walk_at "ps_set"
          walk_at "ps_end"
          refine se_nil ⟨rfl, ?_⟩
          have e : blGo xs x (f + 1) lo hi = blGo xs x f lo ((lo + hi) / 2) := by simp only [blGo, if_pos hlt', if_neg hc]
          rw [e]
          exact WhB.weak (σ' := ⟨blLoc (.lst (dI xs)) (.int x) .none (.int lo) (.int (((lo + hi) / 2 : Nat) : Int)), c, H⟩) (SubL.mk (by unfold blLoc; walk_at "sub_l")) (ih _ _ (by omega) (by omega))
    · rw [if_neg (by rw [decide_eq_false hlt]; decide)]
      refine ⟨_, rfl, ?_, rfl⟩
      have : ¬ lo < hi := by omega
      simp only [blGo, if_neg this]
      rfl
noncomputable def bl (xs : List Int) (x : Int) : Nat := blGo xs x (xs.length + 1) 0 xs.length
noncomputable abbrev biBs (xs : List Int) (x : Int) : List (Str × D) := [("a", .lst (dI xs)), ("x", .int x), ("lo", .int 0), ("hi", .none), ("key", .none)]
theorem bleft_body (ok : ((mkG prog w g0 mg mb loose mean fx)).Ok) {n : Nat} {xs : List Int} {x : Int} {cv : Option (Value × Str)} (hx : xs.length ≤ 1000000) : SE (mkG prog w g0 mg mb loose mean fx) n ⟨bleft.scope, cv, true, none⟩ ⟨bindLoc (fun x => bleft.scope.names.lookup x) (biBs xs x) [], bindCel (fun x => bleft.scope.names.lookup x) (biBs xs x) [], []⟩ bleft.body (ExitOk 0 (.int (bl xs x : Nat)) []) := by
    unfold bleft.body
    walk_at "ps_no"
    walk_at "ps_yes"
    apply se_cons
    apply s_assign
    · exact pe_call (pg.len ok) (pes_cons pe_loc pes_nil) pks_nil (fun _ _ => keeps_blt) (c_len (.inl rfl) (by simpa [dI] using hx))
    · exact sn_loc
    rotate_left
    · intro _ _; rfl
    show SE _ _ _ _ _ _
    walk_at "ps_end"
    walk_at "ps_yes"
    apply se_cons
    apply S1.mono
    · apply s_while (xs.length + 1)
      have e : ((dI xs).length : Int) = ((xs.length : Nat) : Int) := by simp [dI]
      rw [e]
      refine WhB.weak (σ' := ⟨blLoc (.lst (dI xs)) (.int x) .none (.int (0 : Nat)) (.int (xs.length : Nat)), [], []⟩) (SubL.mk (by unfold blLoc; walk_at "sub_l")) (bl_loop hx _ _ _ (by omega) (Nat.le_refl _))
    · rintro o ⟨σ, rfl, h1, h2⟩
      show SE _ _ _ _ _ _
      walk_at "ps_end"
      apply se_cons
      apply s_ret
      · exact pe_loc rfl h1
      · exact ⟨rfl, by rw [h2]; rfl, rfl⟩
theorem bleft_fn (ok : ((mkG prog w g0 mg mb loose mean fx)).Ok) {n : Nat} {xs : List Int} {x : Int} (hx : xs.length ≤ 1000000) : Fn (mkG prog w g0 mg mb loose mean fx) (n + 1) (.ref 138) [] [.lst (dI xs), .int x] [] [] (.int (bl xs x : Nat)) [] := by
  refine fn_enter ok (bleft.ho _) (bleft.code _) (biBs xs x) 0 (fun s X c vals kvals KI ra rk => ?_) (by rfl) (by decide) (bleft_body ok hx) (by decide +kernel)
  simp only [RepsC] at ra rk
  obtain ⟨v1, _, rfl, r1, v2, _, rfl, r2, rfl⟩ := ra
  subst rk
  refine ⟨_, kp_binds KI (fun _ => rfl), rfl, ?_⟩
  simp only [List.map_cons, List.map_nil, RepsC]
  exact ⟨_, _, rfl, r1, _, _, rfl, r2, _, _, rfl, rint, _, _, rfl, rnone, _, _, rfl, rnone, rfl⟩
theorem bleft_fn4 (ok : ((mkG prog w g0 mg mb loose mean fx)).Ok) {n : Nat} {xs : List Int} {x : Int} (hx : xs.length ≤ 1000000) : Fn (mkG prog w g0 mg mb loose mean fx) (n + 1) (.ref 138) [] [.lst (dI xs), .int x, .int 0, .none] [] [] (.int (bl xs x : Nat)) [] := by
  refine fn_enter ok (bleft.ho _) (bleft.code _) (biBs xs x) 0 (fun s X c vals kvals KI ra rk => ?_) (by rfl) (by decide) (bleft_body ok hx) (by decide +kernel)
  simp only [RepsC] at ra rk
  obtain ⟨v1, _, rfl, r1, v2, _, rfl, r2, v3, _, rfl, r3, v4, _, rfl, r4, rfl⟩ := ra
  subst rk
  refine ⟨_, kp_binds KI (fun _ => rfl), rfl, ?_⟩
  simp only [List.map_cons, List.map_nil, RepsC]
  exact ⟨_, _, rfl, r1, _, _, rfl, r2, _, _, rfl, r3, _, _, rfl, r4, _, _, rfl, rnone, rfl⟩
/-! insort_left over ints -/
theorem insl_fn (ok : ((mkG prog w g0 mg mb loose mean fx)).Ok) {n : Nat} {xs : List Int} {x : Int} (hx : xs.length ≤ 1000000) (hb : bl xs x ≤ xs.length) : Fn (mkG prog w g0 mg mb loose mean fx) (n + 2) (.ref 129) [.list (dI xs)] [.ref 0, .int x] [] [] .none [.list (dI (dIns xs (bl xs x) x))] := by
  refine fn_enter ok (insl.ho _) (insl.code _) [("a", .ref 0), ("x", .int x), ("lo", .int 0), ("hi", .none), ("key", .none)] 1 (fun s X c vals kvals KI ra rk => ?_) (by rfl) (Nat.le_refl _) ?_ (by decide +kernel)
  · simp only [RepsC] at ra rk
    obtain ⟨v1, _, rfl, r1, v2, _, rfl, r2, rfl⟩ := ra
    subst rk
    refine ⟨_, kp_binds KI (fun _ => rfl), rfl, ?_⟩
    simp only [List.map_cons, List.map_nil, RepsC]
    exact ⟨_, _, rfl, r1, _, _, rfl, r2, _, _, rfl, rint, _, _, rfl, rnone, _, _, rfl, rnone, rfl⟩
  · unfold insl.body
    walk_at "ps_yes"
    apply se_cons
    apply s_assign
    · exact pe_call (pg.bisect_left ok) (pes_cons pe_loc (pes_cons pe_loc (pes_cons pe_loc (pes_cons pe_loc pes_nil)))) pks_nil (fun _ g => keeps_K' ok (by kernel_rfl) g) (call_fn [] (bleft_fn4 (n := n) ok hx) ⟨.inr (.inr ⟨0, _, rfl, rfl, rfl, by simp⟩), .inr (.inl rfl), .inr (.inl rfl), .inr (.inl rfl), trivial⟩ trivial (by omega) (fun i c h => by simp at h))
    · exact sn_loc
    rotate_left
    · intro _ _; rfl
    show SE _ _ _ _ _ _
    walk_at "ps_end"
    apply se_cons
    apply s_exprN
    · apply pe_mcall
      · exact pe_loc
      · exact gm_list rfl PySem.F.slot_list_insert rfl
      · exact pes_cons pe_loc (pes_cons pe_loc pes_nil)
      · exact pks_nil
      · exact fun _ _ => keeps_blt
      · exact c_insert (ds := dI xs) rfl rfl (Int.natCast_nonneg _) (by rw [Int.toNat_natCast]; simpa [dI] using hb) (by simpa [dI] using hx)
      · intro _; rfl
      · intro _; rfl
      · rfl
    · show SE _ _ _ _ _ _
      refine se_nil ⟨rfl, ?_, rfl⟩
      rw [Int.toNat_natCast]
      show [Cont.list _] = _
      congr 2
      simp [dIns, dI, List.map_take, List.map_drop]
    · intro _; rfl
end
end
section
/-! bisect_right over ints -/
noncomputable def brGo (xs : List Int) (x : Int) : Nat → Nat → Nat → Nat
  | 0, lo, _ => lo
  | f + 1, lo, hi => if lo < hi then (if x < xs.getD ((lo + hi) / 2) 0 then brGo xs x f lo ((lo + hi) / 2) else brGo xs x f ((lo + hi) / 2 + 1) hi) else lo
section
variable {prog : Program} {w : World} {g0 : Heap} {mg mb : Str → Option Value} {loose : List Str} {mean : ExcName → Option Value} {fx : List (Addr × Obj)}
theorem br_loop {n : Nat} {xs : List Int} {x : Int} {c : List (Str × D)} {H : List Cont} {cv : Option (Value × Str)} (hx : xs.length ≤ 1000000) : ∀ (f lo hi : Nat), hi - lo < f → hi ≤ xs.length →
    WhB (mkG prog w g0 mg mb loose mean fx) n ⟨bright.scope, cv, true, none⟩ bright.test0 bright.loop0
      (fun o => ∃ σ, o = .next σ ∧ σ.loc.lookup ("lo" : Str) = some (D.int (brGo xs x f lo hi : Nat)) ∧ σ.H = H) f ⟨blLoc (.lst (dI xs)) (.int x) .none (.int lo) (.int hi), c, H⟩ := by
  intro f
  induction f with
  | zero => intro lo hi h; omega
  | succ f ih =>
    intro lo hi hf hh
    refine ⟨decide ((lo : Int) < (hi : Int)), _, by walk_at "pt", rfl, ?_⟩
    by_cases hlt : (lo : Int) < (hi : Int)
    · have hlt' : lo < hi := by omega
      rw [if_pos (decide_eq_true hlt)]
      have hm : (lo + hi) / 2 < xs.length := by omega
      walk_at "ps_set"
      rw [fdiv2]
      apply se_cons; apply s_if
      · apply pt_cmp
        · walk_at "pv"
        · exact pe_itemN pe_loc pe_loc (.inl rfl) (getD_some (y := 0) hm) hx
        · walk_at "po"
        · with_unfolding_all rfl
      · by_cases hc : x < xs.getD ((lo + hi) / 2) 0
        · rw [if_pos (decide_eq_true hc)]
          walk_at "ps_set"
          walk_at "ps_end"
          refine se_nil ⟨rfl, ?_⟩
          have e : brGo xs x (f + 1) lo hi = brGo xs x f lo ((lo + hi) / 2) := by simp only [brGo, if_pos hlt', if_pos hc]
          rw [e]
          exact WhB.weak (σ' := ⟨blLoc (.lst (dI xs)) (.int x) .none (.int lo) (.int (((lo + hi) / 2 : Nat) : Int)), c, H⟩) (SubL.mk (by unfold blLoc; walk_at "sub_l")) (ih _ _ (by omega) (by omega))
        · rw [if_neg (by rw [decide_eq_false hc]; decide)]
          walk_at "ps_set"
          walk_at "ps_end"
          refine se_nil ⟨rfl, ?_⟩
          have e : brGo xs x (f + 1) lo hi = brGo xs x f ((lo + hi) / 2 + 1) hi := by simp only [brGo, if_pos hlt', if_neg hc]
          rw [e]
          exact WhB.weak (σ' := ⟨blLoc (.lst (dI xs)) (.int x) .none (.int (((lo + hi) / 2 + 1 : Nat) : Int)) (.int hi), c, H⟩) (SubL.mk (by unfold blLoc; walk_at "sub_l")) (ih _ _ (by omega) hh)
    · rw [if_neg (by rw [decide_eq_false hlt]; decide)]
      refine ⟨_, rfl, ?_, rfl⟩
      have : ¬ lo < hi := by omega
      simp only [brGo, if_neg this]
      rfl
noncomputable def br (xs : List Int) (x : Int) : Nat := brGo xs x (xs.length + 1) 0 xs.length
theorem bright_body (ok : ((mkG prog w g0 mg mb loose mean fx)).Ok) {n : Nat} {xs : List Int} {x : Int} {cv : Option (Value × Str)} (hx : xs.length ≤ 1000000) : SE (mkG prog w g0 mg mb loose mean fx) n ⟨bright.scope, cv, true, none⟩ ⟨bindLoc (fun x => bright.scope.names.lookup x) (biBs xs x) [], bindCel (fun x => bright.scope.names.lookup x) (biBs xs x) [], []⟩ bright.body (ExitOk 0 (.int (br xs x : Nat)) []) := by
    unfold bright.body
    walk_at "ps_no"
    walk_at "ps_yes"
    apply se_cons
    apply s_assign
    · exact pe_call (pg.len ok) (pes_cons pe_loc pes_nil) pks_nil (fun _ _ => keeps_blt) (c_len (.inl rfl) (by simpa [dI] using hx))
    · exact sn_loc
    rotate_left
    · intro _ _; rfl
    show SE _ _ _ _ _ _
    walk_at "ps_end"
    walk_at "ps_yes"
    apply se_cons
    apply S1.mono
    · apply s_while (xs.length + 1)
      have e : ((dI xs).length : Int) = ((xs.length : Nat) : Int) := by simp [dI]
      rw [e]
      refine WhB.weak (σ' := ⟨blLoc (.lst (dI xs)) (.int x) .none (.int (0 : Nat)) (.int (xs.length : Nat)), [], []⟩) (SubL.mk (by unfold blLoc; walk_at "sub_l")) (br_loop hx _ _ _ (by omega) (Nat.le_refl _))
    · rintro o ⟨σ, rfl, h1, h2⟩
      show SE _ _ _ _ _ _
      walk_at "ps_end"
      apply se_cons
      apply s_ret
      · exact pe_loc rfl h1
      · exact ⟨rfl, by rw [h2]; rfl, rfl⟩
theorem bright_fn (ok : ((mkG prog w g0 mg mb loose mean fx)).Ok) {n : Nat} {xs : List Int} {x : Int} (hx : xs.length ≤ 1000000) : Fn (mkG prog w g0 mg mb loose mean fx) (n + 1) (.ref 120) [] [.lst (dI xs), .int x] [] [] (.int (br xs x : Nat)) [] := by
  refine fn_enter ok (bright.ho _) (bright.code _) (biBs xs x) 0 (fun s X c vals kvals KI ra rk => ?_) (by rfl) (by decide) (bright_body ok hx) (by decide +kernel)
  simp only [RepsC] at ra rk
  obtain ⟨v1, _, rfl, r1, v2, _, rfl, r2, rfl⟩ := ra
  subst rk
  refine ⟨_, kp_binds KI (fun _ => rfl), rfl, ?_⟩
  simp only [List.map_cons, List.map_nil, RepsC]
  exact ⟨_, _, rfl, r1, _, _, rfl, r2, _, _, rfl, rint, _, _, rfl, rnone, _, _, rfl, rnone, rfl⟩
/-! _law_told -/
noncomputable def toldL (beads : List Int) (ground : Int) : List Int := beads.reverse.map fun b => b - ground - (bl beads b : Nat)
theorem told_fn (ok : ((mkG prog w g0 mg mb loose mean fx)).Ok) {n : Nat} {beads : List Int} {ground : Int} (hx : beads.length ≤ 1000000) : Fn (mkG prog w g0 mg mb loose mean fx) (n + 2) (.ref 325) [] [.lst (dI beads), .int ground] [] [] (.lst (dI (toldL beads ground))) [] := by
  refine fn_enter ok (told.ho _) (told.code _) [("beads", .lst (dI beads)), ("ground", .int ground)] 0 (fun s X c vals kvals KI ra rk => ?_) (by rfl) (Nat.le_refl _) ?_ (by decide +kernel)
  · simp only [RepsC] at ra rk
    obtain ⟨v1, _, rfl, r1, v2, _, rfl, r2, rfl⟩ := ra
    subst rk
    refine ⟨_, kp_binds KI (fun _ => rfl), rfl, ?_⟩
    simp only [List.map_cons, List.map_nil, RepsC]
    exact ⟨_, _, rfl, r1, _, _, rfl, r2, rfl⟩
  · unfold told.body
    apply se_cons
    apply s_ret
    · apply pe_compL
      · exact ⟨rfl, rfl, by decide +kernel, by decide +kernel, by decide +kernel⟩
      · exact pi_reversed (pg.reversed ok) pe_cel
      · have e : (dI beads).reverse = beads.reverse.map D.int := by unfold dI; rw [List.map_reverse]
        rw [e]
        apply compB_map (g := D.int) (fun _ => rfl) rfl
        intro b hb
        apply pe_binop
        · walk_at "pv"
        · exact pe_call (pg.bisect_left ok) (pes_cons pe_cel (pes_cons pe_loc pes_nil)) pks_nil (fun _ g => keeps_K' ok (by kernel_rfl) g) (call_fn [] (bleft_fn (n := n) ok hx) ⟨.inr (.inl rfl), .inr (.inl rfl), trivial⟩ trivial (by omega) (fun i c h => by simp at h))
        · walk_at "po"
      · simpa [dI] using hx
      · intro _ _; rfl
    · exact ⟨rfl, rfl, rfl⟩
end
end
section
/-! _law_cells -/
noncomputable abbrev Cell := Int × Int × Int × Int
noncomputable def encC (c : Cell) : D := .tup [.int c.1, .int c.2.1, .int c.2.2.1, .int c.2.2.2]
noncomputable def belowL (rows : List Int) (i j : Nat) : Nat := ((List.range (rows.length - (i + 1))).filter fun k => decide (rows.getD (i + 1 + k) 0 > (j : Int))).length
noncomputable def cellAt (rows : List Int) (i j : Nat) : Cell := (rows.getD i 0 - j + (belowL rows i j : Nat), i, j, (belowL rows i j : Nat))
noncomputable def rowCells (rows : List Int) (i : Nat) : List Cell := (List.range (rows.getD i 0).toNat).map (cellAt rows i)
noncomputable def cellsTo (rows : List Int) (i : Nat) : List Cell := (List.range i).flatMap (rowCells rows)
noncomputable def cellsL (rows : List Int) : List Cell := cellsTo rows rows.length
theorem cellsTo_len (rows : List Int) (h : ∀ i, rows.getD i 0 ≤ 1000) : ∀ i, (cellsTo rows i).length ≤ i * 1000
  | 0 => by simp [cellsTo]
  | i + 1 => by
    have := cellsTo_len rows h i
    have e : cellsTo rows (i + 1) = cellsTo rows i ++ rowCells rows i := by simp [cellsTo, List.range_succ]
    rw [e, List.length_append]
    have : (rowCells rows i).length = (rows.getD i 0).toNat := by simp [rowCells]
    have := h i
    omega
section
variable {prog : Program} {w : World} {g0 : Heap} {mg mb : Str → Option Value} {loose : List Str} {mean : ExcName → Option Value} {fx : List (Addr × Obj)}
theorem cells_fn (ok : ((mkG prog w g0 mg mb loose mean fx)).Ok) {n : Nat} {rows : List Int} (hx : rows.length ≤ 100) (hr : ∀ r ∈ rows, -1000 ≤ r ∧ r ≤ 1000) : Fn (mkG prog w g0 mg mb loose mean fx) (n + 1) (.ref 291) [] [.lst (dI rows)] [] [] (.lst ((cellsL rows).map encC)) [] := by
  refine fn_enter ok (cells.ho _) (cells.code _) [("rows", .lst (dI rows))] 0 (fun s X c vals kvals KI ra rk => ?_) (by rfl) (Nat.le_refl _) ?_ (by decide +kernel)
  · simp only [RepsC] at ra rk
    obtain ⟨v1, _, rfl, r1, rfl⟩ := ra
    subst rk
    refine ⟨_, kp_binds KI (fun _ => rfl), rfl, ?_⟩
    simp only [List.map_cons, List.map_nil, RepsC]
    exact ⟨_, _, rfl, r1, rfl⟩
  · unfold cells.body
    have hlen : ((dI rows).length : Int) = ((rows.length : Nat) : Int) := by simp [dI]
    have bd : ∀ i, -1000 ≤ rows.getD i 0 ∧ rows.getD i 0 ≤ 1000 := fun i => by
      by_cases h : i < rows.length
      · exact hr _ (by rw [List.getD_eq_getElem?_getD, List.getElem?_eq_getElem h]; exact List.getElem_mem h)
      · rw [List.getD_eq_getElem?_getD, List.getElem?_eq_none (by omega)]; decide
    apply se_cons
    apply s_assign
    · exact pe_listL pes_nil rfl
    · exact sn_loc
    rotate_left
    · intro _ _; rfl
    show SE _ _ _ _ _ _
    apply se_for (fun i => ⟨[("cells", .ref 0)], [("rows", .lst (dI rows))], [.list ((cellsTo rows i).map encC)]⟩)
    · exact pi_range1 (pg.range ok) (pe_call (pg.len ok) (pes_cons pe_cel pes_nil) pks_nil (fun _ _ => keeps_blt) (c_len (.inl rfl) (by simp [dI]; omega))) (small1 (by omega) (by omega) (by rw [hlen]; omega) (by rw [hlen]; omega)) size1
    · exact ⟨by walk_at "sub_l", by walk_at "sub_l", rfl⟩
    · intro i; rfl
    · intro i d hd
      obtain ⟨hi, rfl⟩ := rngD_get hd
      have hi' : i < rows.length := by rw [hlen] at hi; omega
      rw [show (0 : Int) + (i : Int) * 1 = (i : Int) from by omega]
      refine ⟨_, sn_loc, rfl, ?_⟩
      apply se_for (fun j => ⟨[("cells", .ref 0), ("i", .int i)], [("rows", .lst (dI rows))], [.list ((cellsTo rows i ++ (List.range j).map (cellAt rows i)).map encC)]⟩)
      · exact pi_range1 (pg.range ok) (pe_itemN pe_cel pe_loc (.inl rfl) (getD_some (y := 0) hi') (by omega)) (small1 (by omega) (by omega) (by have := bd i; omega) (by have := bd i; omega)) size1
      · exact ⟨by walk_at "sub_l", by walk_at "sub_l", by show [Cont.list _] = [Cont.list _]; simp⟩
      · intro i; rfl
      · intro j d hd
        obtain ⟨hj, rfl⟩ := rngD_get hd
        rw [show (0 : Int) + (j : Int) * 1 = (j : Int) from by omega]
        refine ⟨_, sn_cel, rfl, ?_⟩
        apply se_cons
        apply s_assign
        · apply pe_call (pg.len ok) (ds := [.lst (dI (((List.range (rows.length - (i + 1))).filter fun k => decide (rows.getD (i + 1 + k) 0 > (j : Int))).map fun k => ((i + 1 + k : Nat) : Int)))])
          · apply pes_cons
            · apply pe_comp
              · exact ⟨rfl, rfl, by decide +kernel, by decide +kernel, by decide +kernel⟩
              · exact pi_range2 (pg.range ok) (by walk_at "pv") (pe_call (pg.len ok) (pes_cons pe_cel pes_nil) pks_nil (fun _ _ => keeps_blt) (c_len (.inl rfl) (by simp [dI]; omega))) (small1 (by omega) (by omega) (by rw [hlen]; omega) (by rw [hlen]; omega)) size1
              · have e : rngD ((i : Int) + 1) 1 (((dI rows).length : Int) - ((i : Int) + 1)).toNat = (List.range (rows.length - (i + 1))).map (fun k => D.int ((i + 1 + k : Nat) : Int)) := by
                  unfold rngD
                  rw [hlen, show ((rows.length : Int) - ((i : Int) + 1)).toNat = rows.length - (i + 1) from by omega]
                  apply List.map_congr_left
                  intro k _
                  congr 1
                  omega
                rw [e]
                apply compB_filter (g := D.int) (f := fun (k : Nat) => D.int ((i + 1 + k : Nat) : Int)) (fun _ => rfl) rfl
                · intro k hk
                  have hk' : i + 1 + k < rows.length := by have := List.mem_range.mp hk; omega
                  apply pt_cmp
                  · exact pe_itemN pe_cel pe_loc (.inl rfl) (getD_some (y := 0) hk') (by omega)
                  · walk_at "pv"
                  · walk_at "po"
                  · with_unfolding_all rfl
                · intro k hk
                  exact pe_loc
              · rw [rngD_len, hlen]; omega
              · intro _ _; rfl
            · exact pes_nil
            · intro _; rfl
          · exact pks_nil
          · exact fun _ _ => keeps_blt
          · exact c_len (.inl rfl) (by
              simp only [dI, List.length_map]
              have := List.length_filter_le (fun k => decide (rows.getD (i + 1 + k) 0 > (j : Int))) (List.range (rows.length - (i + 1)))
              rw [List.length_range] at this
              omega)
        · exact sn_loc
        rotate_left
        · intro _ _; rfl
        show SE _ _ _ _ _ _
        have e : ((dI (((List.range (rows.length - (i + 1))).filter fun k => decide (rows.getD (i + 1 + k) 0 > (j : Int))).map fun k => ((i + 1 + k : Nat) : Int))).length : Int) = ((belowL rows i j : Nat) : Int) := by simp [dI, belowL]
        rw [e]
        apply se_cons
        apply s_exprN
        · apply pe_mcall
          · exact pe_loc
          · exact gm_list rfl PySem.F.slot_list_append rfl
          · apply pes_cons
            · apply pe_tuple
              · apply pes_cons
                · apply pe_binop
                  · apply pe_binop
                    · exact pe_itemN pe_cel pe_loc (.inl rfl) (getD_some (y := 0) hi') (by omega)
                    · walk_at "pv"
                    · walk_at "po"
                  · walk_at "pv"
                  · walk_at "po"
                · exact pes_cons pe_loc (pes_cons pe_cel (pes_cons pe_loc pes_nil))
                · intro _; rfl
              · exact (by decide : 4 ≤ 1000000)
            · exact pes_nil
            · intro _; rfl
          · exact pks_nil
          · exact fun _ _ => keeps_blt
          · exact c_append rfl rfl (by
              have := cellsTo_len rows (fun i => (bd i).2) i
              simp only [List.length_map, List.length_append, List.length_range]
              have := bd i
              omega)
          · intro _; rfl
          · intro _; rfl
          · rfl
        · show SE _ _ _ _ _ _
          refine se_nil ⟨_, rfl, ⟨by walk_at "sub_l", by walk_at "sub_l", ?_⟩⟩
          show [Cont.list _] = [Cont.list _]
          simp [List.range_succ, encC, cellAt]
        · intro _; rfl
      · refine se_nil ⟨_, rfl, ⟨by walk_at "sub_l", by walk_at "sub_l", ?_⟩⟩
        show [Cont.list _] = [Cont.list _]
        simp [cellsTo, List.range_succ, rowCells, rngD_len]
    · apply se_cons
      apply s_ret
      · exact pe_loc
      · refine ⟨?_, rfl, rfl⟩
        simp [D.conv, rngD_len, dI, cellsL]
end
end
section
theorem pe_eq {G : Gnd} {n : Nat} {fi : Fi} {σ σ' : AS} {e : Expr} {d d' : D} (h : PE G n fi σ e d σ') (hd : d = d') : PE G n fi σ e d' σ' := hd ▸ h
theorem SE.weak' {G : Gnd} {n : Nat} {fi : Fi} {σ : AS} {ss : List Stmt} {Q : Out → Prop} (σ' : AS) (u : Sub σ' σ) (h : SE G n fi σ' ss Q) : SE G n fi σ ss Q := SE.weak u h
noncomputable def dN (l : List Nat) : List D := l.map fun (k : Nat) => D.int (k : Int)
noncomputable def xorM (a b : Nat) : Nat := (a ||| b) - (a &&& b)
noncomputable def i2dGo (n : Nat) : Nat → List Nat → Nat → Nat → Nat → List Nat
  | 0, l, _, _, _ => l
  | f + 1, l, x, L, R => if L + 1 = R then l.set L x else
      i2dGo n f (i2dGo n f l (xorM x (((x >>> (((L + R) / 2 - L) * n)) <<< (((L + R) / 2 - L) * n)))) L ((L + R) / 2)) (x >>> (((L + R) / 2 - L) * n)) ((L + R) / 2) R
theorem i2dGo_len (n : Nat) : ∀ f l x L R, (i2dGo n f l x L R).length = l.length
  | 0, l, x, L, R => rfl
  | f + 1, l, x, L, R => by
    rw [i2dGo]
    split
    · simp
    · rw [i2dGo_len, i2dGo_len]
theorem xorN (a b : Nat) : Builtin.bitXor (a : Int) (b : Int) = ((xorM a b : Nat) : Int) := by
  have h1 : Builtin.bitAnd (a : Int) (b : Int) = ((a &&& b : Nat) : Int) := by
    unfold Builtin.bitAnd
    rw [decide_eq_true (Int.natCast_nonneg a), decide_eq_true (Int.natCast_nonneg b)]
    simp
  have h2 : Builtin.bitOr (a : Int) (b : Int) = ((a ||| b : Nat) : Int) := by
    have n1 : Builtin.bitNot (a : Int) = -(a : Int) - 1 := rfl
    have n2 : Builtin.bitNot (b : Int) = -(b : Int) - 1 := rfl
    have m1 : (Builtin.bitNot (Builtin.bitNot (a : Int))).toNat = a := by unfold Builtin.bitNot; omega
    have m2 : (Builtin.bitNot (Builtin.bitNot (b : Int))).toNat = b := by unfold Builtin.bitNot; omega
    unfold Builtin.bitOr Builtin.bitAnd
    rw [decide_eq_false (by rw [n1]; omega), decide_eq_false (by rw [n2]; omega)]
    show Builtin.bitNot (Builtin.bitNot _) = _
    rw [m1, m2]
    unfold Builtin.bitNot; omega
  have h3 : a &&& b ≤ a ||| b := Nat.le_trans Nat.and_le_left Nat.left_le_or
  unfold Builtin.bitXor xorM
  rw [h1, h2]; omega
theorem shrN (a b : Nat) : ((a : Int)).fdiv (2 ^ ((b : Int)).toNat) = ((a >>> b : Nat) : Int) := by
  rw [Int.toNat_natCast, Nat.shiftRight_eq_div_pow, Int.fdiv_eq_ediv_of_nonneg _ (by exact_mod_cast Nat.zero_le _)]
  push_cast; rfl
theorem shlN (a b : Nat) : ((a : Int)) * 2 ^ ((b : Int)).toNat = ((a <<< b : Nat) : Int) := by
  rw [Int.toNat_natCast, Nat.shiftLeft_eq]; push_cast; rfl
theorem shr_le (x k : Nat) : x >>> k ≤ x := by rw [Nat.shiftRight_eq_div_pow]; exact Nat.div_le_self _ _
theorem shlshr_le (x k : Nat) : (x >>> k) <<< k ≤ x := by rw [Nat.shiftRight_eq_div_pow, Nat.shiftLeft_eq]; exact Nat.div_mul_le_self _ _
theorem xorM_lt (x y : Nat) (h : x < 2 ^ 40) (h2 : y < 2 ^ 40) : xorM x y < 2 ^ 40 := by
  unfold xorM
  have := Nat.or_lt_two_pow h h2
  omega
theorem mulSmall {a b : Nat} (h : a < 2 ^ 40) : IntMulOk (a : Int) (b : Int) := .of_left (intBits_le_64 (by omega) (by omega))
section
variable {prog : Program} {w : World} {g0 : Heap} {mg mb : Str → Option Value} {loose : List Str} {mean : ExcName → Option Value} {fx : List (Addr × Obj)}
theorem i2d_inner (ok : ((mkG prog w g0 mg mb loose mean fx)).Ok) {fa c' : Addr} {oc : Obj} {vs : Array Value} {t : Tok} {doc pm ctv : Value} {cs : List (Str × Addr)} (cl : List (Str × Addr)) (hcl0 : cl = clL cs i2d.iscope.names [])
    (hf : (fa, fnMade "inner" "_int2digits.<locals>.inner" i2d.iparams i2d.ibody i2d.iscope cl doc pm c' ctv) ∈ fx) (hc : (c', oc) ∈ fx) (hcd : oc.data = .fields vs) (hcv : vs[1]? = some (.str "_int2digits.<locals>.inner" t))
    {nb : Nat} (hnb : nb ≤ 1000) : ∀ (f n x L R : Nat) (l : List Nat) (fi : Fi) (csx : List (Str × Addr)) (σ : AS), L < R → R - L ≤ f → R ≤ l.length → l.length ≤ 1000 → x < 2 ^ 40 → fi.cells = some csx → (∀ p ∈ cl, csx.lookup p.1 = some p.2) →
      σ.cel.lookup ("a_digits" : Str) = some (.ref 0) → σ.cel.lookup ("inner" : Str) = some (.val (.ref fa)) → σ.cel.lookup ("n" : Str) = some (.int nb) → σ.H = [.list (dN l)] →
      CallOk (mkG prog w g0 mg mb loose mean fx) (n + f) fi σ (.ref fa) [.int x, .int L, .int R] [] [] .none { σ with H := [.list (dN (i2dGo nb f l x L R))] } := by
  have hnd : (cl.map (·.1)).Nodup := by rw [hcl0]; show (["n", "inner", "a_digits"] : List Str).Nodup; decide
  have hi1 : (cl.lookup ("a_digits" : Str)).isSome = true := by rw [hcl0]; rfl
  have hi2 : (cl.lookup ("inner" : Str)).isSome = true := by rw [hcl0]; rfl
  have hi3 : (cl.lookup ("n" : Str)).isSome = true := by rw [hcl0]; rfl
  have hself : ∀ p ∈ cl, cl.lookup p.1 = some p.2 := fun p hp => lookup_of_nd hnd hp
  clear hcl0
  intro f
  induction f with
  | zero => intro n x L R l fi csx σ h1 h2; omega
  | succ f ih =>
    intro n x L R l fi csx σ h1 h2 h3 h4 h5 hcs hcl k1 k2 k3 kH
    have step := clo_call (H' := [.list (dN (i2dGo nb (f + 1) l x L R))]) (n := n + f) (σ := σ) (d := .none) ok hf hc hcd hcv hcs hcl hnd [("x", .int x), ("L", .int L), ("R", .int R)] (ds := [.int x, .int L, .int R]) (fun s X c vals ra => by
      simp only [RepsC] at ra
      obtain ⟨v1, _, rfl, r1, v2, _, rfl, r2, v3, _, rfl, r3, rfl⟩ := ra
      refine ⟨_, kp_binds (K := []) (fun a o e => by simp at e) (fun _ => rfl), rfl, ?_⟩
      simp only [List.map_cons, List.map_nil, RepsC]
      exact ⟨_, _, rfl, r1, _, _, rfl, r2, _, _, rfl, r3, rfl⟩) rfl (by decide +kernel) ?_
    · exact step
    · rw [kH]
      refine SE.weak' ⟨[("x", .int x), ("L", .int L), ("R", .int R)], [("a_digits", .ref 0), ("inner", .val (.ref fa)), ("n", .int nb)], [.list (dN l)]⟩ (SubL.mk2 (by show SubL _ [("R", D.int R), ("L", D.int L), ("x", D.int x)]; walk_at "sub_l")
        (subl_cons (celCl_lookup hi1 k1) (subl_cons (celCl_lookup hi2 k2) (subl_cons (celCl_lookup hi3 k3) subl_nil)))) ?_
      unfold i2d.ibody
      apply se_cons
      apply s_if
      · walk_at "pt"
      · by_cases he : L + 1 = R
        · have e1 : (((L : Int) + 1) == (R : Int)) = true := by rw [beq_iff_eq]; omega
          rw [if_pos e1]
          apply se_cons
          apply s_setitem
          · exact pe_loc
          · exact pe_fre
          · exact pe_loc
          · rfl
          · rfl
          · exact Int.natCast_nonneg _
          · rw [Int.toNat_natCast]; simp [dN]; omega
          · simp [dN]; omega
          · show SE _ _ _ _ _ _
            apply se_cons
            apply s_ret0
            refine ⟨rfl, rfl, ?_, rfl⟩
            rw [Int.toNat_natCast, i2dGo, if_pos he]
            show [Cont.list _] = [Cont.list _]
            simp [dN]
          · intro _; rfl
        · have e1 : (((L : Int) + 1) == (R : Int)) = false := by rw [beq_eq_false_iff_ne]; omega
          rw [if_neg (by rw [e1]; decide)]
          walk_at "ps_end"
          apply se_cons
          apply s_assign (d := .int (((L + R) / 2 : Nat) : Int))
          · apply pe_eq (d := .int (((L : Int) + (R : Int)).fdiv (2 ^ ((1 : Int)).toNat)))
            · apply pe_binop
              · walk_at "pv"
              · walk_at "pv"
              · exact o_shr (by decide)
            · exact (by rw [show ((2 : Int) ^ ((1 : Int)).toNat) = 2 from rfl, fdiv2])
          · exact sn_loc
          show SE _ _ _ _ _ _
          apply se_cons
          apply s_assign (d := .int ((((L + R) / 2 - L) * nb : Nat) : Int))
          · apply pe_eq (d := .int (((((L + R) / 2 : Nat) : Int) - (L : Int)) * (nb : Int)))
            · apply pe_binop
              · walk_at "pv"
              · exact pe_fre
              · refine o_mul ?_
                rw [show (((L + R) / 2 : Nat) : Int) - (L : Int) = (((L + R) / 2 - L : Nat) : Int) from by omega]
                exact mulSmall (by omega)
            · exact (by push_cast; congr 2; omega)
          · exact sn_loc
          show SE _ _ _ _ _ _
          generalize hsh : ((L + R) / 2 - L) * nb = sh
          have hshle : sh ≤ 1000000 := by
            rw [← hsh]
            have : (L + R) / 2 - L ≤ 1000 := by omega
            calc ((L + R) / 2 - L) * nb ≤ 1000 * 1000 := Nat.mul_le_mul this hnb
              _ = 1000000 := rfl
          apply se_cons
          apply s_assign (d := .int ((x >>> sh : Nat) : Int))
          · apply pe_eq (d := .int ((x : Int).fdiv (2 ^ ((sh : Int)).toNat)))
            · apply pe_binop
              · walk_at "pv"
              · walk_at "pv"
              · exact o_shr (Int.natCast_nonneg _)
            · exact (by rw [shrN])
          · exact sn_loc
          show SE _ _ _ _ _ _
          have hup : x >>> sh < 2 ^ 40 := Nat.lt_of_le_of_lt (shr_le x sh) h5
          apply se_cons
          apply s_assign (d := .int ((xorM x ((x >>> sh) <<< sh) : Nat) : Int))
          · apply pe_eq (d := .int (Builtin.bitXor (x : Int) (((x >>> sh : Nat) : Int) * 2 ^ ((sh : Int)).toNat)))
            · apply pe_binop
              · walk_at "pv"
              · apply pe_binop
                · walk_at "pv"
                · walk_at "pv"
                · exact o_shl (Int.natCast_nonneg _) (by omega) (by rw [Int.natAbs_natCast]; omega)
              · exact o_xor
            · exact (by rw [shlN, xorN])
          · exact sn_loc
          show SE _ _ _ _ _ _
          have hlow : xorM x ((x >>> sh) <<< sh) < 2 ^ 40 := xorM_lt _ _ h5 (Nat.lt_of_le_of_lt (shlshr_le x sh) h5)
          have hm1 : L < (L + R) / 2 := by omega
          have hm2 : (L + R) / 2 < R := by omega
          apply se_cons
          apply s_exprN
          · exact pe_call pe_fre (pes_cons pe_loc (pes_cons pe_loc (pes_cons pe_loc pes_nil))) pks_nil (fun h g => keeps_fn (g.fx _ hf).2 rfl) (ih n _ L ((L + R) / 2) l _ cl _ hm1 (by omega) (by omega) h4 hlow rfl hself rfl rfl rfl rfl)
          · show SE _ _ _ _ _ _
            apply se_cons
            apply s_exprN
            · exact pe_call pe_fre (pes_cons pe_loc (pes_cons pe_loc (pes_cons pe_loc pes_nil))) pks_nil (fun h g => keeps_fn (g.fx _ hf).2 rfl) (ih n _ ((L + R) / 2) R _ _ cl _ hm2 (by omega) (by rw [i2dGo_len]; omega) (by rw [i2dGo_len]; exact h4) hup rfl hself rfl rfl rfl rfl)
            · show SE _ _ _ _ _ _
              refine se_nil ⟨rfl, ?_, rfl⟩
              rw [i2dGo, if_neg he, hsh]
            · intro _; rfl
          · intro _; rfl
end
end
section
noncomputable def i2dK (a nb : Nat) : Nat := (Builtin.Int.intBits (a : Int) + nb - 1) / nb
noncomputable def i2dL (a nb : Nat) : List Nat := if a = 0 then List.replicate (i2dK a nb) 0 else i2dGo nb 12 (List.replicate (i2dK a nb) 0) a 0 (i2dK a nb)
section
variable {prog : Program} {w : World} {g0 : Heap} {mg mb : Str → Option Value} {loose : List Str} {mean : ExcName → Option Value} {fx : List (Addr × Obj)}
theorem i2d_fn (ok : ((mkG prog w g0 mg mb loose mean fx)).Ok) {n a nb : Nat} (h1 : 1 ≤ nb) (h2 : nb ≤ 1000) (ha : a < 2 ^ 40) (hk : i2dK a nb ≤ 12) : Fn (mkG prog w g0 mg mb loose mean fx) (n + 13) (.ref 81) [] [.int a, .int nb] [] [] (.lst (dN (i2dL a nb))) [] := by
  refine fn_enter ok (i2d.ho _) (i2d.code _) [("a", .int a), ("n", .int nb)] 0 (fun s X c vals kvals KI ra rk => ?_) (by rfl) (Nat.le_refl _) ?_ (by decide +kernel)
  · simp only [RepsC] at ra rk
    obtain ⟨v1, _, rfl, r1, v2, _, rfl, r2, rfl⟩ := ra
    subst rk
    refine ⟨_, kp_binds KI (fun _ => rfl), rfl, ?_⟩
    simp only [List.map_cons, List.map_nil, RepsC]
    exact ⟨_, _, rfl, r1, _, _, rfl, r2, rfl⟩
  · unfold i2d.body
    have hkp : a ≠ 0 → 0 < i2dK a nb := fun h => by
      have hb : 1 ≤ Builtin.Int.intBits (a : Int) := by
        unfold Builtin.Int.intBits
        rw [if_neg (by simpa using h)]; omega
      unfold i2dK
      exact Nat.div_pos (by omega) (by omega)
    apply se_cons
    apply s_assign (d := .ref 0) (σ₁ := ⟨[("a", .int a)], [("n", .int nb)], [.list (dN (List.replicate (i2dK a nb) 0))]⟩)
    · apply pe_eq (d := .ref 0)
      · have e : ((((Builtin.Int.intBits (a : Int) : Int) + (nb : Int) - 1)).fdiv (nb : Int)) = ((i2dK a nb : Nat) : Int) := by
          unfold i2dK
          rw [Int.fdiv_eq_ediv_of_nonneg _ (Int.natCast_nonneg _)]
          rw [show ((Builtin.Int.intBits (a : Int) : Int) + (nb : Int) - 1) = ((Builtin.Int.intBits (a : Int) + nb - 1 : Nat) : Int) from by omega]
          push_cast; rfl
        have o := o_rep (G := (mkG prog w g0 mg mb loose mean fx)) (n := n + 12) (fi := ⟨i2d.scope, some (.ref 80, (Str.ofString "_int2digits") ++ ".<locals>."), true, none⟩) (σ := ⟨[("a", .int a)], [("n", .int nb)], []⟩) (k := ((i2dK a nb : Nat) : Int)) (x := .int 0) (Int.natCast_nonneg _) (by omega)
        rw [Int.toNat_natCast] at o
        have e2 : List.replicate (i2dK a nb) (D.int 0) = dN (List.replicate (i2dK a nb) 0) := by unfold dN; rw [List.map_replicate]; rfl
        rw [e2] at o
        apply pe_binop (b := .int ((i2dK a nb : Nat) : Int))
        · exact pe_list (pes_cons pe_int pes_nil) rfl
        · rw [← e]
          apply pe_binop
          · apply pe_binop
            · apply pe_binop
              · apply pe_mcall
                · exact pe_loc
                · exact gm_int PySem.F.slot_int_bit_length rfl
                · exact pes_nil
                · exact pks_nil
                · exact fun _ _ => keeps_blt
                · exact c_bitlen
                · intro _; rfl
                · intro _; rfl
                · rfl
              · walk_at "pv"
              · walk_at "po"
            · walk_at "pv"
            · walk_at "po"
          · walk_at "pv"
          · exact o_fdiv (by omega) (by rw [Int.natAbs_natCast]; omega)
        · exact o
      · rfl
    · exact sn_cel
    · show SE _ _ _ _ _ _
      apply se_def ok (q := ⟨80, 76, ⟨90, 4, 99, 28⟩, "_int2digits.<locals>.inner"⟩) (List.Mem.head _) rfl rfl rfl rfl (by decide +kernel) rfl rfl (fun _ => rfl)
      intro f c' oc vs t doc pm ctv cs hnd hcs hcd hcv
      have ok' : (mkG prog w g0 mg mb loose mean ([(f, fnMade "inner" "_int2digits.<locals>.inner" i2d.iparams i2d.ibody i2d.iscope (clL cs i2d.iscope.names []) doc pm c' ctv), (c', oc)] ++ fx)).Ok := Ok.add ok
      show SE (mkG prog w g0 mg mb loose mean ([(f, fnMade "inner" "_int2digits.<locals>.inner" i2d.iparams i2d.ibody i2d.iscope (clL cs i2d.iscope.names []) doc pm c' ctv), (c', oc)] ++ fx)) _ _ _ _ _
      have inner := i2d_inner ok' (clL cs i2d.iscope.names []) rfl (.head _) (.tail _ (.head _)) hcd hcv h2
      apply se_cons
      apply s_if (b := decide (a ≠ 0))
      · apply pt_val
        · exact pe_loc
        · have : (((a : Int)) != 0) = decide (a ≠ 0) := by
            by_cases h : a = 0
            · subst h; rfl
            · have h' : ((a : Int) != 0) = true := by simp [h]
              rw [h', decide_eq_true h]
          rw [← this]; exact ot_int
        · intro _ _; rfl
      · by_cases h0 : a = 0
        · rw [if_neg (by simp [h0])]
          walk_at "ps_end"
          apply se_cons
          apply s_ret
          · exact pe_cel
          · refine ⟨?_, rfl, rfl⟩
            simp [D.conv, AS.setc, i2dL, h0]
        · rw [if_pos (by simp [h0])]
          apply se_cons
          apply s_exprN
          · exact pe_call pe_cel (pes_cons pe_loc (pes_cons pe_int (pes_cons (pe_call (pg.len ok') (pes_cons pe_cel pes_nil) pks_nil (fun _ _ => keeps_blt) (c_len (.inr ⟨0, rfl, rfl⟩) (by simp [dN]; omega))) pes_nil))) pks_nil (fun h g => keeps_fn (g.fx _ (.head _)).2 rfl) (by
              have e : ((dN (List.replicate (i2dK a nb) 0)).length : Int) = ((i2dK a nb : Nat) : Int) := by simp [dN]
              rw [e]
              exact inner 12 n a 0 (i2dK a nb) _ _ cs _ (hkp h0) (by omega) (by simp) (by simp; omega) ha rfl (clL_ok hcs (by simp)) rfl rfl rfl rfl)
          · show SE _ _ _ _ _ _
            walk_at "ps_end"
            apply se_cons
            apply s_ret
            · exact pe_cel
            · refine ⟨?_, rfl, rfl⟩
              simp [D.conv, AS.setc, i2dL, h0]
          · intro _; rfl
end
end
section
theorem ot_listE {G : Gnd} {n : Nat} {fi : Fi} {σ : AS} {d : D} {ds : List D} {b : Bool} (hl : IsL σ d ds) (hz : ds.length ≤ 1000000) (e : (!ds.isEmpty) = b) : OT G n fi σ d b := e ▸ ot_list hl hz
noncomputable def d2iGo (n : Nat) (l : List Nat) : Nat → Nat → Nat → Nat
  | 0, _, _ => 0
  | f + 1, L, R => if L + 1 = R then l.getD L 0 else (d2iGo n l f ((L + R) / 2) R <<< (((L + R) / 2 - L) * n)) + d2iGo n l f L ((L + R) / 2)
/-- no shifted part is long -/
noncomputable def d2iOk (n : Nat) (l : List Nat) : Nat → Nat → Nat → Bool
  | 0, _, _ => true
  | f + 1, L, R => if L + 1 = R then true else d2iOk n l f ((L + R) / 2) R && d2iOk n l f L ((L + R) / 2) && decide (d2iGo n l f ((L + R) / 2) R < 2 ^ 40)
section
variable {prog : Program} {w : World} {g0 : Heap} {mg mb : Str → Option Value} {loose : List Str} {mean : ExcName → Option Value} {fx : List (Addr × Obj)}
theorem d2i_inner (ok : ((mkG prog w g0 mg mb loose mean fx)).Ok) {fa c' : Addr} {oc : Obj} {vs : Array Value} {t : Tok} {doc pm ctv : Value} {cs : List (Str × Addr)} (cl : List (Str × Addr)) (hcl0 : cl = clL cs d2i.iscope.names [])
    (hf : (fa, fnMade "inner" "_digits2int.<locals>.inner" d2i.iparams d2i.ibody d2i.iscope cl doc pm c' ctv) ∈ fx) (hc : (c', oc) ∈ fx) (hcd : oc.data = .fields vs) (hcv : vs[1]? = some (.str "_digits2int.<locals>.inner" t))
    {nb : Nat} (hnb : nb ≤ 1000) {l : List Nat} (hl : l.length ≤ 1000) : ∀ (f n L R : Nat) (fi : Fi) (csx : List (Str × Addr)) (σ : AS), L < R → R - L ≤ f → R ≤ l.length → d2iOk nb l f L R = true → fi.cells = some csx → (∀ p ∈ cl, csx.lookup p.1 = some p.2) →
      σ.cel.lookup ("digits" : Str) = some (.lst (dN l)) → σ.cel.lookup ("inner" : Str) = some (.val (.ref fa)) → σ.cel.lookup ("n" : Str) = some (.int nb) →
      CallOk (mkG prog w g0 mg mb loose mean fx) (n + f) fi σ (.ref fa) [.int L, .int R] [] [] (.int (d2iGo nb l f L R : Nat)) σ := by
  have hnd : (cl.map (·.1)).Nodup := by rw [hcl0]; show (["n", "inner", "digits"] : List Str).Nodup; decide
  have hi1 : (cl.lookup ("digits" : Str)).isSome = true := by rw [hcl0]; rfl
  have hi2 : (cl.lookup ("inner" : Str)).isSome = true := by rw [hcl0]; rfl
  have hi3 : (cl.lookup ("n" : Str)).isSome = true := by rw [hcl0]; rfl
  have hself : ∀ p ∈ cl, cl.lookup p.1 = some p.2 := fun p hp => lookup_of_nd hnd hp
  clear hcl0
  intro f
  induction f with
  | zero => intro n L R fi csx σ h1 h2; omega
  | succ f ih =>
    intro n L R fi csx σ h1 h2 h3 h5 hcs hcl k1 k2 k3
    have step := clo_call (H' := σ.H) (n := n + f) (σ := σ) (d := .int (d2iGo nb l (f + 1) L R : Nat)) ok hf hc hcd hcv hcs hcl hnd [("L", .int L), ("R", .int R)] (ds := [.int L, .int R]) (fun s X c vals ra => by
      simp only [RepsC] at ra
      obtain ⟨v1, _, rfl, r1, v2, _, rfl, r2, rfl⟩ := ra
      refine ⟨_, kp_binds (K := []) (fun a o e => by simp at e) (fun _ => rfl), rfl, ?_⟩
      simp only [List.map_cons, List.map_nil, RepsC]
      exact ⟨_, _, rfl, r1, _, _, rfl, r2, rfl⟩) rfl (by decide +kernel) ?_
    · exact step
    · refine SE.weak' ⟨[("L", .int L), ("R", .int R)], [("digits", .lst (dN l)), ("inner", .val (.ref fa)), ("n", .int nb)], σ.H⟩ (SubL.mk2 (by show SubL _ [("R", D.int R), ("L", D.int L)]; walk_at "sub_l")
        (subl_cons (celCl_lookup hi1 k1) (subl_cons (celCl_lookup hi2 k2) (subl_cons (celCl_lookup hi3 k3) subl_nil)))) ?_
      unfold d2i.ibody
      apply se_cons
      apply s_if
      · walk_at "pt"
      · by_cases he : L + 1 = R
        · have e1 : (((L : Int) + 1) == (R : Int)) = true := by rw [beq_iff_eq]; omega
          rw [if_pos e1]
          apply se_cons
          apply s_ret
          · exact pe_itemN pe_fre pe_loc (.inl rfl) (getD_some (y := 0) (by omega)) (by omega)
          · refine ⟨?_, rfl, rfl, rfl⟩
            rw [d2iGo, if_pos he]
        · have e1 : (((L : Int) + 1) == (R : Int)) = false := by rw [beq_eq_false_iff_ne]; omega
          rw [if_neg (by rw [e1]; decide)]
          rw [d2iOk, if_neg he] at h5
          simp only [Bool.and_eq_true, decide_eq_true_eq] at h5
          walk_at "ps_end"
          apply se_cons
          apply s_assign (d := .int (((L + R) / 2 : Nat) : Int))
          · apply pe_eq (d := .int (((L : Int) + (R : Int)).fdiv (2 ^ ((1 : Int)).toNat)))
            · apply pe_binop
              · walk_at "pv"
              · walk_at "pv"
              · exact o_shr (by decide)
            · exact (by rw [show ((2 : Int) ^ ((1 : Int)).toNat) = 2 from rfl, fdiv2])
          · exact sn_loc
          show SE _ _ _ _ _ _
          apply se_cons
          apply s_assign (d := .int ((((L + R) / 2 - L) * nb : Nat) : Int))
          · apply pe_eq (d := .int (((((L + R) / 2 : Nat) : Int) - (L : Int)) * (nb : Int)))
            · apply pe_binop
              · walk_at "pv"
              · exact pe_fre
              · refine o_mul ?_
                rw [show (((L + R) / 2 : Nat) : Int) - (L : Int) = (((L + R) / 2 - L : Nat) : Int) from by omega]
                exact mulSmall (by omega)
            · exact (by push_cast; congr 2; omega)
          · exact sn_loc
          show SE _ _ _ _ _ _
          have hm1 : L < (L + R) / 2 := by omega
          have hm2 : (L + R) / 2 < R := by omega
          have hshle : ((L + R) / 2 - L) * nb ≤ 1000000 := by
            have : (L + R) / 2 - L ≤ 1000 := by omega
            calc ((L + R) / 2 - L) * nb ≤ 1000 * 1000 := Nat.mul_le_mul this hnb
              _ = 1000000 := rfl
          apply se_cons
          apply s_ret
          · apply pe_binop
            · apply pe_binop
              · exact pe_call pe_fre (pes_cons pe_loc (pes_cons pe_loc pes_nil)) pks_nil (fun h g => keeps_fn (g.fx _ hf).2 rfl) (ih n ((L + R) / 2) R _ cl _ hm2 (by omega) h3 h5.1.1 rfl hself rfl rfl rfl)
              · walk_at "pv"
              · exact o_shl (Int.natCast_nonneg _) (by omega) (by rw [Int.natAbs_natCast]; omega)
            · exact pe_call pe_fre (pes_cons pe_loc (pes_cons pe_loc pes_nil)) pks_nil (fun h g => keeps_fn (g.fx _ hf).2 rfl) (ih n L ((L + R) / 2) _ cl _ hm1 (by omega) (by omega) h5.1.2 rfl hself rfl rfl rfl)
            · walk_at "po"
          · refine ⟨?_, rfl, rfl, rfl⟩
            rw [d2iGo, if_neg he, shlN]
            push_cast; rfl
noncomputable def d2iL (l : List Nat) (nb : Nat) : Nat := if l = [] then 0 else d2iGo nb l 12 0 l.length
theorem d2i_fn (ok : ((mkG prog w g0 mg mb loose mean fx)).Ok) {n nb : Nat} {l : List Nat} (h2 : nb ≤ 1000) (hl : l.length ≤ 12) (hok : d2iOk nb l 12 0 l.length = true) : Fn (mkG prog w g0 mg mb loose mean fx) (n + 13) (.ref 88) [] [.lst (dN l), .int nb] [] [] (.int (d2iL l nb : Nat)) [] := by
  refine fn_enter ok (d2i.ho _) (d2i.code _) [("digits", .lst (dN l)), ("n", .int nb)] 0 (fun s X c vals kvals KI ra rk => ?_) (by rfl) (Nat.le_refl _) ?_ (by decide +kernel)
  · simp only [RepsC] at ra rk
    obtain ⟨v1, _, rfl, r1, v2, _, rfl, r2, rfl⟩ := ra
    subst rk
    refine ⟨_, kp_binds KI (fun _ => rfl), rfl, ?_⟩
    simp only [List.map_cons, List.map_nil, RepsC]
    exact ⟨_, _, rfl, r1, _, _, rfl, r2, rfl⟩
  · unfold d2i.body
    apply se_def ok (q := ⟨87, 83, ⟨105, 4, 110, 55⟩, "_digits2int.<locals>.inner"⟩) (.tail _ (.head _)) rfl rfl rfl rfl (by decide +kernel) rfl rfl (fun _ => rfl)
    intro f c' oc vs t doc pm ctv cs hnd hcs hcd hcv
    have ok' : (mkG prog w g0 mg mb loose mean ([(f, fnMade "inner" "_digits2int.<locals>.inner" d2i.iparams d2i.ibody d2i.iscope (clL cs d2i.iscope.names []) doc pm c' ctv), (c', oc)] ++ fx)).Ok := Ok.add ok
    show SE (mkG prog w g0 mg mb loose mean ([(f, fnMade "inner" "_digits2int.<locals>.inner" d2i.iparams d2i.ibody d2i.iscope (clL cs d2i.iscope.names []) doc pm c' ctv), (c', oc)] ++ fx)) _ _ _ _ _
    have inner := d2i_inner ok' (clL cs d2i.iscope.names []) rfl (.head _) (.tail _ (.head _)) hcd hcv h2 (l := l) (by omega)
    apply se_cons
    by_cases h0 : l = []
    · apply s_ret (d := .int 0)
      · apply pe_ifF
        · apply pt_val
          · exact pe_cel
          · exact ot_listE (.inl rfl) (by simp [dN]; omega) (show (!(dN l).isEmpty) = false from by subst h0; rfl)
          · intro _ _; rfl
        · walk_at "pv"
      · exact ⟨by simp [D.conv, d2iL, h0], rfl, rfl⟩
    · apply s_ret (d := .int (d2iGo nb l 12 0 l.length : Nat))
      · apply pe_ifT
        · apply pt_val
          · exact pe_cel
          · exact ot_listE (.inl rfl) (by simp [dN]; omega) (show (!(dN l).isEmpty) = true from by cases l with | nil => exact absurd rfl h0 | cons a r => rfl)
          · intro _ _; rfl
        · exact pe_call pe_cel (pes_cons pe_int (pes_cons (pe_call (pg.len ok') (pes_cons pe_cel pes_nil) pks_nil (fun _ _ => keeps_blt) (c_len (.inl rfl) (by simp [dN]; omega))) pes_nil)) pks_nil (fun h g => keeps_fn (g.fx _ (.head _)).2 rfl) (by
              have e : ((dN l).length : Int) = ((l.length : Nat) : Int) := by simp [dN]
              rw [e]
              have hpos : 0 < l.length := by cases l with | nil => exact absurd rfl h0 | cons a r => simp
              exact inner 12 n 0 l.length _ cs _ hpos (by omega) (by omega) hok rfl (clL_ok hcs (by simp)) rfl rfl rfl)
      · exact ⟨by simp [D.conv, d2iL, h0], rfl, rfl⟩
end
end
section
noncomputable def dmFold (b n : Nat) : List Nat → Nat × List Nat → Nat × List Nat
  | [], p => p
  | d :: ds, p => dmFold b n ds (((p.1 <<< n) + d) % b, p.2 ++ [((p.1 <<< n) + d) / b])
noncomputable def dmXs (b n : Nat) : List Nat → Nat × List Nat → Bool
  | [], _ => true
  | d :: ds, p => decide ((p.1 <<< n) + d < 2 ^ 40) && decide (p.1 < 2 ^ 40) && dmXs b n ds (((p.1 <<< n) + d) % b, p.2 ++ [((p.1 <<< n) + d) / b])
theorem dmFold_append (b n : Nat) : ∀ (l1 l2 : List Nat) (p : Nat × List Nat), dmFold b n (l1 ++ l2) p = dmFold b n l2 (dmFold b n l1 p)
  | [], _, _ => rfl
  | d :: ds, l2, p => by rw [List.cons_append, dmFold, dmFold, dmFold_append]
theorem dmFold_len (b n : Nat) : ∀ (l : List Nat) (p : Nat × List Nat), (dmFold b n l p).2.length = p.2.length + l.length
  | [], _ => rfl
  | d :: ds, p => by rw [dmFold, dmFold_len]; simp; omega
theorem dmXs_get (b n : Nat) : ∀ (l : List Nat) (p : Nat × List Nat) (i d : Nat), dmXs b n l p = true → l[i]? = some d → ((dmFold b n (l.take i) p).1 <<< n) + d < 2 ^ 40 ∧ (dmFold b n (l.take i) p).1 < 2 ^ 40
  | [], _, _, _, _, h => by simp at h
  | d' :: ds, p, i, d, h, e => by
    simp only [dmXs, Bool.and_eq_true, decide_eq_true_eq] at h
    cases i with
    | zero => simp at e; subst e; exact ⟨h.1.1, h.1.2⟩
    | succ i => rw [List.take_succ_cons, dmFold]; exact dmXs_get b n ds _ i d h.2 (by simpa using e)
noncomputable def bitsN (a : Nat) : Nat := Builtin.Int.intBits (a : Int)
noncomputable def dmQ (a b : Nat) : Nat × List Nat := dmFold b (bitsN b) (i2dL a (bitsN b)).reverse (0, [])
noncomputable def dmRes (a b : Nat) : Nat × Nat := (d2iL (dmQ a b).2.reverse (bitsN b), (dmQ a b).1)
noncomputable def dmOk (a b : Nat) : Bool := decide (0 < b) && decide (b < 2 ^ 20) && decide (a < 2 ^ 40) && decide (1 ≤ bitsN b) && decide (bitsN b ≤ 1000) && decide (i2dK a (bitsN b) ≤ 12) && dmXs b (bitsN b) (i2dL a (bitsN b)).reverse (0, []) && d2iOk (bitsN b) (dmQ a b).2.reverse 12 0 (dmQ a b).2.reverse.length
theorem i2dL_len (a nb : Nat) : (i2dL a nb).length = i2dK a nb := by
  unfold i2dL
  split
  · simp
  · rw [i2dGo_len]; simp
section
variable {prog : Program} {w : World} {g0 : Heap} {mg mb : Str → Option Value} {loose : List Str} {mean : ExcName → Option Value} {fx : List (Addr × Obj)}
theorem pgDiv (ok : ((mkG prog w g0 mg mb loose mean fx)).Ok) {n : Nat} {fi : Fi} {σ : AS} {pos : Pos} (hk : fi.scope.names.lookup ("_DIV_LIMIT" : Str) = some .globalImplicit := by rfl) : PE (mkG prog w g0 mg mb loose mean fx) n fi σ (.Name "_DIV_LIMIT" pos) (.int 4000) σ :=
  pe_globI (pe_glob (v := .int 4000 329) ok (by kernel_rfl) hk (by decide))
theorem fdivN (a b : Nat) : (a : Int).fdiv (b : Int) = ((a / b : Nat) : Int) := by rw [Int.fdiv_eq_ediv_of_nonneg _ (Int.natCast_nonneg _)]; push_cast; rfl
theorem fmodN (a b : Nat) : (a : Int).fmod (b : Int) = ((a % b : Nat) : Int) := by rw [Int.fmod_eq_emod_of_nonneg _ (Int.natCast_nonneg _)]; push_cast; rfl
theorem bitsN_le {a : Nat} (h : a < 2 ^ 40) : bitsN a ≤ 64 := intBits_le_64 (by omega) (by omega)
theorem div2_fn (ok : ((mkG prog w g0 mg mb loose mean fx)).Ok) {n a b nb : Nat} (ha : a < 2 ^ 40) (hb : 0 < b) (hb2 : b < 2 ^ 20) : Fn (mkG prog w g0 mg mb loose mean fx) (n + 1) (.ref 67) [] [.int a, .int b, .int nb] [] [] (.tup [.int (a / b : Nat), .int (a % b : Nat)]) [] := by
  refine fn_enter ok (div2.ho _) (div2.code _) [("a", .int a), ("b", .int b), ("n", .int nb)] 0 (fun s X c vals kvals KI ra rk => ?_) (by rfl) (Nat.le_refl _) ?_ (by decide +kernel)
  · simp only [RepsC] at ra rk
    obtain ⟨v1, _, rfl, r1, v2, _, rfl, r2, v3, _, rfl, r3, rfl⟩ := ra
    subst rk
    refine ⟨_, kp_binds KI (fun _ => rfl), rfl, ?_⟩
    simp only [List.map_cons, List.map_nil, RepsC]
    exact ⟨_, _, rfl, r1, _, _, rfl, r2, _, _, rfl, r3, rfl⟩
  · unfold div2.body
    apply se_cons
    apply s_if
    · apply pt_cmp
      · apply pe_binop
        · apply pe_mcall
          · exact pe_loc
          · exact gm_int PySem.F.slot_int_bit_length rfl
          · exact pes_nil
          · exact pks_nil
          · exact fun _ _ => keeps_blt
          · exact c_bitlen
          · intro _; rfl
          · intro _; rfl
          · rfl
        · walk_at "pv"
        · walk_at "po"
      · exact pgDiv ok
      · walk_at "po"
      · with_unfolding_all rfl
    · have hbits := bitsN_le ha
      unfold bitsN at hbits
      rw [if_pos (by rw [decide_eq_true_eq]; omega)]
      apply se_cons
      apply s_ret
      · exact pe_call (pg.divmod ok) (pes_cons pe_loc (pes_cons pe_loc pes_nil)) pks_nil (fun _ _ => keeps_blt) (c_divmod (by omega) (by rw [Int.natAbs_natCast]; omega))
      · exact ⟨by rw [fdivN, fmodN]; rfl, rfl, rfl⟩
theorem dmpos_fn (ok : ((mkG prog w g0 mg mb loose mean fx)).Ok) {n a b : Nat} (h : dmOk a b = true) : Fn (mkG prog w g0 mg mb loose mean fx) (n + 14) (.ref 95) [] [.int a, .int b] [] [] (.tup [.int ((dmRes a b).1 : Nat), .int ((dmRes a b).2 : Nat)]) [] := by
  simp only [dmOk, Bool.and_eq_true, decide_eq_true_eq] at h
  obtain ⟨⟨⟨⟨⟨⟨⟨h1, h2⟩, h3⟩, h4⟩, h5⟩, h6⟩, h7⟩, h8⟩ := h
  refine fn_enter ok (dmpos.ho _) (dmpos.code _) [("a", .int a), ("b", .int b)] 0 (fun s X c vals kvals KI ra rk => ?_) (by rfl) (Nat.le_refl _) ?_ (by decide +kernel)
  · simp only [RepsC] at ra rk
    obtain ⟨v1, _, rfl, r1, v2, _, rfl, r2, rfl⟩ := ra
    subst rk
    refine ⟨_, kp_binds KI (fun _ => rfl), rfl, ?_⟩
    simp only [List.map_cons, List.map_nil, RepsC]
    exact ⟨_, _, rfl, r1, _, _, rfl, r2, rfl⟩
  · unfold dmpos.body
    apply se_cons
    apply s_assign (d := .int (bitsN b : Nat))
    · apply pe_mcall
      · exact pe_loc
      · exact gm_int PySem.F.slot_int_bit_length rfl
      · exact pes_nil
      · exact pks_nil
      · exact fun _ _ => keeps_blt
      · exact c_bitlen
      · intro _; rfl
      · intro _; rfl
      · rfl
    · exact sn_loc
    show SE _ _ _ _ _ _
    generalize hbn : bitsN b = nb at *
    apply se_cons
    apply s_assign (d := .lst (dN (i2dL a nb)))
    · exact pe_call (pg.int2digits ok) (pes_cons pe_loc (pes_cons pe_loc pes_nil)) pks_nil (fun _ g => keeps_K' ok (by kernel_rfl) g) (call_fn [] (i2d_fn (n := n) ok h4 h5 h3 h6) ⟨.inr (.inl rfl), .inr (.inl rfl), trivial⟩ trivial (by omega) (fun i c h => by simp at h))
    · exact sn_loc
    show SE _ _ _ _ _ _
    apply se_cons
    apply s_assign
    · exact pe_int
    · exact sn_loc
    rotate_left
    · intro _ _; rfl
    show SE _ _ _ _ _ _
    apply se_cons
    apply s_assign
    · exact pe_listL pes_nil rfl
    · exact sn_loc
    rotate_left
    · intro _ _; rfl
    show SE _ _ _ _ _ _
    generalize hds : (i2dL a nb).reverse = ds at *
    have hdl : ds.length ≤ 12 := by rw [← hds, List.length_reverse, i2dL_len]; exact h6
    apply se_for (fun i => ⟨[("b", .int b), ("n", .int nb), ("r", .int ((dmFold b nb (ds.take i) (0, [])).1 : Nat)), ("q_digits", .ref 0)], [], [.list (dN (dmFold b nb (ds.take i) (0, [])).2)]⟩)
    · exact pi_reversed (pg.reversed ok) pe_loc
    · exact ⟨by walk_at "sub_l", subl_nil, rfl⟩
    · intro i; rfl
    · intro i d hd
      have e : (dN (i2dL a nb)).reverse = dN ds := by rw [← hds]; unfold dN; rw [List.map_reverse]
      rw [e] at hd
      unfold dN at hd
      rw [List.getElem?_map] at hd
      obtain ⟨k, hk, rfl⟩ := Option.map_eq_some_iff.mp hd
      obtain ⟨hx1, hx2⟩ := dmXs_get b nb ds (0, []) i k h7 hk
      have hlen := dmFold_len b nb (ds.take i) (0, [])
      have htk : ds.take (i + 1) = ds.take i ++ [k] := by rw [List.take_add_one, hk]; rfl
      generalize hp : dmFold b nb (ds.take i) (0, []) = p at *
      have hlt := (List.getElem?_eq_some_iff.mp hk).1
      refine ⟨_, sn_loc, rfl, ?_⟩
      apply se_cons
      apply s_assignT (l := [("q_digit", ⟨118, 8, 118, 15⟩), ("r", ⟨118, 17, 118, 18⟩)]) (ds := [.int (((p.1 <<< nb) + k) / b : Nat), .int (((p.1 <<< nb) + k) % b : Nat)])
      · apply pe_call (pg.div2n1n ok) (ds := [.int ((p.1 <<< nb) + k : Nat), .int b, .int nb])
        · apply pes_cons
          · apply pe_eq (d := .int ((p.1 : Int) * 2 ^ ((nb : Int)).toNat + (k : Int)))
            · apply pe_binop
              · apply pe_binop
                · exact pe_loc
                · exact pe_loc
                · exact o_shl (Int.natCast_nonneg _) (by omega) (by rw [Int.natAbs_natCast]; omega)
              · exact pe_loc
              · walk_at "po"
            · exact (by rw [shlN]; push_cast; rfl)
          · exact pes_cons pe_loc (pes_cons pe_loc pes_nil)
          · intro _; rfl
        · exact pks_nil
        · exact fun _ g => keeps_K' ok (by kernel_rfl) g
        · exact call_fn [] (div2_fn (n := n) ok hx1 h1 h2) ⟨.inr (.inl rfl), .inr (.inl rfl), .inr (.inl rfl), trivial⟩ trivial (by omega) (fun i c h => by simp at h)
      · rfl
      · exact ⟨_, sn_loc, _, sn_loc, rfl⟩
      · show SE _ _ _ _ _ _
        apply se_cons
        apply s_exprN
        · apply pe_mcall
          · exact pe_loc
          · exact gm_list rfl PySem.F.slot_list_append rfl
          · exact pes_cons pe_loc pes_nil
          · exact pks_nil
          · exact fun _ _ => keeps_blt
          · exact c_append rfl rfl (by simp [dN, hlen]; omega)
          · intro _; rfl
          · intro _; rfl
          · rfl
        · show SE _ _ _ _ _ _
          refine se_nil ⟨_, rfl, ?_⟩
          rw [htk, dmFold_append, hp]
          refine ⟨by show SubL _ _; simp only [dmFold]; walk_at "sub_l", subl_nil, ?_⟩
          show [Cont.list _] = [Cont.list _]
          simp [dmFold, dN]
        · intro _; rfl
    · have hlr : (dN (i2dL a nb)).reverse.length = ds.length := by rw [← hds]; simp [dN]
      rw [hlr, List.take_length]
      have hq : dmFold b nb ds (0, []) = dmQ a b := by rw [← hds, ← hbn]; rfl
      rw [hq]
      have hql : (dmQ a b).2.length ≤ 12 := by rw [← hq, dmFold_len]; simp; exact hdl
      apply se_cons
      apply s_exprN
      · apply pe_mcall
        · exact pe_loc
        · exact gm_list rfl PySem.F.slot_list_reverse rfl
        · exact pes_nil
        · exact pks_nil
        · exact fun _ _ => keeps_blt
        · exact c_reverse rfl (by simp [dN]; omega)
        · intro _; rfl
        · intro _; rfl
        · rfl
      · show SE _ _ _ _ _ _
        have hrev : (dN (dmQ a b).2).reverse = dN (dmQ a b).2.reverse := by unfold dN; rw [List.map_reverse]
        rw [hrev]
        apply se_cons
        apply s_assign (d := .int (d2iL (dmQ a b).2.reverse nb : Nat))
        · exact pe_call (pg.digits2int ok) (pes_cons pe_loc (pes_cons pe_loc pes_nil)) pks_nil (fun _ g => keeps_K' ok (by kernel_rfl) g) (call_fn [] (d2i_fn (n := n) ok h5 (by simpa using hql) h8) ⟨.inr (.inr ⟨0, _, rfl, rfl, rfl, by simp⟩), .inr (.inl rfl), trivial⟩ trivial (by omega) (fun i c h => by simp at h))
        · exact sn_loc
        show SE _ _ _ _ _ _
        apply se_cons
        apply s_ret
        · exact pe_tuple (pes_cons pe_loc (pes_cons pe_loc pes_nil)) (by show 2 ≤ 1000000; decide)
        · exact ⟨by rw [← hbn]; rfl, rfl, rfl⟩
      · intro _; rfl
end
end
section
noncomputable def dmChk (a b : Nat) : Bool := dmOk a b && (dmRes a b == (a / b, a % b))
noncomputable def dmChunk (k : Nat) : Bool := (List.range 64).all fun a => [1, 2, 3, 4, 5].all fun b => dmChk (64 * k + a) b
theorem dmc0 : dmChunk 0 = true := by decide +kernel
theorem dmc1 : dmChunk 1 = true := by decide +kernel
theorem dmc2 : dmChunk 2 = true := by decide +kernel
theorem dmc3 : dmChunk 3 = true := by decide +kernel
theorem dmc4 : dmChunk 4 = true := by decide +kernel
theorem dmc5 : dmChunk 5 = true := by decide +kernel
theorem dmc6 : dmChunk 6 = true := by decide +kernel
theorem dmc7 : dmChunk 7 = true := by decide +kernel
theorem dmc8 : dmChunk 8 = true := by decide +kernel
theorem dmc9 : dmChunk 9 = true := by decide +kernel
theorem dmc10 : dmChunk 10 = true := by decide +kernel
theorem dmc11 : dmChunk 11 = true := by decide +kernel
theorem dmc12 : dmChunk 12 = true := by decide +kernel
theorem dmc13 : dmChunk 13 = true := by decide +kernel
theorem dmc14 : dmChunk 14 = true := by decide +kernel
theorem dmc15 : dmChunk 15 = true := by decide +kernel
theorem dmcAll : ∀ k, k < 16 → dmChunk k = true
  | 0, _ => dmc0 | 1, _ => dmc1 | 2, _ => dmc2 | 3, _ => dmc3 | 4, _ => dmc4 | 5, _ => dmc5 | 6, _ => dmc6 | 7, _ => dmc7
  | 8, _ => dmc8 | 9, _ => dmc9 | 10, _ => dmc10 | 11, _ => dmc11 | 12, _ => dmc12 | 13, _ => dmc13 | 14, _ => dmc14 | 15, _ => dmc15
  | k + 16, h => absurd h (by omega)
theorem dm_good {a b : Nat} (ha : a < 1024) (h0 : 0 < b) (hb : b ≤ 5) : dmOk a b = true ∧ dmRes a b = (a / b, a % b) := by
  have := dmcAll (a / 64) (by omega)
  have := List.all_eq_true.mp this (a % 64) (List.mem_range.mpr (Nat.mod_lt _ (by decide)))
  have := List.all_eq_true.mp this b (by simp; omega)
  rw [Nat.div_add_mod] at this
  unfold dmChk at this
  simpa using this
end
section
section
variable {prog : Program} {w : World} {g0 : Heap} {mg mb : Str → Option Value} {loose : List Str} {mean : ExcName → Option Value} {fx : List (Addr × Obj)}
theorem two_binds {a b : D} {xa xb : Str} {fd : FuncData} (K : Frag) (hp : ∀ v1 v2 S, peek K S (bindArgs fd ⟨[v1, v2], []⟩) = some [(xa, v1), (xb, v2)]) (s : Shared) (X : List Addr) (c : Option (List Addr)) (vals kvals : List Value) (KI : K.In s.heap) (ra : RepsC X c s.heap [a, b] vals) (rk : RepsC X c s.heap [] kvals) :
    ∃ binds, BindsTo s fd ⟨vals, ([] : List Str).zip kvals⟩ binds ∧ binds.map (·.1) = [(xa, a), (xb, b)].map (·.1) ∧ RepsC X c s.heap ([(xa, a), (xb, b)].map (·.2)) (binds.map (·.2)) := by
  simp only [RepsC] at ra rk
  obtain ⟨v1, _, rfl, r1, v2, _, rfl, r2, rfl⟩ := ra
  subst rk
  refine ⟨_, kp_binds KI (hp v1 v2), rfl, ?_⟩
  simp only [List.map_cons, List.map_nil, RepsC]
  exact ⟨_, _, rfl, r1, _, _, rfl, r2, rfl⟩
theorem idm_pos (ok : ((mkG prog w g0 mg mb loose mean fx)).Ok) {n a b : Nat} (ha : a < 1024) (h0 : 0 < b) (hb : b ≤ 5) : Fn (mkG prog w g0 mg mb loose mean fx) (n + 15) (.ref 102) [] [.int a, .int b] [] [] (.tup [.int (a / b : Nat), .int (a % b : Nat)]) [] := by
  obtain ⟨g1, g2⟩ := dm_good ha h0 hb
  refine fn_enter ok (idm.ho _) (idm.code _) [("a", .int a), ("b", .int b)] 0 (two_binds _ (fun _ _ _ => rfl)) (by rfl) (Nat.le_refl _) ?_ (by decide +kernel)
  unfold idm.body
  apply se_cons
  apply s_if
  · walk_at "pt"
  · rw [if_neg (by simp; omega)]
    apply se_cons
    apply s_if
    · walk_at "pt"
    · rw [if_neg (by simp)]
      apply se_cons
      apply s_if
      · walk_at "pt"
      · rw [if_neg (by simp)]
        apply se_cons
        apply s_ret
        · exact pe_call (pg.divmod_pos ok) (pes_cons pe_loc (pes_cons pe_loc pes_nil)) pks_nil (fun _ g => keeps_K' ok (by kernel_rfl) g) (call_fn [] (dmpos_fn (n := n) ok g1) ⟨.inr (.inl rfl), .inr (.inl rfl), trivial⟩ trivial (by omega) (fun i c h => by simp at h))
        · rw [g2]
          exact ⟨rfl, rfl, rfl⟩
/-- what int_divmod gives for a divisor from 1 to 5 -/
noncomputable def idmR (a : Int) (b : Nat) : Int × Int := (a / (b : Int), a % (b : Int))
theorem idm_any (ok : ((mkG prog w g0 mg mb loose mean fx)).Ok) {n : Nat} {a : Int} {b : Nat} (ha : -1024 ≤ a) (ha2 : a < 1024) (h0 : 0 < b) (hb : b ≤ 5) : Fn (mkG prog w g0 mg mb loose mean fx) (n + 16) (.ref 102) [] [.int a, .int b] [] [] (.tup [.int (idmR a b).1, .int (idmR a b).2]) [] := by
  by_cases hneg : a < 0
  · refine fn_enter ok (idm.ho _) (idm.code _) [("a", .int a), ("b", .int b)] 0 (two_binds _ (fun _ _ _ => rfl)) (by rfl) (Nat.le_refl _) ?_ (by decide +kernel)
    obtain ⟨m, hm⟩ : ∃ m : Nat, a = -(m : Int) - 1 := ⟨(-a - 1).toNat, by omega⟩
    unfold idm.body
    apply se_cons
    apply s_if
    · walk_at "pt"
    · rw [if_neg (by simp; omega)]
      apply se_cons
      apply s_if
      · walk_at "pt"
      · rw [if_neg (by simp)]
        apply se_cons
        apply s_if
        · walk_at "pt"
        · rw [if_pos (by simpa using hneg)]
          apply se_cons
          apply s_assignT (l := [("q", ⟨130, 8, 130, 9⟩), ("r", ⟨130, 11, 130, 12⟩)]) (ds := [.int (m / b : Nat), .int (m % b : Nat)])
          · apply pe_call (pg.int_divmod ok) (ds := [.int m, .int b])
            · apply pes_cons
              · apply pe_eq (d := .int (Builtin.bitNot a))
                · walk_at "pv"
                · exact (by unfold Builtin.bitNot; congr 1; omega)
              · exact pes_cons pe_loc pes_nil
              · intro _; rfl
            · exact pks_nil
            · exact fun _ g => keeps_K' ok (by kernel_rfl) g
            · exact call_fn [] (idm_pos (n := n) ok (by omega) h0 hb) ⟨.inr (.inl rfl), .inr (.inl rfl), trivial⟩ trivial (by omega) (fun i c h => by simp at h)
          · rfl
          · exact ⟨_, sn_loc, _, sn_loc, rfl⟩
          · show SE _ _ _ _ _ _
            apply se_cons
            apply s_ret
            · apply pe_tuple (ds := [.int (Builtin.bitNot (m / b : Nat)), .int ((b : Int) + Builtin.bitNot (m % b : Nat))]) (hz := by show 2 ≤ 1000000; decide)
              · apply pes_cons
                · walk_at "pv"
                · apply pes_cons
                  · apply pe_binop
                    · walk_at "pv"
                    · walk_at "pv"
                    · walk_at "po"
                  · exact pes_nil
                  · intro _; rfl
                · intro _; rfl
            · refine ⟨?_, rfl, rfl⟩
              have e1 : Builtin.bitNot ((m / b : Nat) : Int) = a / (b : Int) := by
                subst hm
                unfold Builtin.bitNot
                rcases (show b = 1 ∨ b = 2 ∨ b = 3 ∨ b = 4 ∨ b = 5 by omega) with rfl | rfl | rfl | rfl | rfl <;> omega
              have e2 : (b : Int) + Builtin.bitNot ((m % b : Nat) : Int) = a % (b : Int) := by
                subst hm
                unfold Builtin.bitNot
                rcases (show b = 1 ∨ b = 2 ∨ b = 3 ∨ b = 4 ∨ b = 5 by omega) with rfl | rfl | rfl | rfl | rfl <;> omega
              rw [e1, e2]; rfl
  · obtain ⟨m, rfl⟩ := Int.eq_ofNat_of_zero_le (show 0 ≤ a by omega)
    have := idm_pos (prog := prog) (w := w) (g0 := g0) (mg := mg) (mb := mb) (loose := loose) (mean := mean) (fx := fx) (n := n + 1) (a := m) (b := b) ok (by omega) h0 hb
    have e : idmR (m : Int) b = (((m / b : Nat) : Int), ((m % b : Nat) : Int)) := by unfold idmR; push_cast; rfl
    rw [e]; exact this
/-- with both signs turned -/
theorem idm_turned (ok : ((mkG prog w g0 mg mb loose mean fx)).Ok) {n : Nat} {a : Int} {b : Nat} (ha : -1024 < a) (ha2 : a ≤ 1024) (h0 : 0 < b) (hb : b ≤ 5) : Fn (mkG prog w g0 mg mb loose mean fx) (n + 17) (.ref 102) [] [.int a, .int (-(b : Int))] [] [] (.tup [.int (idmR (-a) b).1, .int (-(idmR (-a) b).2)]) [] := by
  refine fn_enter ok (idm.ho _) (idm.code _) [("a", .int a), ("b", .int (-(b : Int)))] 0 (two_binds _ (fun _ _ _ => rfl)) (by rfl) (Nat.le_refl _) ?_ (by decide +kernel)
  unfold idm.body
  apply se_cons
  apply s_if
  · walk_at "pt"
  · rw [if_neg (by simp; omega)]
    apply se_cons
    apply s_if
    · walk_at "pt"
    · rw [if_pos (by simp; omega)]
      apply se_cons
      apply s_assignT (l := [("q", ⟨127, 8, 127, 9⟩), ("r", ⟨127, 11, 127, 12⟩)]) (ds := [.int (idmR (-a) b).1, .int (idmR (-a) b).2])
      · apply pe_call (pg.int_divmod ok) (ds := [.int (-a), .int (b : Int)])
        · apply pes_cons
          · walk_at "pv"
          · apply pes_cons
            · apply pe_eq (d := .int (-(-(b : Int))))
              · walk_at "pv"
              · exact (by rw [Int.neg_neg])
            · exact pes_nil
            · intro _; rfl
          · intro _; rfl
        · exact pks_nil
        · exact fun _ g => keeps_K' ok (by kernel_rfl) g
        · exact call_fn [] (idm_any (n := n) ok (by omega) (by omega) h0 hb) ⟨.inr (.inl rfl), .inr (.inl rfl), trivial⟩ trivial (by omega) (fun i c h => by simp at h)
      · rfl
      · exact ⟨_, sn_loc, _, sn_loc, rfl⟩
      · show SE _ _ _ _ _ _
        apply se_cons
        apply s_ret
        · apply pe_tuple (ds := [.int (idmR (-a) b).1, .int (-(idmR (-a) b).2)]) (hz := by show 2 ≤ 1000000; decide)
          · exact pes_cons pe_loc (pes_cons (by walk_at "pv") pes_nil)
        · exact ⟨rfl, rfl, rfl⟩
end
end
section
/-! _law_plain -/
noncomputable def letter (base : Nat) (b : Int) (w : Nat) : Str := ⟨#[((base : Int) + b % (w : Int)).toNat]⟩
noncomputable def textOf (i : Int) : Str := Str.ofString (toString i)
noncomputable def plainAt (beads : List Int) (w k : Nat) : Str × Str := (letter (if k % 2 = 1 then 65 else 97) (beads.getD k 0) w, textOf (beads.getD k 0 / (w : Int)))
noncomputable def plainL (beads : List Int) (w : Nat) : List (Str × Str) := (List.range beads.length).map (plainAt beads w)
noncomputable def encP (p : Str × Str) : D := .tup [.str p.1, .str p.2]
theorem log2_small {a : Int} (h1 : -1000000 ≤ a) (h2 : a ≤ 1000000) : a.natAbs.log2 < 1920 := by
  rcases Nat.eq_zero_or_pos a.natAbs with h | h
  · rw [h]; decide
  · refine (Nat.log2_lt (by omega)).mpr ?_
    calc a.natAbs < 2 ^ 20 := by omega
      _ ≤ 2 ^ 1920 := Nat.pow_le_pow_right (by decide) (by decide)
section
variable {prog : Program} {w : World} {g0 : Heap} {mg mb : Str → Option Value} {loose : List Str} {mean : ExcName → Option Value} {fx : List (Addr × Obj)}
theorem plain_fn (ok : ((mkG prog w g0 mg mb loose mean fx)).Ok) {n wd : Nat} {beads : List Int} (hx : beads.length ≤ 1000) (hr : ∀ r ∈ beads, -100000 ≤ r ∧ r ≤ 100000) (h0 : 0 < wd) (h5 : wd ≤ 5) : Fn (mkG prog w g0 mg mb loose mean fx) (n + 1) (.ref 315) [] [.lst (dI beads), .int wd] [] [] (.lst ((plainL beads wd).map encP)) [] := by
  refine fn_enter ok (plain.ho _) (plain.code _) [("beads", .lst (dI beads)), ("width", .int wd)] 0 (two_binds _ (fun _ _ _ => rfl)) (by rfl) (Nat.le_refl _) ?_ (by decide +kernel)
  have hlen : ((dI beads).length : Int) = ((beads.length : Nat) : Int) := by simp [dI]
  have bd : ∀ i, -100000 ≤ beads.getD i 0 ∧ beads.getD i 0 ≤ 100000 := fun i => by
    by_cases h : i < beads.length
    · exact hr _ (by rw [List.getD_eq_getElem?_getD, List.getElem?_eq_getElem h]; exact List.getElem_mem h)
    · rw [List.getD_eq_getElem?_getD, List.getElem?_eq_none (by omega)]; decide
  unfold plain.body
  apply se_cons
  apply s_ret
  · apply pe_compL
    · exact ⟨rfl, rfl, by decide +kernel, by decide +kernel, by decide +kernel⟩
    · exact pi_range1 (pg.range ok) (pe_call (pg.len ok) (pes_cons pe_cel pes_nil) pks_nil (fun _ _ => keeps_blt) (c_len (.inl rfl) (by simp [dI]; omega))) (small1 (by omega) (by omega) (by rw [hlen]; omega) (by rw [hlen]; omega)) size1
    · have e : rngD 0 1 (((dI beads).length : Int) - 0).toNat = (List.range beads.length).map (fun (k : Nat) => D.int (k : Int)) := by
        unfold rngD
        rw [hlen, show ((beads.length : Int) - 0).toNat = beads.length from by omega]
        apply List.map_congr_left
        intro k _
        congr 1
        omega
      rw [e]
      apply compB_map (g := encP) (k := plainAt beads wd) (f := fun (k : Nat) => D.int (k : Int)) (fun _ => rfl) rfl
      intro k hk
      have hk' : k < beads.length := List.mem_range.mp hk
      have hb := bd k
      generalize hbk : beads.getD k 0 = bk at *
      have hm1 : 0 ≤ bk % (wd : Int) := Int.emod_nonneg _ (by omega)
      have hm2 : bk % (wd : Int) < wd := Int.emod_lt_of_pos _ (by omega)
      have hfm : bk.fmod (wd : Int) = bk % (wd : Int) := Int.fmod_eq_emod_of_nonneg _ (by omega)
      have hfd : bk.fdiv (wd : Int) = bk / (wd : Int) := Int.fdiv_eq_ediv_of_nonneg _ (by omega)
      apply pe_tuple (ds := [.str (plainAt beads wd k).1, .str (plainAt beads wd k).2]) (hz := by show 2 ≤ 1000000; decide)
      apply pes_cons
      · apply pe_eq (d := .str ⟨#[(((if k % 2 = 1 then 65 else 97 : Nat) : Int) + bk.fmod (wd : Int)).toNat]⟩)
        · apply pe_call (pg.chr ok) (ds := [.int (((if k % 2 = 1 then 65 else 97 : Nat) : Int) + bk.fmod (wd : Int))])
          · apply pes_cons
            · apply pe_binop (a := .int ((if k % 2 = 1 then 65 else 97 : Nat) : Int))
              · by_cases hodd : k % 2 = 1
                · rw [if_pos hodd]
                  apply pe_ifT
                  · apply pt_val
                    · apply pe_binop
                      · walk_at "pv"
                      · walk_at "pv"
                      · exact o_fmod (by decide) (by decide)
                    · have : ((k : Int).fmod 2 != 0) = true := by
                        rw [Int.fmod_eq_emod_of_nonneg _ (by decide)]
                        have : (k : Int) % 2 = 1 := by omega
                        rw [this]; rfl
                      rw [← this]; exact ot_int
                    · intro _ _; rfl
                  · walk_at "pv"
                · rw [if_neg hodd]
                  apply pe_ifF
                  · apply pt_val
                    · apply pe_binop
                      · walk_at "pv"
                      · walk_at "pv"
                      · exact o_fmod (by decide) (by decide)
                    · have : ((k : Int).fmod 2 != 0) = false := by
                        rw [Int.fmod_eq_emod_of_nonneg _ (by decide)]
                        have : (k : Int) % 2 = 0 := by omega
                        rw [this]; rfl
                      rw [← this]; exact ot_int
                    · intro _ _; rfl
                  · walk_at "pv"
              · apply pe_binop (a := .int bk)
                · rw [← hbk]; exact pe_itemN pe_cel pe_loc (.inl rfl) (getD_some (y := 0) hk') (by omega)
                · walk_at "pv"
                · exact o_fmod (by omega) (by rw [Int.natAbs_natCast]; omega)
              · walk_at "po"
            · exact pes_nil
            · intro _; rfl
          · exact pks_nil
          · exact fun _ _ => keeps_blt
          · exact c_chr (by rw [hfm]; split <;> omega) (by rw [hfm]; split <;> omega)
        · exact (by rw [hfm]; unfold plainAt letter; rw [hbk])
      · apply pes_cons
        · apply pe_eq (d := .str (textOf (bk.fdiv (wd : Int))))
          · apply pe_call (pg.str ok) (ds := [.int (bk.fdiv (wd : Int))])
            · apply pes_cons
              · apply pe_binop (a := .int bk)
                · rw [← hbk]; exact pe_itemN pe_cel pe_loc (.inl rfl) (getD_some (y := 0) hk') (by omega)
                · walk_at "pv"
                · exact o_fdiv (by omega) (by rw [Int.natAbs_natCast]; omega)
              · exact pes_nil
              · intro _; rfl
            · exact pks_nil
            · exact fun _ _ => keeps_type
            · refine c_str ?_
              rw [hfd]
              rcases (show wd = 1 ∨ wd = 2 ∨ wd = 3 ∨ wd = 4 ∨ wd = 5 by omega) with rfl | rfl | rfl | rfl | rfl <;> exact log2_small (by omega) (by omega)
          · exact (by rw [hfd]; unfold plainAt; rw [hbk])
        · exact pes_nil
        · intro _; rfl
      · intro _; rfl
    · rw [rngD_len, hlen]; omega
    · intro _ _; rfl
  · exact ⟨rfl, rfl, rfl⟩
end
end
section
/-! _law_ground -/
noncomputable def groundL (script : List Int) : Int := match script[1]? with
  | none => -7
  | some x => if x > 0 then (if x < 0 then -x else x) % 1000 else -((if x < 0 then -x else x) % 1000)
section
variable {prog : Program} {w : World} {g0 : Heap} {mg mb : Str → Option Value} {loose : List Str} {mean : ExcName → Option Value} {fx : List (Addr × Obj)}
theorem ground_fn (ok : ((mkG prog w g0 mg mb loose mean fx)).Ok) {n : Nat} {script : List Int} (hx : script.length ≤ 1000) : Fn (mkG prog w g0 mg mb loose mean fx) (n + 1) (.ref 342) [] [.lst (dI script)] [] [] (.int (groundL script)) [] := by
  refine fn_enter ok (ground.ho _) (ground.code _) [("script", .lst (dI script))] 0 (fun s X c vals kvals KI ra rk => ?_) (by rfl) (Nat.le_refl _) ?_ (by decide +kernel)
  · simp only [RepsC] at ra rk
    obtain ⟨v1, _, rfl, r1, rfl⟩ := ra
    subst rk
    refine ⟨_, kp_binds KI (fun _ => rfl), rfl, ?_⟩
    simp only [List.map_cons, List.map_nil, RepsC]
    exact ⟨_, _, rfl, r1, rfl⟩
  · unfold ground.body
    have hlen : ((dI script).length : Int) = ((script.length : Nat) : Int) := by simp [dI]
    apply se_cons
    apply s_if
    · apply pt_cmp
      · exact pe_call (pg.len ok) (pes_cons pe_loc pes_nil) pks_nil (fun _ _ => keeps_blt) (c_len (.inl rfl) (by simp [dI]; omega))
      · walk_at "pv"
      · walk_at "po"
      · with_unfolding_all rfl
    · rw [hlen]
      by_cases h2 : script.length < 2
      · rw [if_pos (by simp; omega)]
        apply se_cons
        apply s_ret
        · walk_at "pv"
        · refine ⟨?_, rfl, rfl⟩
          have : script[1]? = none := List.getElem?_eq_none (by omega)
          simp [groundL, this, D.conv]
      · rw [if_neg (by simp; omega)]
        walk_at "ps_end"
        have h1 : script[1]? = some (script.getD 1 0) := getD_some (by omega)
        generalize script.getD 1 0 = x at h1
        have hitem : ∀ {p1 p2 p3 : Pos} {σ : AS}, σ.loc.lookup ("script" : Str) = some (.lst (dI script)) → PE (mkG prog w g0 mg mb loose mean fx) n ⟨ground.scope, some (.ref 341, Str.ofString "_law_ground" ++ ".<locals>."), true, none⟩ σ (.Subscript (.Name "script" p1) (.Constant (.int 1) 0 p2) p3) (.int x) σ := fun hl =>
          pe_itemN (i := 1) (pe_loc rfl hl) pe_int (.inl rfl) h1 (by omega)
        apply se_cons
        apply s_assign (d := .int ((if x < 0 then -x else x) % 1000))
        · apply pe_eq (d := .int ((if x < 0 then -x else x).fmod 1000))
          · apply pe_binop
            · exact pe_call (pg.abs ok) (pes_cons (hitem rfl) pes_nil) pks_nil (fun _ _ => keeps_blt) c_abs
            · walk_at "pv"
            · walk_at "po"
          · exact (by rw [Int.fmod_eq_emod_of_nonneg _ (by decide)])
        · exact sn_loc
        show SE _ _ _ _ _ _
        apply se_cons
        by_cases hp : x > 0
        · apply s_ret (d := .int ((if x < 0 then -x else x) % 1000))
          · apply pe_ifT
            · apply pt_cmp (c := true)
              · exact hitem rfl
              · walk_at "pv"
              · rw [← decide_eq_true hp]; exact o_gt
            · walk_at "pv"
          · exact ⟨by simp only [groundL, h1, if_pos hp]; rfl, rfl, rfl⟩
        · apply s_ret (d := .int (-((if x < 0 then -x else x) % 1000)))
          · apply pe_ifF
            · apply pt_cmp (c := false)
              · exact hitem rfl
              · walk_at "pv"
              · rw [← decide_eq_false hp]; exact o_gt
            · walk_at "pv"
          · exact ⟨by simp only [groundL, h1, if_neg hp]; rfl, rfl, rfl⟩
end
end
section
/-! ints told by figures -/
theorem fig_num {m : Nat} : Fig (textOf (m : Int)) := fun c hc => by
  unfold textOf at hc
  rw [KIN.signs_num] at hc
  obtain ⟨ch, hch, e⟩ := List.mem_map.mp hc
  rw [← e]
  exact digit_range (Nat.isDigit_of_mem_toDigits (by decide) (by decide) hch)
theorem len_num {m : Nat} (h : m < 10 ^ 10) : (textOf (m : Int)).length ≤ 10 := KT.len_num (by omega) (by omega)
theorem len_pos {m : Nat} : 1 ≤ (textOf (m : Int)).length := by
  show 1 ≤ (textOf (m : Int)).cps.size
  rw [← Array.length_toList]
  unfold textOf
  rw [KIN.signs_num, List.length_map]
  exact toDigits_len_ge 10 m
theorem reads_num {m : Nat} (h : m < 10 ^ 10) : PySem.intText? (textOf (m : Int)) = some (m : Int) := KIN.num_reads (by omega) (by omega)
section
variable {prog : Program} {w : World} {g0 : Heap} {mg mb : Str → Option Value} {loose : List Str} {mean : ExcName → Option Value} {fx : List (Addr × Obj)}
/-! compute_powers of a short text -/
theorem pow_fn (ok : ((mkG prog w g0 mg mb loose mean fx)).Ok) {n : Nat} {z : Int} (hz : z ≤ 2048) : Fn (mkG prog w g0 mg mb loose mean fx) (n + 1) (.ref 46) [] [.int z, .int 5, .int 2048] [] [] .any [] := by
  refine fn_enter ok (comp_pow.ho _) (comp_pow.code _) [("w", .int z), ("base", .int 5), ("more_than", .int 2048), ("show", .bool false)] 0 (fun s X c vals kvals KI ra rk => ?_) (by rfl) (Nat.le_refl _) ?_ (by decide +kernel)
  · simp only [RepsC] at ra rk
    obtain ⟨v1, _, rfl, r1, v2, _, rfl, r2, v3, _, rfl, r3, rfl⟩ := ra
    subst rk
    refine ⟨_, kp_binds KI (fun _ => rfl), rfl, ?_⟩
    simp only [List.map_cons, List.map_nil, RepsC]
    exact ⟨_, _, rfl, r1, _, _, rfl, r2, _, _, rfl, r3, _, _, rfl, rbool, rfl⟩
  · unfold comp_pow.body
    apply se_cons
    apply s_assign
    · exact pe_call (pg.set ok) pes_nil pks_nil (fun _ _ => keeps_type) c_set0
    · exact sn_loc
    rotate_left
    · intro _ _; rfl
    show SE _ _ _ _ _ _
    apply se_cons
    apply s_assign
    · exact pe_call (pg.set ok) pes_nil pks_nil (fun _ _ => keeps_type) c_set0
    · exact sn_loc
    rotate_left
    · intro _ _; rfl
    show SE _ _ _ _ _ _
    apply se_cons
    apply s_assign
    · exact pe_set1 ok rfl (by kernel_rfl) pe_loc rfl rfl rfl
    · exact sn_loc
    rotate_left
    · intro _ _; rfl
    show SE _ _ _ _ _ _
    apply se_cons
    apply s_while 2
    refine ⟨true, _, ?_, rfl, ?_⟩
    · apply pt_val
      · exact pe_loc
      · exact ot_set (k := 1) rfl (by decide)
      · intro _ _; rfl
    · rw [if_pos rfl]
      apply se_cons
      apply s_assign
      · apply pe_mcall
        · exact pe_loc
        · exact gm_set rfl
        · exact pes_nil
        · exact pks_nil
        · exact fun _ _ => keeps_blt
        · exact c_setpop (k := z) rfl (by simp)
        · intro _; rfl
        · intro _; rfl
        · rfl
      · exact sn_loc
      rotate_left
      · intro _ _; rfl
      show SE _ _ _ _ _ _
      apply se_cons
      apply s_if (b := true)
      · apply pt_or2
        · apply pt_cmp
          · exact pe_loc
          · exact pe_loc
          · exact o_inSet (S := fun _ => false) (z := z) (i := 0) (k := 0) rfl (by decide)
          · with_unfolding_all rfl
        · apply pt_cmp
          · exact pe_loc
          · exact pe_loc
          · have : decide (z ≤ 2048) = true := decide_eq_true hz
            rw [← this]; exact o_le
          · with_unfolding_all rfl
      · rw [if_pos rfl]
        apply se_cons
        apply s_continue
        refine ⟨rfl, false, _, ?_, rfl, ?_⟩
        · apply pt_val
          · exact pe_loc
          · exact ot_set (k := 0) rfl (by decide)
          · intro _ _; rfl
        · rw [if_neg (by decide)]
          show SE _ _ _ _ _ _
          apply se_cons
          apply s_assign
          · exact pe_dict0
          · exact sn_loc
          rotate_left
          · intro _ _; rfl
          show SE _ _ _ _ _ _
          apply se_cons
          apply s_if
          · apply pt_not
            apply pt_val
            · exact pe_loc
            · exact ot_set (k := 0) rfl (by decide)
            · intro _ _; rfl
          · rw [if_pos (by rfl)]
            apply se_cons
            apply s_ret
            · exact pe_loc
            · exact ⟨rfl, rfl, rfl⟩
end
end
section
theorem slice_all (x : Str) : Txt.slice x (some ((0 : Nat) : Int)) (some ((x.length : Nat) : Int)) = x := by
  unfold Txt.slice
  rw [StrLaws.strSliceIndices_plain (Nat.zero_le _) (Nat.le_refl _)]
  simp
theorem slice_from1 {x : Str} {c : Nat} {cs : List Nat} (h : x.cps.toList = c :: cs) : Txt.slice x (some ((1 : Nat) : Int)) none = ⟨cs.toArray⟩ := by
  have hl : x.length = cs.length + 1 := by show x.cps.size = _; rw [← Array.length_toList, h]; rfl
  unfold Txt.slice
  rw [StrLaws.sliceIdx_none_hi]
  have e1 : ((Builtin.Str.strSliceIndices (some ((1 : Nat) : Int)) (some (x.length : Int)) 1 x.length).length == x.length) = false := by
    rw [StrLaws.strSliceIndices_plain (by omega) (Nat.le_refl _)]
    simp [hl]
  rw [e1]
  simp only [Bool.and_false, Bool.false_eq_true, if_false]
  congr 1
  rw [StrLaws.sliced_plain x (by omega) (Nat.le_refl _), h]
  simp [hl]
theorem slice_to1 {x : Str} {c : Nat} {cs : List Nat} (h : x.cps.toList = c :: cs) : Txt.slice x none (some ((1 : Nat) : Int)) = ⟨#[c]⟩ := by
  have hl : x.length = cs.length + 1 := by show x.cps.size = _; rw [← Array.length_toList, h]; rfl
  unfold Txt.slice
  rw [StrLaws.sliceIdx_none_lo]
  show (if _ then x else _) = _
  split
  · rename_i q
    have e1 : (Builtin.Str.strSliceIndices (some ((0 : Nat) : Int)) (some ((1 : Nat) : Int)) 1 x.length).length = 1 := by
      rw [StrLaws.strSliceIndices_plain (by omega) (by omega)]; simp
    have q' : (Builtin.Str.strSliceIndices (some ((0 : Nat) : Int)) (some ((1 : Nat) : Int)) 1 x.length).length = x.length := by
      simp only [Bool.and_eq_true, beq_iff_eq] at q; exact q.2
    have : cs = [] := List.length_eq_zero_iff.mp (by omega)
    subst this
    obtain ⟨cps⟩ := x
    congr 1
    exact Array.toList_inj.mp h
  · congr 1
    have := StrLaws.sliced_plain x (a := 0) (b := 1) (by omega) (by omega)
    show (List.filterMap (fun i => x.cps[i]?) (Builtin.Str.strSliceIndices (some ((0 : Nat) : Int)) (some ((1 : Nat) : Int)) 1 x.length)).toArray = _
    rw [this, h]; rfl
theorem neg_num {m : Nat} : (textOf (-((m + 1 : Nat) : Int))).cps.toList = 45 :: (textOf ((m + 1 : Nat) : Int)).cps.toList := by
  unfold textOf
  rw [signs_ofString, signs_ofString]
  have : toString (-((m + 1 : Nat) : Int)) = "-" ++ toString ((m + 1 : Nat) : Int) := rfl
  rw [this, String.toList_append, List.map_append]
  rfl
section
variable {prog : Program} {w : World} {g0 : Heap} {mg mb : Str → Option Value} {loose : List Str} {mean : ExcName → Option Value} {fx : List (Addr × Obj)}
theorem s2i_inner (ok : ((mkG prog w g0 mg mb loose mean fx)).Ok) {fa c' : Addr} {oc : Obj} {vs : Array Value} {t : Tok} {doc pm ctv : Value} {cs : List (Str × Addr)} (cl : List (Str × Addr)) (hcl0 : cl = clL cs s2i.iscope.names [])
    (hf : (fa, fnMade "inner" "_str_to_int_inner.<locals>.inner" s2i.iparams s2i.ibody s2i.iscope cl doc pm c' ctv) ∈ fx) (hc : (c', oc) ∈ fx) (hcd : oc.data = .fields vs) (hcv : vs[1]? = some (.str "_str_to_int_inner.<locals>.inner" t))
    {x : Str} {k : Int} (hx : x.length ≤ 600) (hk : PySem.intText? x = some k) {n : Nat} {fi : Fi} {csx : List (Str × Addr)} {σ : AS} (hcs : fi.cells = some csx) (hcl : ∀ p ∈ cl, csx.lookup p.1 = some p.2)
    (k1 : σ.cel.lookup ("DIGLIM" : Str) = some (.int 2048)) (k2 : σ.cel.lookup ("s" : Str) = some (.str x)) : CallOk (mkG prog w g0 mg mb loose mean fx) (n + 1) fi σ (.ref fa) [.int ((0 : Nat) : Int), .int ((x.length : Nat) : Int)] [] [] (.int k) σ := by
  have hnd : (cl.map (·.1)).Nodup := by rw [hcl0]; show (["w5pow", "s", "inner", "DIGLIM"] : List Str).Nodup; decide
  have hi1 : (cl.lookup ("DIGLIM" : Str)).isSome = true := by rw [hcl0]; rfl
  have hi2 : (cl.lookup ("s" : Str)).isSome = true := by rw [hcl0]; rfl
  clear hcl0
  have step := clo_call (H' := σ.H) (n := n) (σ := σ) (d := .int k) ok hf hc hcd hcv hcs hcl hnd [("a", .int ((0 : Nat) : Int)), ("b", .int ((x.length : Nat) : Int))] (ds := [.int ((0 : Nat) : Int), .int ((x.length : Nat) : Int)]) (fun s X c vals ra => by
    simp only [RepsC] at ra
    obtain ⟨v1, _, rfl, r1, v2, _, rfl, r2, rfl⟩ := ra
    refine ⟨_, kp_binds (K := []) (fun a o e => by simp at e) (fun _ => rfl), rfl, ?_⟩
    simp only [List.map_cons, List.map_nil, RepsC]
    exact ⟨_, _, rfl, r1, _, _, rfl, r2, rfl⟩) rfl (by decide +kernel) ?_
  · exact step
  · refine SE.weak' ⟨[("a", .int ((0 : Nat) : Int)), ("b", .int ((x.length : Nat) : Int))], [("DIGLIM", .int 2048), ("s", .str x)], σ.H⟩ (SubL.mk2 (by show SubL _ [("b", D.int ((x.length : Nat) : Int)), ("a", D.int ((0 : Nat) : Int))]; walk_at "sub_l")
      (subl_cons (celCl_lookup hi1 k1) (subl_cons (celCl_lookup hi2 k2) subl_nil))) ?_
    unfold s2i.ibody
    apply se_cons
    apply s_if (b := true)
    · apply pt_cmp
      · walk_at "pv"
      · exact pe_fre
      · have : decide (((x.length : Nat) : Int) - ((0 : Nat) : Int) ≤ 2048) = true := decide_eq_true (by omega)
        rw [← this]; exact o_le
      · with_unfolding_all rfl
    · rw [if_pos rfl]
      apply se_cons
      apply s_ret (d := .int k)
      · apply pe_call (pg.int ok) (ds := [.str x])
        · apply pes_cons
          · apply pe_eq (d := .str (Txt.slice x (some ((0 : Nat) : Int)) (some ((x.length : Nat) : Int))))
            · apply pe_sliceS (lo := some ((0 : Nat) : Int)) (hi := some ((x.length : Nat) : Int))
              · exact pe_fre
              · show PE _ _ _ _ _ _ _; exact pe_loc
              · show PE _ _ _ _ _ _ _; exact pe_loc
              · omega
            · exact congrArg D.str (slice_all x)
          · exact pes_nil
          · intro _; rfl
        · exact pks_nil
        · exact fun _ _ => keeps_type
        · exact c_int hk (by omega)
      · exact ⟨rfl, rfl, rfl, rfl⟩
theorem s2i_fn (ok : ((mkG prog w g0 mg mb loose mean fx)).Ok) {n : Nat} {x : Str} {k : Int} (hx : x.length ≤ 600) (hk : PySem.intText? x = some k) : Fn (mkG prog w g0 mg mb loose mean fx) (n + 2) (.ref 53) [] [.str x] [] [] (.int k) [] := by
  refine fn_enter ok (s2i.ho _) (s2i.code _) [("s", .str x)] 0 (fun s X c vals kvals KI ra rk => ?_) (by rfl) (Nat.le_refl _) ?_ (by decide +kernel)
  · simp only [RepsC] at ra rk
    obtain ⟨v1, _, rfl, r1, rfl⟩ := ra
    subst rk
    refine ⟨_, kp_binds KI (fun _ => rfl), rfl, ?_⟩
    simp only [List.map_cons, List.map_nil, RepsC]
    exact ⟨_, _, rfl, r1, rfl⟩
  · unfold s2i.body
    apply se_cons
    apply s_assign
    · exact pe_int
    · exact sn_cel
    rotate_left
    · intro _ _; rfl
    show SE _ _ _ _ _ _
    apply se_def ok (q := ⟨52, 48, ⟨50, 4, 54, 74⟩, "_str_to_int_inner.<locals>.inner"⟩) (.tail _ (.tail _ (.head _))) rfl rfl rfl rfl (by decide +kernel) rfl rfl (fun _ => rfl)
    intro f c' oc vs t doc pm ctv cs hnd hcs hcd hcv
    have ok' : (mkG prog w g0 mg mb loose mean ([(f, fnMade "inner" "_str_to_int_inner.<locals>.inner" s2i.iparams s2i.ibody s2i.iscope (clL cs s2i.iscope.names []) doc pm c' ctv), (c', oc)] ++ fx)).Ok := Ok.add ok
    show SE (mkG prog w g0 mg mb loose mean ([(f, fnMade "inner" "_str_to_int_inner.<locals>.inner" s2i.iparams s2i.ibody s2i.iscope (clL cs s2i.iscope.names []) doc pm c' ctv), (c', oc)] ++ fx)) _ _ _ _ _
    apply se_cons
    apply s_assign
    · exact pe_call (pg.compute_powers ok') (pes_cons (pe_call (pg.len ok') (pes_cons pe_cel pes_nil) pks_nil (fun _ _ => keeps_blt) (c_lenS (by omega))) (pes_cons pe_int (pes_cons pe_cel pes_nil))) pks_nil (fun _ g => keeps_K' ok' (by kernel_rfl) g)
        (call_fn [] (pow_fn (n := n) ok' (z := (x.length : Int)) (by omega)) ⟨.inr (.inl rfl), .inr (.inl rfl), .inr (.inl rfl), trivial⟩ trivial (by omega) (fun i c h => by simp at h))
    · exact sn_cel
    rotate_left
    · intro _ _; rfl
    show SE _ _ _ _ _ _
    apply se_cons
    apply s_ret (d := .int k)
    · apply pe_call (f := .ref f) (ds := [.int ((0 : Nat) : Int), .int ((x.length : Nat) : Int)])
      · exact pe_cel
      · exact pes_cons pe_int (pes_cons (pe_call (pg.len ok') (pes_cons pe_cel pes_nil) pks_nil (fun _ _ => keeps_blt) (c_lenS (by omega))) pes_nil)
      · exact pks_nil
      · exact fun h g => keeps_fn (g.fx _ (.head _)).2 rfl
      · apply s2i_inner ok' (clL cs s2i.iscope.names []) rfl (.head _) (.tail _ (.head _)) hcd hcv hx hk (n := n)
        · exact rfl
        · exact clL_ok hcs (fun _ h => by cases h)
        · exact rfl
        · exact rfl
    · exact ⟨rfl, rfl, rfl⟩
theorem ifs_fn (ok : ((mkG prog w g0 mg mb loose mean fx)).Ok) {n : Nat} {x : Str} {k : Int} (hx : x.length ≤ 600) (hf : Fig x) (hk : PySem.intText? x = some k) : Fn (mkG prog w g0 mg mb loose mean fx) (n + 3) (.ref 60) [] [.str x] [] [] (.int k) [] := by
  refine fn_enter ok (ifs.ho _) (ifs.code _) [("s", .str x)] 0 (fun s X c vals kvals KI ra rk => ?_) (by rfl) (Nat.le_refl _) ?_ (by decide +kernel)
  · simp only [RepsC] at ra rk
    obtain ⟨v1, _, rfl, r1, rfl⟩ := ra
    subst rk
    refine ⟨_, kp_binds KI (fun _ => rfl), rfl, ?_⟩
    simp only [List.map_cons, List.map_nil, RepsC]
    exact ⟨_, _, rfl, r1, rfl⟩
  · unfold ifs.body
    apply se_cons
    apply s_assign (d := .str x)
    · apply pe_mcall
      · apply pe_mcall
        · exact pe_loc
        · exact gm_str PySem.F.slot_str_rstrip PySem.F.type_str_rstrip
        · exact pes_nil
        · exact pks_nil
        · exact fun _ _ => keeps_blt
        · exact c_rstrip hf (by omega)
        · intro _; rfl
        · intro _; rfl
        · rfl
      · exact gm_str PySem.F.slot_str_replace PySem.F.type_str_replace
      · exact pes_cons pe_str (pes_cons pe_str pes_nil)
      · exact pks_nil
      · exact fun _ _ => keeps_blt
      · exact c_replace hf (by omega)
      · intro _; rfl
      · intro _; rfl
      · rfl
    · exact sn_loc
    · show SE _ _ _ _ _ _
      apply se_cons
      apply s_ret (d := .int k)
      · exact pe_call (pg.str_to_int_inner ok) (pes_cons pe_loc pes_nil) pks_nil (fun _ g => keeps_K' ok (by kernel_rfl) g) (call_fn [] (s2i_fn (n := n) ok hx hk) ⟨.inr (.inl rfl), trivial⟩ trivial (by omega) (fun i c h => by simp at h))
      · exact ⟨rfl, rfl, rfl⟩
theorem whole_fn (ok : ((mkG prog w g0 mg mb loose mean fx)).Ok) {n : Nat} {i : Int} (h1 : -1000000 ≤ i) (h2 : i ≤ 1000000) : Fn (mkG prog w g0 mg mb loose mean fx) (n + 4) (.ref 305) [] [.str (textOf i)] [] [] (.int i) [] := by
  refine fn_enter ok (whole.ho _) (whole.code _) [("text", .str (textOf i))] 0 (fun s X c vals kvals KI ra rk => ?_) (by rfl) (Nat.le_refl _) ?_ (by decide +kernel)
  · simp only [RepsC] at ra rk
    obtain ⟨v1, _, rfl, r1, rfl⟩ := ra
    subst rk
    refine ⟨_, kp_binds KI (fun _ => rfl), rfl, ?_⟩
    simp only [List.map_cons, List.map_nil, RepsC]
    exact ⟨_, _, rfl, r1, rfl⟩
  · unfold whole.body
    apply se_cons
    by_cases hneg : i < 0
    · obtain ⟨m, rfl⟩ : ∃ m : Nat, i = -((m + 1 : Nat) : Int) := ⟨(-i - 1).toNat, by omega⟩
      have hl : (textOf (-((m + 1 : Nat) : Int))).length ≤ 600 := by
        show (textOf (-((m + 1 : Nat) : Int))).cps.size ≤ 600
        rw [← Array.length_toList, neg_num, List.length_cons, Array.length_toList]
        have := len_num (m := m + 1) (by omega)
        have : (textOf ((m + 1 : Nat) : Int)).cps.size ≤ 10 := this
        omega
      apply s_ret (d := .int (-((m + 1 : Nat) : Int)))
      · apply pe_ifT
        · apply pt_cmp (a := .str ⟨#[45]⟩)
          · apply pe_eq (d := .str (Txt.slice (textOf (-((m + 1 : Nat) : Int))) none (some ((1 : Nat) : Int))))
            · apply pe_sliceS (lo := none) (hi := some ((1 : Nat) : Int))
              · exact pe_loc
              · exact rfl
              · show PE _ _ _ _ _ _ _; exact pe_int
              · omega
            · exact congrArg D.str (slice_to1 neg_num)
          · walk_at "pv"
          · exact o_eqS (a := ⟨#[45]⟩) (b := "-")
        · apply pe_unop
          · apply pe_call (pg.int_from_string ok) (ds := [.str (textOf ((m + 1 : Nat) : Int))])
            · apply pes_cons
              · apply pe_eq (d := .str (Txt.slice (textOf (-((m + 1 : Nat) : Int))) (some ((1 : Nat) : Int)) none))
                · apply pe_sliceS (lo := some ((1 : Nat) : Int)) (hi := none)
                  · exact pe_loc
                  · show PE _ _ _ _ _ _ _; exact pe_int
                  · exact rfl
                  · omega
                · exact congrArg D.str (slice_from1 neg_num)
              · exact pes_nil
              · intro _; rfl
            · exact pks_nil
            · exact fun _ g => keeps_K' ok (by kernel_rfl) g
            · exact call_fn [] (ifs_fn (n := n) ok (x := textOf ((m + 1 : Nat) : Int)) (by have := len_num (m := m + 1) (by omega); omega) fig_num (reads_num (by omega))) ⟨.inr (.inl rfl), trivial⟩ trivial (by omega) (fun i c h => by simp at h)
          · exact o_neg
      · exact ⟨rfl, rfl, rfl⟩
    · obtain ⟨m, rfl⟩ := Int.eq_ofNat_of_zero_le (show 0 ≤ i by omega)
      have hl : (textOf ((m : Nat) : Int)).length ≤ 10 := len_num (by omega)
      have hp := len_pos (m := m)
      obtain ⟨c, cs, hc⟩ : ∃ c cs, (textOf ((m : Nat) : Int)).cps.toList = c :: cs := by
        cases h : (textOf ((m : Nat) : Int)).cps.toList with
        | nil => have : (textOf ((m : Nat) : Int)).cps.size = 0 := by rw [← Array.length_toList, h]; rfl
                 have hp : 1 ≤ (textOf ((m : Nat) : Int)).cps.size := hp
                 omega
        | cons c cs => exact ⟨c, cs, rfl⟩
      have hcf := fig_num (m := m) c (by rw [hc]; exact List.mem_cons_self ..)
      apply s_ret (d := .int (m : Int))
      · apply pe_ifF
        · apply pt_cmp (a := .str ⟨#[c]⟩)
          · apply pe_eq (d := .str (Txt.slice (textOf ((m : Nat) : Int)) none (some ((1 : Nat) : Int))))
            · apply pe_sliceS (lo := none) (hi := some ((1 : Nat) : Int))
              · exact pe_loc
              · exact rfl
              · show PE _ _ _ _ _ _ _; exact pe_int
              · omega
            · exact congrArg D.str (slice_to1 hc)
          · walk_at "pv"
          · have e : ((⟨#[c]⟩ : Str) == ("-" : Str)) = false := by
              rw [beq_eq_false_iff_ne]
              intro q
              have q2 : (#[c] : Array Nat) = #[45] := congrArg Str.cps q
              have q3 : c = 45 := by simpa using q2
              omega
            rw [← e]; exact o_eqS
        · exact pe_call (pg.int_from_string ok) (pes_cons pe_loc pes_nil) pks_nil (fun _ g => keeps_K' ok (by kernel_rfl) g) (call_fn [] (ifs_fn (n := n) ok (x := textOf ((m : Nat) : Int)) (by omega) fig_num (reads_num (by omega))) ⟨.inr (.inl rfl), trivial⟩ trivial (by omega) (fun i c h => by simp at h))
      · exact ⟨rfl, rfl, rfl⟩
end
end
section
/-! Headers -/
noncomputable def Plain (x : Str) : Prop := (∀ c ∈ x.cps.toList, okChar c) ∧ x.length ≤ 1000
theorem Plain.ok {x : Str} (h : Plain x) : ∀ i, i < x.cps.size → okChar (x.cps.getD i 0) := fun i hi => h.1 _ (by
  have : x.cps.getD i 0 = x.cps[i] := by simp [Array.getD, hi]
  rw [this]; simp)
theorem sub_slice {prog : Program} {w : World} {env : Env} {A : Around} {E : Value → Shared → Prop} {s : Shared} {value : Expr} {lower upper : Option Expr} {p pos : Pos} {Q : Value → Shared → Prop}
    (h : wpAny (model prog w) A (eval value env) (fun o s₁ => wpAny (model prog w) A (eval (.Slice lower upper none p) env) (fun i s₂ => s₂.TypeIs o "list" ∧ wpAny (model prog w) A (getItem o i) Q E s₂) E s₁) E s) :
    wpAny (model prog w) A (eval (.Subscript value (.Slice lower upper none p) pos) env) Q E s := by
  rw [eval_Subscript]
  refine wpAny_bind (wpAny_mono h (fun o s₁ h₁ => wpAny_bind (wpAny_holding (wpAny_mono h₁ (fun i s₂ h₂ => wpAny_bind (wpAny_standAt ?_)) fun _ _ x => x))) fun _ _ x => x)
  have fin : wpAny (model prog w) A (operate [i, o] (getItem o i)) (fun r s₃ => wpAny (model prog w) A (letTemporaryGo value o r >>= fun _ => pure r) Q E s₃) E s₂ :=
    wpAny_operating (wpAny_mono h₂.2 (fun r s₃ h₃ => wpAny_bind (wpAny_letTemporaryGo (wpAny_pure h₃))) fun _ _ x => x)
  refine wpAny_bind ?_
  rw [getitemInPython_of_ne h₂.1.not_modules]
  refine wpAny_bind (wpAny_specialOf h₂.1 list_getitem_lookup ?_)
  exact wpAny_pure (wpAny_bind fin)
theorem pe_sliceL {G : Gnd} {n : Nat} {fi : Fi} {σ σ₁ σ₂ σ₃ : AS} {value : Expr} {lower upper : Option Expr} {p pos : Pos} {d : D} {ds : List D} {lo hi : Option Int} (h1 : PE G n fi σ value d σ₁) (h2 : PB G n fi σ₁ lower lo σ₂) (h3 : PB G n fi σ₂ upper hi σ₃) (hl : IsL σ₃ d ds) (hz : ds.length ≤ 1000000) :
    PE G n fi σ (.Subscript value (.Slice lower upper none p) pos) (.ref σ₃.H.length) { σ₃ with H := σ₃.H ++ [.list (pySlice ds lo hi)] } := .mk fun A env α s hA hE hF => by
  refine sub_slice (seq2 (h1.run A env α s hA hE hF) fun v β s₁ sp hb F1 r1 => wpAny_Slice (h2.walk hA hE F1 fun vl γ s₂ sp2 hb2 F2 pl => h3.walk hA hE F2 fun vu δ s₃ sp3 hb3 F3 pu => ?_))
  obtain ⟨a, vs, rfl, hL, hr⟩ := hl.get F3 (F2.still sp3 hb3 (F1.still sp2 hb2 r1))
  have hlen := hr.length
  rw [evalPart_none]
  refine wpAny_pure ⟨(hL.push _).typeIs, wpAny_getItem_list_slice (hL.push _) (Heap.IsSliceOf.new ..) pl pu .none (by simp) ?_ (by rw [List.size_toArray, hlen]; exact sizeFits hz)⟩
  rw [Heap.size_push]
  have e : slicePick vs.toArray lo hi none = (pySlice vs lo hi).toArray := by rw [slicePick_plain]; simp [pySlice]
  rw [e]
  refine Post.up sp hb (Post.up sp2 hb2 (Post.up sp3 hb3 (Post.labL F3 (fun b o e => push_all _ b o (push_all _ b o e)) ?_ ⟨0, by rw [← Heap.size_push s₃.heap]; exact Heap.get?_push_size _ rfl⟩ ?_)))
  · exact fresh_size (Nat.le_succ _)
  · have k : FrzKeep s₃.heap ((s₃.heap.push { cls := .type "slice", data := .fields #[vl, vu, .none] }).push { cls := .type "list", data := .seq (pySlice vs lo hi).toArray }) := fun b o _ e => push_all _ b o (push_all _ b o e)
    exact (hr.flat k).slice
/-- two names over pairs -/
theorem compB_pairs {G : Gnd} {n : Nat} {fi : Fi} {cel : List (Str × D)} {H : List Cont} {x y : Str} {px py tp : Pos} {k : Nat} {elt : Expr} {υ υ' : Type} {f1 f2 : υ → D} {g : υ' → D} {m : υ → υ'} (hg : ∀ b, (g b).flat = true) (hx : fi.scope.names.lookup x = some .local) (hy : fi.scope.names.lookup y = some .local) (hxy : x ≠ y) :
    ∀ (l : List υ), (∀ b ∈ l, PE G n fi ⟨[(x, f1 b), (y, f2 b)], cel, H⟩ elt (g (m b)) ⟨[(x, f1 b), (y, f2 b)], cel, H⟩) → CompB G n fi cel H (.Tuple [.Name x px, .Name y py] k tp) elt [] (l.map fun b => .tup [f1 b, f2 b]) ((l.map m).map g)
  | [], _ => .nil
  | b :: l, h => .keep (tgt_pair hx hy hxy) pts_nil (h b (.head _)) (hg _) (compB_pairs hg hx hy hxy l fun b hb => h b (.tail _ hb))
noncomputable def lowS (x : Str) : Str := ⟨x.cps.map lo1⟩
theorem low_of {x : Str} (h : Plain x) : Txt.lower x = lowS x := lower_ascii fun c hc => by have := (h.1 c hc).2; omega
theorem low_len {x : Str} (h : Plain x) : Builtin.Str.tooLong (Txt.lower x).length = false := by
  rw [low_of h]
  unfold Builtin.Str.tooLong
  refine decide_eq_false ?_
  have e : (lowS x).length = x.length := by show (x.cps.map lo1).size = _; rw [Array.size_map]; rfl
  rw [e, sizeLine_eq]
  have := h.2
  omega
theorem low_plain {x : Str} (h : Plain x) : Plain (lowS x) := by
  refine ⟨fun c hc => ?_, ?_⟩
  · have hc : c ∈ (x.cps.map lo1).toList := hc
    rw [Array.toList_map] at hc
    obtain ⟨c', h1, rfl⟩ := List.mem_map.mp hc
    have := h.1 c' h1
    unfold okChar at this ⊢
    unfold lo1
    split <;> omega
  · show (x.cps.map lo1).size ≤ _
    rw [Array.size_map]; exact h.2
theorem bind_plain {G : Gnd} {H : List Cont} {args kws : List D} {kn : List Str} {bs : List (Str × D)} {fd : FuncData} (ok : G.Ok) (h : ∀ (s : Shared) (X : List Addr) (c : Option (List Addr)) (vals kvals : List Value), G.K.In s.heap → RepsC X c s.heap args vals → RepsC X c s.heap kws kvals →
      ∃ binds, BindsTo s fd ⟨vals, kn.zip kvals⟩ binds ∧ binds.map (·.1) = bs.map (·.1) ∧ RepsC X c s.heap (bs.map (·.2)) (binds.map (·.2))) :
    ∀ (A : Around) (s : Shared) (α : List Addr) (vals kvals : List Value) (Q : List (Str × Value) → Shared → Prop) (E : Value → Shared → Prop), Gs G s.heap → Labs G α s.heap H → RepsC [] (some α) s.heap args vals → RepsC [] (some α) s.heap kws kvals →
      (∀ binds h₀ γ, (∀ b o, s.heap.get? b = some o → h₀.get? b = some o) → (∀ b ∈ γ, s.heap.get? b = none) → Labs G (α ++ γ) h₀ H → binds.map (·.1) = bs.map (·.1) → RepsC [] (some (α ++ γ)) h₀ (bs.map (·.2)) (binds.map (·.2)) → Q binds { s with heap := h₀ }) →
      wpAny (model G.prog G.w) A (bindArgs fd ⟨vals, kn.zip kvals⟩) Q E s := fun A s α vals kvals Q E gs L ra rk q => by
  obtain ⟨binds, hB, hn, hr⟩ := h s _ _ vals kvals (ok.X.keeps gs.base) ra rk
  refine hB _ _ _ _ ?_
  have := q binds s.heap [] (fun _ _ e => e) (fun _ h => nomatch h) (by rw [List.append_nil]; exact L) hn (by rw [List.append_nil]; exact hr)
  exact this
section
variable {prog : Program} {w : World} {g0 : Heap} {mg mb : Str → Option Value} {loose : List Str} {mean : ExcName → Option Value} {fx : List (Addr × Obj)}
theorem hconv_fn (ok : ((mkG prog w g0 mg mb loose mean fx)).Ok) {n : Nat} {x : Str} {b : Bool} (hx : Plain x) : Fn (mkG prog w g0 mg mb loose mean fx) (n + 1) (.ref 183) [] [.any, .str x] ["name"] [.bool b] (.str x) [] := by
  refine fn_enter ok (hconv.ho _) (hconv.code _) [("self", .any), ("value", .str x), ("name", .bool b)] 0 (fun s X c vals kvals KI ra rk => ?_) (by rfl) (Nat.le_refl _) ?_ (by decide +kernel)
  · simp only [RepsC] at ra rk
    obtain ⟨v1, _, rfl, r1, v2, _, rfl, r2, rfl⟩ := ra
    obtain ⟨v3, _, rfl, r3, rfl⟩ := rk
    refine ⟨_, kp_binds KI (fun _ => rfl), rfl, ?_⟩
    simp only [List.map_cons, List.map_nil, RepsC]
    exact ⟨_, _, rfl, r1, _, _, rfl, r2, _, _, rfl, r3, rfl⟩
  · unfold hconv.body
    apply se_cons
    apply s_if (b := true)
    · apply pt_cmp
      · exact pe_call (pg.type ok) (pes_cons pe_loc pes_nil) pks_nil (fun _ _ => keeps_type) c_typeS
      · exact pg.str ok
      · exact o_isType (X := "str") (Y := "str")
      · with_unfolding_all rfl
    · rw [if_pos rfl]
      cases b with
      | true =>
        apply se_cons
        apply s_assign (d := .val (.ref 148))
        · apply pe_ifT
          · apply pt_val
            · exact pe_loc
            · exact ot_bool
            · intro _ _; rfl
          · exact pg.name_disallowed_re ok
        · exact sn_loc
        · show SE _ _ _ _ _ _
          apply se_cons
          apply s_if (b := false)
          · apply pt_val
            · apply pe_mcall
              · exact pe_loc
              · exact gm_pattern (od := none) ok rfl
              · exact pes_cons pe_loc pes_nil
              · exact pks_nil
              · exact fun _ _ => keeps_blt
              · exact c_search (oc' := .none) ok rfl rfl rfl rfl (code := nameCode) (by decide +kernel) (.inl rfl) hx.ok (Nat.le_trans hx.2 (by decide))
              · intro _; rfl
              · intro _; rfl
              · rfl
            · exact ot_none
            · intro _ _; rfl
          · rw [if_neg (by decide)]
            walk_at "ps_end"
            apply se_cons
            apply s_ret
            · exact pe_loc
            · exact ⟨rfl, rfl, rfl⟩
      | false =>
        apply se_cons
        apply s_assign (d := .val (.ref 153))
        · apply pe_ifF
          · apply pt_val
            · exact pe_loc
            · exact ot_bool
            · intro _ _; rfl
          · exact pg.value_disallowed_re ok
        · exact sn_loc
        · show SE _ _ _ _ _ _
          apply se_cons
          apply s_if (b := false)
          · apply pt_val
            · apply pe_mcall
              · exact pe_loc
              · exact gm_pattern (od := none) ok rfl
              · exact pes_cons pe_loc pes_nil
              · exact pks_nil
              · exact fun _ _ => keeps_blt
              · exact c_search (oc' := .none) ok rfl rfl rfl rfl (code := valCode) (by decide +kernel) (.inr rfl) hx.ok (Nat.le_trans hx.2 (by decide))
              · intro _; rfl
              · intro _; rfl
              · rfl
            · exact ot_none
            · intro _ _; rfl
          · rw [if_neg (by decide)]
            walk_at "ps_end"
            apply se_cons
            apply s_ret
            · exact pe_loc
            · exact ⟨rfl, rfl, rfl⟩
theorem hinit_fn (ok : ((mkG prog w g0 mg mb loose mean fx)).Ok) {n : Nat} : FnX (mkG prog w g0 mg mb loose mean fx) (n + 1) (.ref 176) [.dict [], .inst 282 0] [.ref 1] [] [] .none [.dict [("_headers", .ref 2)], .inst 282 0, .list []] := by
  refine fn_enterX ok (hinit.ho _) (hinit.code _) [("self", .ref 1), ("headers", .none)] 3 (bind_plain ok fun s X c vals kvals KI ra rk => ?_) (by rfl) (by decide) ?_ (by decide +kernel)
  · simp only [RepsC] at ra rk
    obtain ⟨v1, _, rfl, r1, rfl⟩ := ra
    subst rk
    refine ⟨_, kp_binds KI (fun _ => rfl), rfl, ?_⟩
    simp only [List.map_cons, List.map_nil, RepsC]
    exact ⟨_, _, rfl, r1, _, _, rfl, rnone, rfl⟩
  · unfold hinit.body
    apply se_cons
    apply s_assign (d := .ref 2)
    · apply pe_ifF
      · apply pt_cmp
        · exact pe_loc
        · exact pe_none
        · exact o_noneIsNotNone
        · with_unfolding_all rfl
      · exact pe_listL pes_nil rfl
    · exact sn_loc
    · show SE _ _ _ _ _ _
      apply se_cons
      apply s_if (b := false)
      · apply pt_cmp
        · exact pe_call (pg.type ok) (pes_cons pe_loc pes_nil) pks_nil (fun _ _ => keeps_type) (c_typeL islab)
        · exact pg.list ok
        · exact o_isNotType (X := "list") (Y := "list")
        · with_unfolding_all rfl
      · rw [if_neg (by decide)]
        walk_at "ps_end"
        apply se_cons
        apply s_setattr ok (C := 282) (i := 1) (j := 0) (d := .ref 2)
        · exact pe_loc
        · exact pe_loc
        · rfl
        · rfl
        · rfl
        · kernel_rfl
        · kernel_rfl
        · kernel_rfl
        · kernel_rfl
        · show SE _ _ _ _ _ _
          apply se_cons
          apply s_if (b := true)
          · apply pt_val
            · exact pe_bool
            · exact ot_bool
            · intro _ _; rfl
          · rw [if_pos rfl]
            apply se_cons
            apply s_for0
            · exact hit_list0 pe_loc rfl
            · show SE _ _ _ _ _ _
              walk_at "ps_end"
              exact se_nil ⟨rfl, rfl, rfl⟩
            · intro _ _; rfl
theorem hitems_fn (ok : ((mkG prog w g0 mg mb loose mean fx)).Ok) {n : Nat} {ds : List D} (hd : ds.length ≤ 1000) : Fn (mkG prog w g0 mg mb loose mean fx) (n + 1) (.ref 246) [] [.hdr 282 ds] [] [] (.lst ds) [] := by
  refine fn_enter ok (hitems.ho _) (hitems.code _) [("self", .hdr 282 ds)] 0 (fun s X c vals kvals KI ra rk => ?_) (by rfl) (Nat.le_refl _) ?_ (by decide +kernel)
  · simp only [RepsC] at ra rk
    obtain ⟨v1, _, rfl, r1, rfl⟩ := ra
    subst rk
    refine ⟨_, kp_binds KI (fun _ => rfl), rfl, ?_⟩
    simp only [List.map_cons, List.map_nil, RepsC]
    exact ⟨_, _, rfl, r1, rfl⟩
  · unfold hitems.body
    apply se_cons
    apply s_ret
    · apply pe_sliceL (lo := none) (hi := none) (d := .lst ds) (ds := ds)
      · exact pe_attrH (at0 := none) ok pe_loc rfl (by kernel_rfl) (by kernel_rfl) (by kernel_rfl) (by kernel_rfl)
      · exact rfl
      · exact rfl
      · exact .inl rfl
      · omega
    · refine ⟨?_, rfl, rfl⟩
      show some (D.lst _) = _
      simp [pySlice]
theorem hkeys_fn (ok : ((mkG prog w g0 mg mb loose mean fx)).Ok) {n : Nat} {ps : List (Str × Str)} (hd : ps.length ≤ 1000) : Fn (mkG prog w g0 mg mb loose mean fx) (n + 1) (.ref 234) [] [.hdr 282 (ps.map encP)] [] [] (.lst ((ps.map (·.1)).map D.str)) [] := by
  refine fn_enter ok (hkeys.ho _) (hkeys.code _) [("self", .hdr 282 (ps.map encP))] 0 (fun s X c vals kvals KI ra rk => ?_) (by rfl) (Nat.le_refl _) ?_ (by decide +kernel)
  · simp only [RepsC] at ra rk
    obtain ⟨v1, _, rfl, r1, rfl⟩ := ra
    subst rk
    refine ⟨_, kp_binds KI (fun _ => rfl), rfl, ?_⟩
    simp only [List.map_cons, List.map_nil, RepsC]
    exact ⟨_, _, rfl, r1, rfl⟩
  · unfold hkeys.body
    apply se_cons
    apply s_ret
    · apply pe_compL (out := (ps.map (·.1)).map D.str)
      · exact ⟨rfl, rfl, by decide +kernel, by decide +kernel, by decide +kernel⟩
      · exact pi_list (pe_attrH (at0 := none) ok pe_loc rfl (by kernel_rfl) (by kernel_rfl) (by kernel_rfl) (by kernel_rfl))
      · apply compB_pairs (x := "k") (y := "v") (f1 := fun (p : Str × Str) => D.str p.1) (f2 := fun (p : Str × Str) => D.str p.2) (g := D.str) (m := fun (p : Str × Str) => p.1)
        · exact fun _ => rfl
        · rfl
        · rfl
        · decide
        · exact fun b hb => pe_loc
      · rw [List.length_map]; omega
    · exact ⟨rfl, rfl, rfl⟩
noncomputable def getL (ps : List (Str × Str)) (nm : Str) : List Str := (ps.filter fun p => lowS p.1 == nm).map (·.2)
theorem hgetall_fn (ok : ((mkG prog w g0 mg mb loose mean fx)).Ok) {n : Nat} {ps : List (Str × Str)} {nm : Str} (hd : ps.length ≤ 1000) (hp : ∀ p ∈ ps, Plain p.1) (hn : Plain nm) : Fn (mkG prog w g0 mg mb loose mean fx) (n + 2) (.ref 221) [] [.hdr 282 (ps.map encP), .str nm] [] [] (.lst ((getL ps (lowS nm)).map D.str)) [] := by
  refine fn_enter ok (hgetall.ho _) (hgetall.code _) [("self", .hdr 282 (ps.map encP)), ("name", .str nm)] 0 (two_binds _ (fun _ _ _ => rfl)) (by rfl) (Nat.le_refl _) ?_ (by decide +kernel)
  unfold hgetall.body
  have lower : ∀ {σ σ' : AS} {e : Expr} {x : Str} {fi : Fi} {m : Nat} {p1 p2 : Pos}, Plain x → PE (mkG prog w g0 mg mb loose mean fx) m fi σ e (.str x) σ' → (∀ env, eval (.Call (.Attribute e "lower" p1) [] [] p2) env = (do let ov ← eval e env; standAt p1.atName; let (f, first) ← holding [ov] (getMethod ov "lower" (do return (← importBound e env).getD true)); callWith p2 f first (backTo p2 (starEach [] env)) (backToKw p2 (keywordEach [] env)))) → PE (mkG prog w g0 mg mb loose mean fx) m fi σ (.Call (.Attribute e "lower" p1) [] [] p2) (.str (lowS x)) σ' := by
    intro σ σ' e x fi m p1 p2 hx he hev
    apply pe_mcall
    · exact he
    · exact gm_str PySem.F.slot_str_lower PySem.F.type_str_lower
    · exact pes_nil
    · exact pks_nil
    · exact fun _ _ => keeps_blt
    · exact c_lower (low_of hx) (low_len hx)
    · exact hev
    · intro _; rfl
    · rfl
  apply se_cons
  apply s_assign (d := .str (lowS nm))
  · apply pe_mcall
    · exact pe_loc
    · exact gm_hdr (f := 183) ok (by kernel_rfl) (by kernel_rfl) (by kernel_rfl) (fun _ _ _ _ => rfl)
    · exact pes_cons (lower hn pe_cel (fun _ => rfl)) pes_nil
    · exact pks_cons pe_bool pks_nil
    · exact fun _ g => keeps_K' ok (by kernel_rfl) g
    · exact call_fn [] (hconv_fn (n := n) ok (low_plain hn)) ⟨.inl rfl, .inr (.inl rfl), trivial⟩ ⟨.inr (.inl rfl), trivial⟩ (by omega) (fun i c h => by simp at h)
    · intro _; rfl
    · intro _; rfl
    · rfl
  · exact sn_cel
  · show SE _ _ _ _ _ _
    apply se_cons
    apply s_ret
    · apply pe_compL (out := (getL ps (lowS nm)).map D.str)
      · exact ⟨rfl, rfl, by decide +kernel, by decide +kernel, by decide +kernel⟩
      · exact pi_list (pe_attrH (at0 := none) ok pe_loc rfl (by kernel_rfl) (by kernel_rfl) (by kernel_rfl) (by kernel_rfl))
      · apply compB_filter (g := D.str) (k := fun (p : Str × Str) => p.2) (fun _ => rfl) rfl
        · intro p hpm
          apply pt_cmp
          · exact lower (hp p hpm) (pe_itemT (ds := [.str p.1, .str p.2]) (j := 0) pe_loc pe_int (by decide) (by decide) rfl rfl) (fun _ => rfl)
          · exact pe_cel
          · exact o_eqS
          · with_unfolding_all rfl
        · intro p hpm
          exact pe_itemT (ds := [.str p.1, .str p.2]) (j := 1) pe_loc pe_int (by decide) (by decide) rfl rfl
      · rw [List.length_map]; omega
    · exact ⟨rfl, rfl, rfl⟩
end
end
section
/-! add_header -/
theorem bind_new {K : Frag} {M : Model} {A : Around} {E : Value → Shared → Prop} {τ : Type} {o : Obj} {r : Addr → τ} : ∀ (t : Sem τ) (g : Addr → Option τ) (s : Shared) (Q : τ → Shared → Prop), K.In s.heap → peek1 K ⟨M.prog, M.w.params⟩ t = some (o, g) → (∀ D, g D = some (r D)) →
    Q (r s.heap.objs.size) { s with heap := s.heap.push o } → wpAny M A t Q E s := by
  intro t
  induction t with
  | rule _ k ih => intro g s Q X e hg q Γ p hΓ; exact ih () g s Q X e hg q Γ p hΓ
  | point _ k ih => intro g s Q X e hg q Γ p hΓ; exact ih () g s Q X e hg q Γ p hΓ
  | ask k ih => intro g s Q X e hg q Γ p hΓ; exact ih _ g s Q X e hg q Γ p hΓ
  | load a _ k ih =>
    intro g s Q X e hg q Γ p hΓ
    simp only [peek1] at e
    split at e
    · rename_i ob ho; exact ⟨ob, X _ _ ho, ih ob g s Q X e hg q Γ p hΓ⟩
    · cases e
  | alloc ob k _ =>
    intro g s Q X e hg q
    have e : some (ob, fun D => peek K ⟨M.prog, M.w.params⟩ (k D)) = some (o, g) := e
    obtain ⟨e1, e2⟩ := Prod.mk.inj (Option.some.inj e)
    subst e1
    subst e2
    have X' : K.In (s.heap.push ob) := X.keeps fun b x hb => Heap.get?_push_of_some _ hb
    show wpAny M A (alloc ob >>= k) Q E s
    refine wpAny_bind (wpAny_alloc ?_)
    exact (Looks.of_peek (M := M) (h := s.heap.push ob) X' (hg s.heap.objs.size)).here (s := { s with heap := s.heap.push ob }) q
  | _ => intro g s Q X e; cases e
section
variable {prog : Program} {w : World} {g0 : Heap} {mg mb : Str → Option Value} {loose : List Str} {mean : ExcName → Option Value} {fx : List (Addr × Obj)}
noncomputable abbrev tabH (ds : List D) : List Cont := [.dict [("_headers", .ref 2)], .inst 282 0, .list ds]
theorem hadd_fn (ok : ((mkG prog w g0 mg mb loose mean fx)).Ok) {n : Nat} {ds : List D} {a b : Str} (hd : ds.length ≤ 1000) (ha : Plain a) (hb : Plain b) : Fn (mkG prog w g0 mg mb loose mean fx) (n + 2) (.ref 279) (tabH ds) [.ref 1, .str a, .str b] [] [] .none (tabH (ds ++ [encP (a, b)])) := by
  refine FnX.fn (fn_enterX (Hb := tabH ds ++ [.dict []]) ok (hadd.ho _) (hadd.code _) [("self", .ref 1), ("_name", .str a), ("_value", .str b), ("_params", .ref 3)] 3 (fun A s α vals kvals Q E gs L ra rk q => ?_) (by rfl) (by show 3 ≤ 3; decide) ?_ (by decide +kernel))
  · simp only [RepsC] at ra rk
    obtain ⟨v1, _, rfl, r1, v2, _, rfl, r2, v3, _, rfl, r3, rfl⟩ := ra
    subst rk
    refine bind_new (o := emptyDict) (r := fun D => [(("self" : Str), v1), ("_name", v2), ("_value", v3), ("_params", .ref D)]) _ _ s Q (ok.X.keeps gs.base) rfl (fun D => rfl) ?_
    have keep : ∀ b o, s.heap.get? b = some o → (s.heap.push emptyDict).get? b = some o := fun b o e => push_all _ b o e
    have fk : FrzKeep s.heap (s.heap.push emptyDict) := fun b o _ e => keep b o e
    have hD : s.heap.get? s.heap.objs.size = none := get_size
    have nα : s.heap.objs.size ∉ α := fun h => by obtain ⟨o, h1, _⟩ := L.notFrz h; rw [hD] at h1; cases h1
    have ng : ((mkG prog w g0 mg mb loose mean fx)).g0.get? s.heap.objs.size = none := by
      cases e : ((mkG prog w g0 mg mb loose mean fx)).g0.get? s.heap.objs.size with
      | none => rfl
      | some o => have := gs.base _ _ e; rw [hD] at this; cases this
    have nt : s.heap.objs.size ∉ ((mkG prog w g0 mg mb loose mean fx)).TB := fun h => by obtain ⟨o, h1, _⟩ := gs.notFrz h; rw [hD] at h1; cases h1
    have L' := (L.chg (ch := []) (h' := s.heap.push emptyDict) (fun b o _ e => keep b o e) (fun _ h => nomatch h) fk).snoc (D₀ := s.heap.objs.size) (c := .dict []) ⟨[], 0, Heap.get?_push_size _ rfl, rfl, ⟨by show 0 ≤ 100; omega, sys_ne ok gs⟩, fun i x d hi => by simp at hi⟩ nα ng nt
    have up : ∀ {d : D} {v : Value}, RepC [] (some α) s.heap d v → d.nol = true → RepC [] (some (α ++ [s.heap.objs.size])) (s.heap.push emptyDict) d v := fun r h => RepC.nolStill fk (grow_of fun b hb => by rw [List.mem_singleton.mp hb]; exact hD) h r
    refine q _ (s.heap.push emptyDict) [s.heap.objs.size] keep (fun b hb => by rw [List.mem_singleton.mp hb]; exact hD) L' rfl ?_
    simp only [List.map_cons, List.map_nil, RepsC]
    refine ⟨_, _, rfl, up r1 rfl, _, _, rfl, up r2 rfl, _, _, rfl, up r3 rfl, _, _, rfl, ?_, rfl⟩
    simp only [RepC]
    refine ⟨_, _, rfl, ?_, rfl⟩
    have hl : α.length = 3 := L.len
    rw [List.getElem?_append_right (by omega), hl]; rfl
  · unfold hadd.body
    apply se_cons
    apply s_assign
    · exact pe_listL pes_nil rfl
    · exact sn_loc
    rotate_left
    · intro _ _; rfl
    show SE _ _ _ _ _ _
    apply se_cons
    apply s_if (b := true)
    · apply pt_cmp
      · exact pe_loc
      · exact pe_none
      · exact o_isNotNone (by intro h; cases h) (by intro h; cases h) (by intro u h; cases h)
      · with_unfolding_all rfl
    · rw [if_pos rfl]
      apply se_cons
      apply s_assign (d := .str b)
      · apply pe_mcall
        · exact pe_loc
        · exact gm_inst (f := 183) (j := 0) (l := 2) ok rfl rfl (by kernel_rfl) (by kernel_rfl) (by kernel_rfl) (fun _ _ _ _ => rfl)
        · exact pes_cons pe_loc pes_nil
        · exact pks_cons pe_bool pks_nil
        · exact fun _ g => keeps_K' ok (by kernel_rfl) g
        · exact call_fn [] (hconv_fn (n := n) ok hb) ⟨.inl rfl, .inr (.inl rfl), trivial⟩ ⟨.inr (.inl rfl), trivial⟩ (by omega) (fun i c h => by simp at h)
        · intro _; rfl
        · intro _; rfl
        · rfl
      · exact sn_loc
      · show SE _ _ _ _ _ _
        apply se_cons
        apply s_exprN
        · apply pe_mcall
          · exact pe_loc
          · exact gm_list rfl PySem.F.slot_list_append rfl
          · exact pes_cons pe_loc pes_nil
          · exact pks_nil
          · exact fun _ _ => keeps_blt
          · exact c_append (ds := []) rfl rfl (by decide)
          · intro _; rfl
          · intro _; rfl
          · rfl
        · show SE _ _ _ _ _ _
          refine se_nil ?_
          show SE _ _ _ _ _ _
          apply se_cons
          apply s_for0
          · exact hit_items0 (i := 3) pe_loc rfl
          · show SE _ _ _ _ _ _
            apply se_cons
            apply s_exprN
            · apply pe_mcall
              · exact pe_attrI (at0 := none) (i := 1) (j := 0) (l := 2) ok pe_loc rfl rfl rfl (by kernel_rfl) (by kernel_rfl) (by kernel_rfl) (by kernel_rfl)
              · exact gm_list rfl PySem.F.slot_list_append rfl
              · apply pes_cons (ds := [])
                · apply pe_tuple (ds := [.str a, .str b]) (hz := by show 2 ≤ 1000000; decide)
                  · apply pes_cons
                    · apply pe_mcall
                      · exact pe_loc
                      · exact gm_inst (f := 183) (j := 0) (l := 2) ok rfl rfl (by kernel_rfl) (by kernel_rfl) (by kernel_rfl) (fun _ _ _ _ => rfl)
                      · exact pes_cons pe_loc pes_nil
                      · exact pks_cons pe_bool pks_nil
                      · exact fun _ g => keeps_K' ok (by kernel_rfl) g
                      · exact call_fn [] (hconv_fn (n := n) ok ha) ⟨.inl rfl, .inr (.inl rfl), trivial⟩ ⟨.inr (.inl rfl), trivial⟩ (by omega) (fun i c h => by simp at h)
                      · intro _; rfl
                      · intro _; rfl
                      · rfl
                    · apply pes_cons (ds := [])
                      · apply pe_mcall
                        · exact pe_str
                        · exact gm_str PySem.F.slot_str_join PySem.F.type_str_join
                        · exact pes_cons pe_loc pes_nil
                        · exact pks_nil
                        · exact fun _ _ => keeps_blt
                        · exact c_join (x := b) rfl (by decide) hb.2
                        · intro _; rfl
                        · intro _; rfl
                        · rfl
                      · exact pes_nil
                    · intro _; rfl
                · exact pes_nil
              · exact pks_nil
              · exact fun _ _ => keeps_blt
              · exact c_append (ds := ds) rfl rfl (by omega)
              · intro _; rfl
              · intro _; rfl
              · rfl
            · show SE _ _ _ _ _ _
              exact se_nil ⟨rfl, rfl, rfl⟩
            · intro _; rfl
          · intro _ _; rfl
        · intro _; rfl
end
end
section
/-! _law_table -/
theorem plain_num {i : Int} (h1 : -1000000 ≤ i) (h2 : i ≤ 1000000) : Plain (textOf i) := by
  by_cases hneg : i < 0
  · obtain ⟨m, rfl⟩ : ∃ m : Nat, i = -((m + 1 : Nat) : Int) := ⟨(-i - 1).toNat, by omega⟩
    refine ⟨fun c hc => ?_, ?_⟩
    · rw [neg_num] at hc
      unfold okChar
      rcases List.mem_cons.mp hc with rfl | hc
      · omega
      · have := fig_num (m := m + 1) c hc; omega
    · show (textOf (-((m + 1 : Nat) : Int))).cps.size ≤ 1000
      rw [← Array.length_toList, neg_num, List.length_cons, Array.length_toList]
      have : (textOf ((m + 1 : Nat) : Int)).cps.size ≤ 10 := len_num (m := m + 1) (by omega)
      omega
  · obtain ⟨m, rfl⟩ := Int.eq_ofNat_of_zero_le (show 0 ≤ i by omega)
    refine ⟨fun c hc => ?_, ?_⟩
    · have := fig_num (m := m) c hc; unfold okChar; omega
    · have := len_num (m := m) (by omega); omega
theorem plain_letter {base : Nat} {b : Int} {w : Nat} (hb : 65 ≤ base) (hb2 : base ≤ 97) (h0 : 0 < w) (h5 : w ≤ 5) : Plain (letter base b w) := by
  have hm1 : 0 ≤ b % (w : Int) := Int.emod_nonneg _ (by omega)
  have hm2 : b % (w : Int) < w := Int.emod_lt_of_pos _ (by omega)
  refine ⟨fun c hc => ?_, by show 1 ≤ 1000; decide⟩
  have hc : c ∈ [((base : Int) + b % (w : Int)).toNat] := hc
  rw [List.mem_singleton.mp hc]
  unfold okChar
  omega
section
variable {prog : Program} {w : World} {g0 : Heap} {mg mb : Str → Option Value} {loose : List Str} {mean : ExcName → Option Value} {fx : List (Addr × Obj)}
noncomputable def tabTo (beads : List Int) (wd i : Nat) : List D := ((List.range i).map (plainAt beads wd)).map encP
theorem table_fn (ok : ((mkG prog w g0 mg mb loose mean fx)).Ok) {n wd : Nat} {beads : List Int} (hx : beads.length ≤ 100) (hr : ∀ r ∈ beads, -1024 < r ∧ r < 1024) (h0 : 0 < wd) (h5 : wd ≤ 5) : Fn (mkG prog w g0 mg mb loose mean fx) (n + 20) (.ref 298) [] [.lst (dI beads), .int wd] [] [] (.hdr 282 ((plainL beads wd).map encP)) [] := by
  refine fn_enter ok (table.ho _) (table.code _) [("beads", .lst (dI beads)), ("width", .int wd)] 0 (two_binds _ (fun _ _ _ => rfl)) (by rfl) (Nat.le_refl _) ?_ (by decide +kernel)
  have hlen : ((dI beads).length : Int) = ((beads.length : Nat) : Int) := by simp [dI]
  unfold table.body
  apply se_cons
  apply s_assign
  · exact pe_call (pg.Headers ok) pes_nil pks_nil (fun _ g => keeps_K' ok (by kernel_rfl) g) (c_make ok (by kernel_rfl) (by kernel_rfl) (by kernel_rfl) (hinit_fn (n := n) ok) (by omega))
  · exact sn_loc
  rotate_left
  · intro _ _; rfl
  show SE _ _ _ _ _ _
  apply se_for (fun i => ⟨[("table", .ref 1), ("width", .int wd), ("beads", .lst (dI beads))], [], tabH (tabTo beads wd i)⟩)
  · exact pi_range1 (pg.range ok) (pe_call (pg.len ok) (pes_cons pe_loc pes_nil) pks_nil (fun _ _ => keeps_blt) (c_len (.inl rfl) (by simp [dI]; omega))) (small1 (by omega) (by omega) (by rw [hlen]; omega) (by rw [hlen]; omega)) size1
  · exact ⟨by walk_at "sub_l", by walk_at "sub_l", rfl⟩
  · intro i; rfl
  · intro i d hd
    obtain ⟨hi, rfl⟩ := rngD_get hd
    have hi' : i < beads.length := by rw [hlen] at hi; omega
    rw [show (0 : Int) + (i : Int) * 1 = (i : Int) from by omega]
    refine ⟨_, sn_loc, rfl, ?_⟩
    have hb := hr _ (by rw [List.getD_eq_getElem?_getD, List.getElem?_eq_getElem hi']; exact List.getElem_mem hi' : beads.getD i 0 ∈ beads)
    have hm1 : 0 ≤ beads.getD i 0 % (wd : Int) := Int.emod_nonneg _ (by omega)
    have hm2 : beads.getD i 0 % (wd : Int) < wd := Int.emod_lt_of_pos _ (by omega)
    have hq : -1024 ≤ beads.getD i 0 / (wd : Int) ∧ beads.getD i 0 / (wd : Int) ≤ 1024 := by
      rcases (show wd = 1 ∨ wd = 2 ∨ wd = 3 ∨ wd = 4 ∨ wd = 5 by omega) with rfl | rfl | rfl | rfl | rfl <;> omega
    have htl : (tabTo beads wd i).length ≤ 1000 := by unfold tabTo; simp; omega
    have hstep : tabTo beads wd i ++ [encP (plainAt beads wd i)] = tabTo beads wd (i + 1) := by unfold tabTo; rw [List.range_succ]; simp
    have hsel : ∀ (j : Nat) (c : Cont), (tabH (tabTo beads wd i))[j]? = some c → ∃ k, ([0, 1, 2] : List Nat)[j]? = some k ∧ (tabH (tabTo beads wd i))[k]? = some (c.ren (selRen [0, 1, 2] 3)) := fun j c h => by
      match j, h with
      | 0, h => cases h; exact ⟨0, rfl, rfl⟩
      | 1, h => cases h; exact ⟨1, rfl, rfl⟩
      | 2, h => cases h; exact ⟨2, rfl, rfl⟩
      | j + 3, h => simp at h
    have add : ∀ {base : Nat}, 65 ≤ base → base ≤ 97 → plainAt beads wd i = (letter base (beads.getD i 0) wd, textOf (beads.getD i 0 / (wd : Int))) → ∀ {m : Nat} {fi : Fi} {σ : AS}, 2 ≤ m → σ.H = tabH (tabTo beads wd i) →
        CallOk (mkG prog w g0 mg mb loose mean fx) m fi σ (.ref 279) [.ref 1, .str (letter base (beads.getD i 0) wd), .str (textOf (beads.getD i 0 / (wd : Int)))] [] [] .none { σ with H := tabH (tabTo beads wd (i + 1)) } := by
      intro base hb1 hb2 he m fi σ hm hH
      obtain ⟨l, c, H⟩ := σ
      subst hH
      have := call_fn (G := (mkG prog w g0 mg mb loose mean fx)) (n := m) (fi := fi) (σ := ⟨l, c, tabH (tabTo beads wd i)⟩) (dsa := [.ref 1, .str (letter base (beads.getD i 0) wd), .str (textOf (beads.getD i 0 / (wd : Int)))]) (dsk := []) [0, 1, 2] (hadd_fn (n := 0) ok (ds := tabTo beads wd i) (a := letter base (beads.getD i 0) wd) (b := textOf (beads.getD i 0 / (wd : Int))) htl (plain_letter hb1 hb2 h0 h5) (plain_num (by omega) (by omega)))
        ⟨.inr (.inl rfl), .inr (.inl rfl), .inr (.inl rfl), trivial⟩ trivial (by omega) hsel (hge := by show 3 ≤ 3; decide)
      rw [← he] at this
      have e2 : tabH (tabTo beads wd i ++ [encP (plainAt beads wd i)]) = tabH (tabTo beads wd (i + 1)) := by rw [hstep]
      rw [e2] at this
      exact this
    apply se_cons
    by_cases hodd : i % 2 = 1
    · apply s_if (b := true)
      · apply pt_val
        · apply pe_binop
          · walk_at "pv"
          · walk_at "pv"
          · exact o_fmod (by decide) (by decide)
        · have : ((i : Int).fmod 2 != 0) = true := by
            rw [Int.fmod_eq_emod_of_nonneg _ (by decide)]
            have : (i : Int) % 2 = 1 := by omega
            rw [this]; rfl
          rw [← this]; exact ot_int
        · intro _ _; rfl
      · rw [if_pos rfl]
        have he : plainAt beads wd i = (letter 65 (beads.getD i 0) wd, textOf (beads.getD i 0 / (wd : Int))) := by unfold plainAt; rw [if_pos hodd]
        apply se_cons
        apply s_assignT (l := [("floor", ⟨294, 12, 294, 17⟩), ("rest", ⟨294, 19, 294, 23⟩)]) (ds := [.int (idmR (- -beads.getD i 0) wd).1, .int (-(idmR (- -beads.getD i 0) wd).2)])
        · apply pe_call (pg.int_divmod ok) (ds := [.int (-beads.getD i 0), .int (-(wd : Int))])
          · apply pes_cons
            · apply pe_unop
              · exact pe_itemN pe_loc pe_loc (.inl rfl) (getD_some (y := 0) hi') (by omega)
              · exact o_neg
            · exact pes_cons (by walk_at "pv") pes_nil
            · intro _; rfl
          · exact pks_nil
          · exact fun _ g => keeps_K' ok (by kernel_rfl) g
          · exact call_fn [] (idm_turned (n := n) ok (a := -beads.getD i 0) (by omega) (by omega) h0 h5) ⟨.inr (.inl rfl), .inr (.inl rfl), trivial⟩ trivial (by omega) (fun i c h => by simp at h)
        · rfl
        · exact ⟨_, sn_loc, _, sn_loc, rfl⟩
        · show SE _ _ _ _ _ _
          apply se_cons
          apply s_exprN
          · apply pe_mcall
            · exact pe_loc
            · exact gm_inst (f := 279) (j := 0) (l := 2) ok rfl rfl (by kernel_rfl) (by kernel_rfl) (by kernel_rfl) (fun _ _ _ _ => rfl)
            · apply pes_cons (d := .str (letter 65 (beads.getD i 0) wd)) (ds := [.str (textOf (beads.getD i 0 / (wd : Int)))])
              · apply pe_eq (d := .str ⟨#[((65 : Int) - -(idmR (- -beads.getD i 0) wd).2).toNat]⟩)
                · apply pe_call (pg.chr ok) (ds := [.int ((65 : Int) - -(idmR (- -beads.getD i 0) wd).2)])
                  · apply pes_cons
                    · walk_at "pv"
                    · exact pes_nil
                    · intro _; rfl
                  · exact pks_nil
                  · exact fun _ _ => keeps_blt
                  · exact c_chr (by unfold idmR; simp only [Int.neg_neg]; omega) (by unfold idmR; simp only [Int.neg_neg]; omega)
                · exact (by unfold letter idmR; simp only [Int.neg_neg]; rw [Int.sub_neg]; rfl)
              · apply pes_cons (ds := [])
                · apply pe_eq (d := .str (textOf (idmR (- -beads.getD i 0) wd).1))
                  · exact pe_call (pg.str ok) (pes_cons pe_loc pes_nil) pks_nil (fun _ _ => keeps_type) (c_str (by unfold idmR; simp only [Int.neg_neg]; exact log2_small (by omega) (by omega)))
                  · exact (by unfold idmR; simp only [Int.neg_neg])
                · exact pes_nil
            · exact pks_nil
            · exact fun _ g => keeps_K' ok (by kernel_rfl) g
            · exact add (base := 65) (by decide) (by decide) he (by omega) rfl
            · intro _; rfl
            · intro _; rfl
            · rfl
          · show SE _ _ _ _ _ _
            walk_at "ps_end"
            exact se_nil ⟨_, rfl, ⟨by walk_at "sub_l", by walk_at "sub_l", rfl⟩⟩
          · intro _; rfl
    · apply s_if (b := false)
      · apply pt_val
        · apply pe_binop
          · walk_at "pv"
          · walk_at "pv"
          · exact o_fmod (by decide) (by decide)
        · have : ((i : Int).fmod 2 != 0) = false := by
            rw [Int.fmod_eq_emod_of_nonneg _ (by decide)]
            have : (i : Int) % 2 = 0 := by omega
            rw [this]; rfl
          rw [← this]; exact ot_int
        · intro _ _; rfl
      · rw [if_neg (by decide)]
        have he : plainAt beads wd i = (letter 97 (beads.getD i 0) wd, textOf (beads.getD i 0 / (wd : Int))) := by unfold plainAt; rw [if_neg hodd]
        apply se_cons
        apply s_assignT (l := [("floor", ⟨297, 12, 297, 17⟩), ("rest", ⟨297, 19, 297, 23⟩)]) (ds := [.int (idmR (beads.getD i 0) wd).1, .int (idmR (beads.getD i 0) wd).2])
        · apply pe_call (pg.int_divmod ok) (ds := [.int (beads.getD i 0), .int (wd : Int)])
          · apply pes_cons
            · exact pe_itemN pe_loc pe_loc (.inl rfl) (getD_some (y := 0) hi') (by omega)
            · exact pes_cons (by walk_at "pv") pes_nil
            · intro _; rfl
          · exact pks_nil
          · exact fun _ g => keeps_K' ok (by kernel_rfl) g
          · exact call_fn [] (idm_any (n := n) ok (by omega) (by omega) h0 h5) ⟨.inr (.inl rfl), .inr (.inl rfl), trivial⟩ trivial (by omega) (fun i c h => by simp at h)
        · rfl
        · exact ⟨_, sn_loc, _, sn_loc, rfl⟩
        · show SE _ _ _ _ _ _
          apply se_cons
          apply s_exprN
          · apply pe_mcall
            · exact pe_loc
            · exact gm_inst (f := 279) (j := 0) (l := 2) ok rfl rfl (by kernel_rfl) (by kernel_rfl) (by kernel_rfl) (fun _ _ _ _ => rfl)
            · apply pes_cons (d := .str (letter 97 (beads.getD i 0) wd)) (ds := [.str (textOf (beads.getD i 0 / (wd : Int)))])
              · apply pe_eq (d := .str ⟨#[((97 : Int) + (idmR (beads.getD i 0) wd).2).toNat]⟩)
                · apply pe_call (pg.chr ok) (ds := [.int ((97 : Int) + (idmR (beads.getD i 0) wd).2)])
                  · apply pes_cons
                    · walk_at "pv"
                    · exact pes_nil
                    · intro _; rfl
                  · exact pks_nil
                  · exact fun _ _ => keeps_blt
                  · exact c_chr (by unfold idmR; omega) (by unfold idmR; omega)
                · exact (by unfold letter idmR; rfl)
              · apply pes_cons (ds := [])
                · apply pe_eq (d := .str (textOf (idmR (beads.getD i 0) wd).1))
                  · exact pe_call (pg.str ok) (pes_cons pe_loc pes_nil) pks_nil (fun _ _ => keeps_type) (c_str (by unfold idmR; exact log2_small (by omega) (by omega)))
                  · exact (by unfold idmR; rfl)
                · exact pes_nil
            · exact pks_nil
            · exact fun _ g => keeps_K' ok (by kernel_rfl) g
            · exact add (base := 97) (by decide) (by decide) he (by omega) rfl
            · intro _; rfl
            · intro _; rfl
            · rfl
          · show SE _ _ _ _ _ _
            walk_at "ps_end"
            exact se_nil ⟨_, rfl, ⟨by walk_at "sub_l", by walk_at "sub_l", rfl⟩⟩
          · intro _; rfl
  · apply se_cons
    apply s_ret
    · exact pe_loc
    · refine ⟨?_, rfl, rfl⟩
      have : (rngD 0 1 (((dI beads).length : Int) - 0).toNat).length = beads.length := by rw [rngD_len, hlen]; omega
      rw [this]
      rfl
end
end
section
/-! _law_floors, _law_falls -/
noncomputable def floorsL (beads : List Int) (wd : Nat) (rest : Int) : List Int := (beads.filter fun b => decide (b % (wd : Int) = rest)).map fun b => b / (wd : Int)
theorem low_letter {base : Nat} {b : Int} {w : Nat} (hb : base = 65 ∨ base = 97) (h0 : 0 < w) (h5 : w ≤ 5) : lowS (letter base b w) = ⟨#[(97 + b % (w : Int)).toNat]⟩ := by
  have hm1 : 0 ≤ b % (w : Int) := Int.emod_nonneg _ (by omega)
  have hm2 : b % (w : Int) < w := Int.emod_lt_of_pos _ (by omega)
  unfold lowS letter
  rw [show Array.map lo1 (⟨#[((base : Int) + b % (w : Int)).toNat]⟩ : Str).cps = #[lo1 ((base : Int) + b % (w : Int)).toNat] from by simp]
  congr 2
  unfold lo1
  rcases hb with rfl | rfl
  · rw [if_pos (by omega)]; congr 1; omega
  · rw [if_neg (by omega)]; congr 1
theorem low_plainAt {beads : List Int} {wd k : Nat} (h0 : 0 < wd) (h5 : wd ≤ 5) : lowS (plainAt beads wd k).1 = ⟨#[(97 + beads.getD k 0 % (wd : Int)).toNat]⟩ := by
  unfold plainAt
  exact low_letter (by split <;> simp) h0 h5
theorem range_getD {τ υ : Type} [Inhabited τ] {d : τ} (f : τ → υ) : ∀ (l : List τ), (List.range l.length).map (fun k => f (l.getD k d)) = l.map f := by
  intro l
  apply List.ext_getElem
  · simp
  · intro i h1 h2
    simp at h1
    simp [h1]
theorem filter_range {τ υ : Type} [Inhabited τ] {d : τ} (p : τ → Bool) (f : τ → υ) (l : List τ) : ((List.range l.length).filter fun k => p (l.getD k d)).map (fun k => f (l.getD k d)) = (l.filter p).map f := by
  have h : (List.range l.length).map (fun k => l.getD k d) = l := by have := range_getD (d := d) (fun x : τ => x) l; simpa using this
  have e : (l.filter p).map f = (((List.range l.length).map (fun k => l.getD k d)).filter p).map f := by rw [h]
  rw [e, List.filter_map, List.map_map]
  rfl
theorem getL_plain {beads : List Int} {wd : Nat} {rest : Int} (h0 : 0 < wd) (h5 : wd ≤ 5) (hr0 : 0 ≤ rest) (hr5 : rest < 5) : getL (plainL beads wd) (lowS ⟨#[(65 + rest).toNat]⟩) = (floorsL beads wd rest).map textOf := by
  have e1 : lowS ⟨#[(65 + rest).toNat]⟩ = ⟨#[(97 + rest).toNat]⟩ := by
    unfold lowS
    rw [show Array.map lo1 (⟨#[(65 + rest).toNat]⟩ : Str).cps = #[lo1 (65 + rest).toNat] from by simp]
    congr 2
    unfold lo1
    rw [if_pos (by omega)]; congr 1; omega
  rw [e1]
  unfold getL plainL floorsL
  rw [List.filter_map, List.map_map, List.map_map]
  have e2 : ∀ k, ((fun p : Str × Str => lowS p.1 == (⟨#[(97 + rest).toNat]⟩ : Str)) ∘ plainAt beads wd) k = (fun b : Int => decide (b % (wd : Int) = rest)) (beads.getD k 0) := fun k => by
    have hm1 : 0 ≤ beads.getD k 0 % (wd : Int) := Int.emod_nonneg _ (by omega)
    simp only [Function.comp]
    rw [low_plainAt h0 h5]
    by_cases hq : beads.getD k 0 % (wd : Int) = rest
    · rw [hq]; simp
    · rw [decide_eq_false hq, beq_eq_false_iff_ne]
      intro z
      have z2 : (#[(97 + beads.getD k 0 % (wd : Int)).toNat] : Array Nat) = #[(97 + rest).toNat] := congrArg Str.cps z
      have z3 : (97 + beads.getD k 0 % (wd : Int)).toNat = (97 + rest).toNat := by simpa using z2
      omega
  have e3 : (List.range beads.length).filter ((fun p : Str × Str => lowS p.1 == (⟨#[(97 + rest).toNat]⟩ : Str)) ∘ plainAt beads wd) = (List.range beads.length).filter fun k => (fun b : Int => decide (b % (wd : Int) = rest)) (beads.getD k 0) := List.filter_congr fun k _ => e2 k
  rw [e3]
  exact filter_range (d := 0) (fun b : Int => decide (b % (wd : Int) = rest)) (fun b => textOf (b / (wd : Int))) beads
noncomputable def fallsN (names : List Str) : Nat := ((List.range names.length).flatMap fun k => ((List.range k).filter fun i => decide ((names.getD k "").cps.toList < (names.getD i "").cps.toList)).map fun _ => D.int (k : Int)).length
theorem falls_le (names : List Str) : fallsN names ≤ names.length * names.length := by
  unfold fallsN
  generalize names.length = m
  induction m with
  | zero => simp
  | succ m ih =>
    rw [List.range_succ, List.flatMap_append, List.length_append]
    simp only [List.flatMap_cons, List.flatMap_nil, List.append_nil, List.length_map]
    have h1 := List.length_filter_le (fun i => decide ((names.getD m "").cps.toList < (names.getD i "").cps.toList)) (List.range m)
    rw [List.length_range] at h1
    have h2 : (m + 1) * (m + 1) = m * m + m + m + 1 := by rw [Nat.add_mul, Nat.mul_add]; omega
    omega
section
variable {prog : Program} {w : World} {g0 : Heap} {mg mb : Str → Option Value} {loose : List Str} {mean : ExcName → Option Value} {fx : List (Addr × Obj)}
theorem plainL_names {beads : List Int} {wd : Nat} (h0 : 0 < wd) (h5 : wd ≤ 5) : ∀ p ∈ plainL beads wd, Plain p.1 := fun p hp => by
  unfold plainL at hp
  obtain ⟨k, _, rfl⟩ := List.mem_map.mp hp
  unfold plainAt
  exact plain_letter (by split <;> omega) (by split <;> omega) h0 h5
theorem floors_fn (ok : ((mkG prog w g0 mg mb loose mean fx)).Ok) {n wd : Nat} {beads : List Int} {rest : Int} (hx : beads.length ≤ 100) (hr : ∀ r ∈ beads, -100000 ≤ r ∧ r ≤ 100000) (h0 : 0 < wd) (h5 : wd ≤ 5) (hr0 : 0 ≤ rest) (hr5 : rest < 5) :
    Fn (mkG prog w g0 mg mb loose mean fx) (n + 6) (.ref 310) [] [.hdr 282 ((plainL beads wd).map encP), .int rest] [] [] (.lst (dI (floorsL beads wd rest))) [] := by
  refine fn_enter ok (floors.ho _) (floors.code _) [("table", .hdr 282 ((plainL beads wd).map encP)), ("rest", .int rest)] 0 (two_binds _ (fun _ _ _ => rfl)) (by rfl) (Nat.le_refl _) ?_ (by decide +kernel)
  unfold floors.body
  have hlen : (plainL beads wd).length = beads.length := by simp [plainL]
  have hfl : (floorsL beads wd rest).length ≤ beads.length := by unfold floorsL; rw [List.length_map]; exact List.length_filter_le _ _
  have hnm : Plain ⟨#[(65 + rest).toNat]⟩ := ⟨fun c hc => by
    have hc : c ∈ [(65 + rest).toNat] := hc
    rw [List.mem_singleton.mp hc]; unfold okChar; omega, by show 1 ≤ 1000; decide⟩
  have hin : ∀ i ∈ floorsL beads wd rest, -1000000 ≤ i ∧ i ≤ 1000000 := fun i hi => by
    unfold floorsL at hi
    obtain ⟨b, hb, rfl⟩ := List.mem_map.mp hi
    have := hr b (List.mem_filter.mp hb).1
    rcases (show wd = 1 ∨ wd = 2 ∨ wd = 3 ∨ wd = 4 ∨ wd = 5 by omega) with rfl | rfl | rfl | rfl | rfl <;> omega
  apply se_cons
  apply s_ret
  · apply pe_compL (src := (floorsL beads wd rest).map fun i => D.str (textOf i)) (out := dI (floorsL beads wd rest))
    · exact ⟨rfl, rfl, by decide +kernel, by decide +kernel, by decide +kernel⟩
    · apply pi_list
      apply pe_eq (d := .lst ((getL (plainL beads wd) (lowS ⟨#[(65 + rest).toNat]⟩)).map D.str))
      · apply pe_mcall
        · exact pe_loc
        · exact gm_hdr (f := 221) ok (by kernel_rfl) (by kernel_rfl) (by kernel_rfl) (fun _ _ _ _ => rfl)
        · apply pes_cons
          · apply pe_call (pg.chr ok) (ds := [.int (65 + rest)])
            · exact pes_cons (by walk_at "pv") pes_nil
            · exact pks_nil
            · exact fun _ _ => keeps_blt
            · exact c_chr (by omega) (by omega)
          · exact pes_nil
          · intro _; rfl
        · exact pks_nil
        · exact fun _ g => keeps_K' ok (by kernel_rfl) g
        · exact call_fn [] (hgetall_fn (n := n) ok (by omega) (plainL_names h0 h5) hnm) ⟨.inr (.inl rfl), .inr (.inl rfl), trivial⟩ trivial (by omega) (fun i c h => by simp at h)
        · intro _; rfl
        · intro _; rfl
        · rfl
      · exact (by rw [getL_plain h0 h5 hr0 hr5, List.map_map]; rfl)
      · exact .name _ _
    · have e : dI (floorsL beads wd rest) = ((floorsL beads wd rest).map (fun i : Int => i)).map D.int := by simp [dI]
      rw [e]
      apply compB_map (f := fun i : Int => D.str (textOf i)) (g := D.int) (k := fun i : Int => i) (fun _ => rfl) rfl
      intro i hi
      exact pe_call (pg.law_whole ok) (pes_cons pe_loc pes_nil) pks_nil (fun _ g => keeps_K' ok (by kernel_rfl) g)
        (call_fn [] (whole_fn (n := n) ok (hin i hi).1 (hin i hi).2) ⟨.inr (.inl rfl), trivial⟩ trivial (by omega) (fun i c h => by simp at h))
    · rw [List.length_map]; omega
  · exact ⟨rfl, rfl, rfl⟩
theorem s_assignCc {G : Gnd} {n : Nat} {fi : Fi} {σ σ₁ : AS} {elt : Expr} {gens : List Comprehension} {scope : Scope} {y : Str} {py pos spos : Pos} {d : D} {Q : Out → Prop} (h : PE G n fi σ (.ListComp elt gens scope pos) d σ₁) (q : Q (.next (σ₁.setc y d))) (hy : fi.scope.names.lookup y = some .cell := by rfl) (ho : fi.own = true := by rfl) :
    S1 G n fi σ (.Assign [.Name y py] (.ListComp elt gens scope pos) spos) Q := s_assign h (sn_cel hy ho) q fun env hE => by
  unfold swapsWith
  have h1 : env.blockKind = .function := by
    unfold Env.blockKind
    rw [hE.sc, hE.kind]; rfl
  have h2 := hE.of hy
  simp only [h1, h2]
  rfl
theorem falls_fn (ok : ((mkG prog w g0 mg mb loose mean fx)).Ok) {n : Nat} {ps : List (Str × Str)} (hx : ps.length ≤ 100) (hp : ∀ p ∈ ps, Plain p.1) : Fn (mkG prog w g0 mg mb loose mean fx) (n + 2) (.ref 320) [] [.hdr 282 (ps.map encP)] [] [] (.int (fallsN (ps.map fun p => lowS p.1) : Nat)) [] := by
  refine fn_enter ok (falls.ho _) (falls.code _) [("table", .hdr 282 (ps.map encP))] 0 (fun s X c vals kvals KI ra rk => ?_) (by rfl) (Nat.le_refl _) ?_ (by decide +kernel)
  · simp only [RepsC] at ra rk
    obtain ⟨v1, _, rfl, r1, rfl⟩ := ra
    subst rk
    refine ⟨_, kp_binds KI (fun _ => rfl), rfl, ?_⟩
    simp only [List.map_cons, List.map_nil, RepsC]
    exact ⟨_, _, rfl, r1, rfl⟩
  · unfold falls.body
    generalize hN : (ps.map fun p => lowS p.1) = names
    have hnl : names.length = ps.length := by rw [← hN]; simp
    have hfn : fallsN names ≤ 1000000 := by
      have := falls_le names
      have h3 : names.length * names.length ≤ 100 * 100 := Nat.mul_le_mul (by omega) (by omega)
      omega
    apply se_cons
    apply s_assignCc (d := .lst (names.map D.str))
    · apply pe_comp (src := (ps.map (·.1)).map D.str)
      · exact ⟨rfl, rfl, by decide +kernel, by decide +kernel, by decide +kernel⟩
      · apply pi_list
        · apply pe_mcall
          · exact pe_loc
          · exact gm_hdr (f := 234) ok (by kernel_rfl) (by kernel_rfl) (by kernel_rfl) (fun _ _ _ _ => rfl)
          · exact pes_nil
          · exact pks_nil
          · exact fun _ g => keeps_K' ok (by kernel_rfl) g
          · exact call_fn [] (hkeys_fn (n := n) ok (by omega)) ⟨.inr (.inl rfl), trivial⟩ trivial (by omega) (fun i c h => by simp at h)
          · intro _; rfl
          · intro _; rfl
          · rfl
        · exact .name _ _
      · have e : names.map D.str = ((ps.map (·.1)).map lowS).map D.str := by rw [← hN]; simp [Function.comp_def]
        rw [e]
        apply compB_map (f := D.str) (g := D.str) (k := lowS) (fun _ => rfl) rfl
        intro x hxm
        obtain ⟨p, hpm, rfl⟩ := List.mem_map.mp hxm
        apply pe_mcall
        · exact pe_loc
        · exact gm_str PySem.F.slot_str_lower PySem.F.type_str_lower
        · exact pes_nil
        · exact pks_nil
        · exact fun _ _ => keeps_blt
        · exact c_lower (low_of (hp p hpm)) (low_len (hp p hpm))
        · intro _; rfl
        · intro _; rfl
        · rfl
      · rw [List.length_map, List.length_map]; omega
    · show SE _ _ _ _ _ _
      have hlen : ((names.map D.str).length : Int) = ((names.length : Nat) : Int) := by simp
      have er : ∀ m : Nat, rngD 0 1 ((m : Int) - 0).toNat = (List.range m).map (fun (k : Nat) => D.int (k : Int)) := fun m => by
        unfold rngD
        rw [show ((m : Int) - 0).toNat = m from by omega]
        apply List.map_congr_left
        intro k _
        congr 1
        omega
      apply se_cons
      apply s_ret (d := .int (fallsN names : Nat))
      · apply pe_call (pg.len ok) (ds := [.lst ((List.range names.length).flatMap fun k => ((List.range k).filter fun i => decide ((names.getD k "").cps.toList < (names.getD i "").cps.toList)).map fun _ => D.int (k : Int))])
        · apply pes_cons
          · apply pe_comp2 (x := "k") (y := "i") (f := fun (k : Nat) => D.int (k : Int)) (h := fun (k : Nat) => D.int (k : Int)) (l := List.range names.length) (g := fun k => List.range k) (p := fun k i => decide ((names.getD k "").cps.toList < (names.getD i "").cps.toList)) (k := fun k _ => D.int (k : Int))
            case hit1 =>
              rw [← er]
              rw [← hlen]
              exact pi_range1 (pg.range ok) (pe_call (pg.len ok) (pes_cons pe_cel pes_nil) pks_nil (fun _ _ => keeps_blt) (c_len (.inl rfl) (by simp; omega))) (small1 (by omega) (by omega) (by rw [hlen]; omega) (by rw [hlen]; omega)) size1
            · exact ⟨rfl, rfl, by decide +kernel, by decide +kernel, by decide +kernel⟩
            · rfl
            · rfl
            · rfl
            · decide
            · exact fun _ _ => rfl
            · intro k hk outs
              have hk' := List.mem_range.mp hk
              rw [← er]
              exact pi_range1 (pg.range ok) pe_loc (small1 (by omega) (by omega) (by omega) (by omega)) size1
            · intro k hk i hi outs
              have hk' := List.mem_range.mp hk
              have hi' := List.mem_range.mp hi
              apply pt_cmp
              · exact pe_itemN (f := D.str) (xs := names) pe_cel pe_loc (.inl rfl) (getD_some (xs := names) (i := i) (y := "") (by omega)) (by omega)
              · exact pe_itemN (f := D.str) (xs := names) pe_cel pe_loc (.inl rfl) (getD_some (xs := names) (i := k) (y := "") hk') (by omega)
              · exact o_gtS
              · with_unfolding_all rfl
            · intro k hk i hi outs
              exact pe_loc
            · have h1 : ∀ m : Nat, ((List.range m).flatMap fun k => List.range k).length ≤ m * m := by
                intro m
                induction m with
                | zero => simp
                | succ m ih =>
                  rw [List.range_succ, List.flatMap_append, List.length_append]
                  simp only [List.flatMap_cons, List.flatMap_nil, List.append_nil, List.length_range]
                  calc _ ≤ m * m + m := Nat.add_le_add_right ih _
                    _ ≤ (m + 1) * (m + 1) := by rw [Nat.add_mul, Nat.mul_add]; omega
              have h2 := h1 names.length
              have h3 : names.length * names.length ≤ 100 * 100 := Nat.mul_le_mul (by omega) (by omega)
              omega
          · exact pes_nil
          · intro _; rfl
        · exact pks_nil
        · exact fun _ _ => keeps_blt
        · exact c_len (.inl rfl) (by show fallsN names ≤ 1000000; exact hfn)
      · exact ⟨rfl, rfl, rfl⟩
end
end
section
/-! _law_strips -/
theorem blGo_le (xs : List Int) (x : Int) : ∀ (f lo hi : Nat), lo ≤ hi → blGo xs x f lo hi ≤ hi
  | 0, lo, hi, h => h
  | f + 1, lo, hi, h => by
    rw [blGo]
    split
    · split
      · exact blGo_le xs x f _ _ (by omega)
      · have := blGo_le xs x f lo ((lo + hi) / 2) (by omega)
        omega
    · exact h
theorem bl_le (xs : List Int) (x : Int) : bl xs x ≤ xs.length := blGo_le _ _ _ _ _ (Nat.zero_le _)
theorem o_eqNil {G : Gnd} {n : Nat} {fi : Fi} {σ : AS} {d : D} {ds : List D} {b : Bool} (h1 : IsL σ d ds) (hb : ds.isEmpty = b) : O2 G n fi σ (compareOp .Eq) d (.lst []) (.bool b) σ := .mk fun A env α s u v hA _ F r1 r2 => by
  obtain ⟨a, vs, rfl, hL, hr⟩ := h1.get F r1
  obtain ⟨c, ws, rfl, hL2, hr2⟩ := (isl (σ := σ) (ds := [])).get F r2
  simp only [RepsC] at hr2
  subst hr2
  have l1 := hr.length
  subst hb
  cases ds with
  | nil =>
    have : vs = [] := List.length_eq_zero_iff.mp (by simpa using l1)
    subst this
    refine SeqAt.eq_listAt (e := fun _ => true) hL hL2 rfl hA.units (fun j q1 q2 => by simp at q1) ?_
    exact Post.here F rbool
  | cons d0 dr =>
    refine SeqAt.eq_list_lengthsAt hL hL2 (by simp [l1]) hA.units ?_
    exact Post.here F rbool
theorem o_neLb {G : Gnd} {n : Nat} {fi : Fi} {σ : AS} {υ : Type} [DecidableEq υ] {f : υ → D} (hf : Enc 50 f) {d e : D} {xs ys : List υ} {b : Bool} (h1 : IsL σ d (xs.map f)) (h2 : IsL σ e (ys.map f)) (hb : (!decide (xs = ys)) = b) : O2 G n fi σ (compareOp .NotEq) d e (.bool b) σ := hb ▸ o_neL hf h1 h2
theorem o_eqLb {G : Gnd} {n : Nat} {fi : Fi} {σ : AS} {υ : Type} [DecidableEq υ] {f : υ → D} (hf : Enc 50 f) {d e : D} {xs ys : List υ} {b : Bool} (h1 : IsL σ d (xs.map f)) (h2 : IsL σ e (ys.map f)) (hb : decide (xs = ys) = b) : O2 G n fi σ (compareOp .Eq) d e (.bool b) σ := hb ▸ o_eqL hf h1 h2
theorem s_exprI {G : Gnd} {n : Nat} {fi : Fi} {σ σ₁ : AS} {e : Expr} {pos : Pos} {z : Int} {Q : Out → Prop} (h : PE G n fi σ e (.int z) σ₁) (q : Q (.next σ₁)) (hw : ∀ env, swapsWith e none pos.line env = pure false) : S1 G n fi σ (.Expr e pos) Q :=
  s_expr h trivial q (fun _ E => not_interactive E) hw
theorem slice_dI {xs : List Int} {lo hi : Option Nat} : pySlice (dI xs) (lo.map fun n => ((n : Nat) : Int)) (hi.map fun n => ((n : Nat) : Int)) = dI ((xs.drop (min (lo.getD 0) xs.length)).take (min (hi.getD xs.length) xs.length - min (lo.getD 0) xs.length)) := by
  have hc : ∀ n : Nat, clipAt xs.length ((n : Nat) : Int) = min n xs.length := fun n => by
    unfold clipAt
    split <;> omega +splitNatSub
  have e : (dI xs).length = xs.length := by simp [dI]
  have hm : ∀ n : Nat, min (min n xs.length) xs.length = min n xs.length := fun n => by omega +splitNatSub
  have ht : List.take xs.length (List.map D.int xs) = List.map D.int xs := List.take_of_length_le (by simp)
  unfold pySlice
  cases lo <;> cases hi <;> simp only [Option.map_none, Option.map_some, Option.elim_none, Option.elim_some, Option.getD_none, Option.getD_some, e, hc, hm, Nat.zero_min, Nat.sub_zero, List.drop_zero, Nat.min_self, dI, List.map_take, List.map_drop, List.length_map]
theorem erase_dI : ∀ (xs : List Int) (i : Nat), (dI xs).eraseIdx i = dI (xs.eraseIdx i)
  | [], _ => rfl
  | x :: xs, 0 => rfl
  | x :: xs, i + 1 => by
    show D.int x :: (dI xs).eraseIdx i = D.int x :: dI (xs.eraseIdx i)
    rw [erase_dI xs i]
/-- one strip after another, till no cell fits: what is chosen, and that every look agrees -/
noncomputable def SOk (wd : Nat) (g : Int) : Nat → List Int → List Int → Int → List Int → List Int → List Int → Prop
  | 0, _, _, _, _, _, _ => False
  | f + 1, rows, beads, W, passed, be, pe => toldL beads g = rows ∧ rows.length ≤ 100 ∧ beads.length ≤ 100 ∧ (∀ r ∈ rows, -1000 ≤ r ∧ r ≤ 1000) ∧
    ((((cellsL rows).filter fun c => c.1 == (wd : Int)) = [] ∧ be = beads ∧ pe = passed) ∨
      ∃ (hook : Int) (i j below at' : Nat) (bead : Int), ((cellsL rows).filter fun c => c.1 == (wd : Int))[(W.fmod (((cellsL rows).filter fun c => c.1 == (wd : Int)).length : Int)).toNat]? = some (hook, (i : Int), (j : Int), (below : Int)) ∧
        i + below + 1 ≤ rows.length ∧ bead = g + rows.getD i 0 + (rows.length : Int) - 1 - (i : Int) ∧ at' = bl beads bead ∧ beads[at']? = some bead ∧ (at' : Int) - (br beads (bead - (wd : Int)) : Nat) = (below : Int) ∧
        SOk wd g f (rows.take i ++ (List.range below).map (fun k => rows.getD (i + 1 + k) 0 - 1) ++ [(j : Int)] ++ rows.drop (i + below + 1)) (dIns (beads.eraseIdx at') (bl (beads.eraseIdx at') (bead - (wd : Int))) (bead - (wd : Int)))
          (W.fdiv (((cellsL rows).filter fun c => c.1 == (wd : Int)).length : Int)) (passed ++ [(below : Int)]) be pe)
section
variable {prog : Program} {w : World} {g0 : Heap} {mg mb : Str → Option Value} {loose : List Str} {mean : ExcName → Option Value} {fx : List (Addr × Obj)}
noncomputable abbrev stripLoc (W g : Int) : List (Str × D) := [("passed", .ref 1), ("which", .int W), ("ground", .int g), ("beads", .ref 0)]
noncomputable abbrev stripCel (rows : List Int) (wd : Nat) : List (Str × D) := [("rows", .lst (dI rows)), ("width", .int wd)]
noncomputable abbrev strips.test : Expr := testOf (l := strips.body.drop 1) rfl
noncomputable abbrev strips.loop : List Stmt := loopOf (l := strips.body.drop 1) rfl
theorem strips_loop (ok : ((mkG prog w g0 mg mb loose mean fx)).Ok) {n wd : Nat} {g : Int} (h0 : 0 < wd) (h5 : wd ≤ 5) : ∀ (f : Nat) (rows beads : List Int) (W : Int) (passed be pe : List Int), passed.length + f ≤ 1000 → SOk wd g f rows beads W passed be pe →
    WhB (mkG prog w g0 mg mb loose mean fx) (n + 2) ⟨strips.scope, some (.ref 329, Str.ofString "_law_strips" ++ ".<locals>."), true, none⟩ strips.test strips.loop
      (fun o => ∃ σ, o = .ret (.tup [.ref 0, .ref 1]) σ ∧ σ.H = [.list (dI be), .list (dI pe)]) f ⟨stripLoc W g, stripCel rows wd, [.list (dI beads), .list (dI passed)]⟩ := by
  intro f
  induction f with
  | zero => intro rows beads W passed be pe _ h; exact h.elim
  | succ f ih =>
    intro rows beads W passed be pe hpl h
    obtain ⟨htold, hrl, hbl, hrb, hcase⟩ := h
    refine ⟨true, _, ?_, rfl, ?_⟩
    · apply pt_cmp
      · exact pe_call (pg.law_told ok) (pes_cons pe_loc (pes_cons pe_loc pes_nil)) pks_nil (fun _ g => keeps_K' ok (by kernel_rfl) g) (call_fn [] (told_fn (n := n) ok (beads := beads) (ground := g) (by omega)) ⟨.inr (.inr ⟨0, _, rfl, rfl, rfl, by simp⟩), .inr (.inl rfl), trivial⟩ trivial (by omega) (fun i c h => by simp at h))
      · exact pe_cel
      · have : decide (toldL beads g = rows) = true := decide_eq_true htold
        rw [← this]
        exact o_eqL enc_int (.inl rfl) (.inl rfl)
      · with_unfolding_all rfl
    · rw [if_pos rfl]
      show SE _ _ _ _ _ _
      generalize hfit : ((cellsL rows).filter fun c => c.1 == (wd : Int)) = fit at hcase
      have hcl : (cellsL rows).length ≤ 100000 := by
        have := cellsTo_len rows (fun i => by
          by_cases h : i < rows.length
          · exact (hrb _ (by rw [List.getD_eq_getElem?_getD, List.getElem?_eq_getElem h]; exact List.getElem_mem h)).2
          · rw [List.getD_eq_getElem?_getD, List.getElem?_eq_none (by omega)]; decide) rows.length
        unfold cellsL
        omega
      have hfl : fit.length ≤ 100000 := by rw [← hfit]; exact Nat.le_trans (List.length_filter_le _ _) hcl
      apply se_cons
      apply s_assignC (src := (cellsL rows).map encC) (out := fit.map encC)
      · exact ⟨rfl, rfl, by decide +kernel, by decide +kernel, by decide +kernel⟩
      · apply pi_list
        · exact pe_call (pg.law_cells ok) (pes_cons pe_cel pes_nil) pks_nil (fun _ g => keeps_K' ok (by kernel_rfl) g) (call_fn [] (cells_fn (n := n + 1) ok hrl hrb) ⟨.inr (.inl rfl), trivial⟩ trivial (by omega) (fun i c h => by simp at h))
        · exact .name _ _
      · have e : fit.map encC = ((fit).map (fun c : Cell => c)).map encC := by simp
        rw [e, ← hfit]
        apply compB_filter (f := encC) (g := encC) (k := fun c : Cell => c) (p := fun c : Cell => c.1 == (wd : Int)) (fun _ => rfl) rfl
        · intro c hc
          apply pt_cmp
          · exact pe_itemT (ds := [.int c.1, .int c.2.1, .int c.2.2.1, .int c.2.2.2]) (j := 0) pe_loc pe_int (by decide) (by decide) rfl rfl
          · exact pe_cel
          · exact o_eq
          · with_unfolding_all rfl
        · intro c hc
          exact pe_loc
      · rw [List.length_map]; omega
      · show SE _ _ _ _ _ _
        apply se_cons
        rcases hcase with ⟨hnil, rfl, rfl⟩ | ⟨hook, i, j, below, at', bead, hget, hib, hbead, hat, hba, hbelow, hnext⟩
        · subst hnil
          apply s_if (b := true)
          · apply pt_cmp
            · exact pe_loc
            · exact pe_list pes_nil rfl
            · exact o_eqNil (.inl rfl) rfl
            · with_unfolding_all rfl
          · rw [if_pos rfl]
            apply se_cons
            apply s_ret
            · apply pe_tuple (ds := [.ref 0, .ref 1]) (hz := by show 2 ≤ 1000000; decide)
              · exact pes_cons pe_loc (pes_cons pe_loc pes_nil)
            · exact ⟨_, rfl, rfl⟩
        · have hne : fit ≠ [] := fun e => by rw [e] at hget; simp at hget
          have hlp : 0 < fit.length := List.length_pos_iff.mpr hne
          have hm0 : 0 ≤ W.fmod (fit.length : Int) := by rw [Int.fmod_eq_emod_of_nonneg _ (by omega)]; exact Int.emod_nonneg _ (by omega)
          have hm1 : W.fmod (fit.length : Int) < fit.length := by rw [Int.fmod_eq_emod_of_nonneg _ (by omega)]; exact Int.emod_lt_of_pos _ (by omega)
          have hlen : ((fit.map encC).length : Int) = ((fit.length : Nat) : Int) := by simp
          have hil : i < rows.length := by omega
          have hatl : at' < beads.length := (List.getElem?_eq_some_iff.mp hba).1
          apply s_if (b := false)
          · apply pt_cmp
            · exact pe_loc
            · exact pe_list pes_nil rfl
            · exact o_eqNil (.inl rfl) (by cases fit with | nil => exact absurd rfl hne | cons _ _ => rfl)
            · with_unfolding_all rfl
          · rw [if_neg (by decide)]
            walk_at "ps_end"
            apply se_cons
            apply s_assignT (l := [("hook", ⟨317, 8, 317, 12⟩), ("i", ⟨317, 14, 317, 15⟩), ("j", ⟨317, 17, 317, 18⟩), ("below", ⟨317, 20, 317, 25⟩)]) (ds := [.int hook, .int i, .int j, .int below])
            · apply pe_item (d := .lst (fit.map encC)) (ds := fit.map encC) (k := W.fmod (fit.length : Int))
              · exact pe_loc
              · apply pe_binop
                · exact pe_loc
                · exact pe_call (pg.len ok) (pes_cons pe_loc pes_nil) pks_nil (fun _ _ => keeps_blt) (c_len (.inl rfl) (by rw [List.length_map]; omega))
                · rw [hlen]; exact o_fmod (by omega) (by rw [Int.natAbs_natCast]; omega)
              · exact .inl rfl
              · exact hm0
              · omega
              · rw [List.getElem?_map, hget]; rfl
            · rfl
            · exact ⟨_, sn_loc, _, sn_loc, _, sn_loc, _, sn_loc, rfl⟩
            · show SE _ _ _ _ _ _
              apply se_cons
              apply s_assign (d := .int (W.fdiv (fit.length : Int)))
              · apply pe_binop
                · exact pe_loc
                · exact pe_call (pg.len ok) (pes_cons pe_loc pes_nil) pks_nil (fun _ _ => keeps_blt) (c_len (.inl rfl) (by rw [List.length_map]; omega))
                · rw [hlen]; exact o_fdiv (by omega) (by rw [Int.natAbs_natCast]; omega)
              · exact sn_loc
              · show SE _ _ _ _ _ _
                have hlr : ((dI rows).length : Int) = ((rows.length : Nat) : Int) := by simp [dI]
                apply se_cons
                apply s_assign (d := .int bead)
                · rw [hbead]
                  apply pe_binop
                  · apply pe_binop
                    · apply pe_binop
                      · apply pe_binop
                        · exact pe_loc
                        · exact pe_itemN pe_cel pe_loc (.inl rfl) (getD_some (y := 0) hil) (by omega)
                        · walk_at "po"
                      · exact pe_call (pg.len ok) (pes_cons pe_cel pes_nil) pks_nil (fun _ _ => keeps_blt) (c_len (.inl rfl) (by simp [dI]; omega))
                      · rw [hlr]; exact o_add
                    · walk_at "pv"
                    · walk_at "po"
                  · walk_at "pv"
                  · walk_at "po"
                · exact sn_loc
                · show SE _ _ _ _ _ _
                  apply se_cons
                  apply s_assign (d := .int (at' : Nat))
                  · rw [hat]
                    exact pe_call (pg.bisect_left ok) (pes_cons pe_loc (pes_cons pe_loc pes_nil)) pks_nil (fun _ g => keeps_K' ok (by kernel_rfl) g) (call_fn [] (bleft_fn (n := n) ok (xs := beads) (x := bead) (by omega)) ⟨.inr (.inr ⟨0, _, rfl, rfl, rfl, by simp⟩), .inr (.inl rfl), trivial⟩ trivial (by omega) (fun i c h => by simp at h))
                  · exact sn_loc
                  · show SE _ _ _ _ _ _
                    apply se_cons
                    apply s_if (b := false)
                    · apply pt_or2
                      · apply pt_cmp (a := .lst (dI [bead])) (b := .lst (dI [bead]))
                        · apply pe_eq (d := .lst (pySlice (dI beads) (some ((at' : Nat) : Int)) (some (((at' : Nat) : Int) + 1))))
                          · apply pe_slice (d := .ref 0) (ds := dI beads) (lo := some ((at' : Nat) : Int)) (hi := some (((at' : Nat) : Int) + 1))
                            · exact pe_loc
                            · show PE _ _ _ _ _ _ _; exact pe_loc
                            · show PE _ _ _ _ _ _ _; walk_at "pv"
                            · exact islab
                            · simp [dI]; omega
                          · exact (by
                              have e := slice_dI (xs := beads) (lo := some at') (hi := some (at' + 1))
                              simp only [Option.map_some, Option.getD_some] at e
                              rw [show (((at' : Nat) : Int) + 1) = ((at' + 1 : Nat) : Int) from by omega, e]
                              congr 2
                              rw [Nat.min_eq_left (by omega), Nat.min_eq_left (by omega), Nat.add_sub_cancel_left, List.drop_eq_getElem_cons hatl]
                              have := (List.getElem?_eq_some_iff.mp hba).2
                              simp [this])
                        · exact pe_list (pes_cons pe_loc pes_nil) rfl (by show 1 ≤ 1000000; decide)
                        · exact o_neLb (xs := [bead]) (ys := [bead]) enc_int (.inl rfl) (.inl rfl) (by simp)
                      · apply pt_cmp
                        · apply pe_binop
                          · exact pe_loc
                          · apply pe_call (pg.bisect_right ok) (ds := [.ref 0, .int (bead - (wd : Int))])
                            · exact pes_cons pe_loc (pes_cons (by apply pe_binop; (· exact pe_loc); (· exact pe_cel); (· walk_at "po")) pes_nil)
                            · exact pks_nil
                            · exact fun _ g => keeps_K' ok (by kernel_rfl) g
                            · exact call_fn [] (bright_fn (n := n) ok (xs := beads) (x := bead - (wd : Int)) (by omega)) ⟨.inr (.inr ⟨0, _, rfl, rfl, rfl, by simp⟩), .inr (.inl rfl), trivial⟩ trivial (by omega) (fun i c h => by simp at h)
                          · walk_at "po"
                        · exact pe_loc
                        · have : (((at' : Nat) : Int) - ((br beads (bead - (wd : Int)) : Nat) : Int) != (below : Int)) = false := by rw [hbelow]; simp
                          rw [← this]; exact o_ne
                        · with_unfolding_all rfl
                    · rw [if_neg (by decide)]
                      walk_at "ps_end"
                      apply se_cons
                      apply s_exprI (z := bead)
                      · apply pe_mcall
                        · exact pe_loc
                        · exact gm_list rfl PySem.F.slot_list_pop rfl
                        · exact pes_cons pe_loc pes_nil
                        · exact pks_nil
                        · exact fun _ _ => keeps_blt
                        · exact c_pop (ds := dI beads) rfl (Int.natCast_nonneg _) (by rw [Int.toNat_natCast]; exact dI_get hba) (by simp [dI]; omega)
                        · intro _; rfl
                        · intro _; rfl
                        · rfl
                      · show SE _ _ _ _ _ _
                        have hel : (beads.eraseIdx at').length ≤ 100 := Nat.le_trans (List.length_eraseIdx_le _ _) hbl
                        show SE _ _ _ ⟨_, _, [.list ((dI beads).eraseIdx (Int.toNat ((at' : Nat) : Int))), .list (dI passed)]⟩ _ _
                        rw [Int.toNat_natCast, erase_dI]
                        apply se_cons
                        apply s_exprN
                        · apply pe_call (pg.insort_left ok) (ds := [.ref 0, .int (bead - (wd : Int))])
                          · exact pes_cons pe_loc (pes_cons (by apply pe_binop; (· exact pe_loc); (· exact pe_cel); (· walk_at "po")) pes_nil)
                          · exact pks_nil
                          · exact fun _ g => keeps_K' ok (by kernel_rfl) g
                          · exact call_fn [0] (insl_fn (n := n) ok (xs := beads.eraseIdx at') (x := bead - (wd : Int)) (by omega) (bl_le _ _)) ⟨.inr (.inl rfl), .inr (.inl rfl), trivial⟩ trivial (by omega) (fun i c h => by
                              match i, h with
                              | 0, h => cases h; exact ⟨0, rfl, rfl⟩
                              | i + 1, h => simp at h) (hge := by show 1 ≤ 1; decide)
                        · show SE _ _ _ ⟨_, _, [.list (dI (dIns (beads.eraseIdx at') (bl (beads.eraseIdx at') (bead - (wd : Int))) (bead - (wd : Int)))), .list (dI passed)]⟩ _ _
                          generalize dIns (beads.eraseIdx at') (bl (beads.eraseIdx at') (bead - (wd : Int))) (bead - (wd : Int)) = beads' at hnext ⊢
                          apply se_cons
                          apply s_assign (d := .lst (dI (rows.take i ++ (List.range below).map (fun k => rows.getD (i + 1 + k) 0 - 1) ++ [(j : Int)] ++ rows.drop (i + below + 1))))
                          · apply pe_eq (d := .lst (((dI (rows.take i) ++ dI ((List.range below).map (fun k => rows.getD (i + 1 + k) 0 - 1))) ++ dI [(j : Int)]) ++ dI (rows.drop (i + below + 1))))
                            · apply pe_binop (a := .lst ((dI (rows.take i) ++ dI ((List.range below).map (fun k => rows.getD (i + 1 + k) 0 - 1))) ++ dI [(j : Int)])) (b := .lst (dI (rows.drop (i + below + 1))))
                              · apply pe_binop (a := .lst (dI (rows.take i) ++ dI ((List.range below).map (fun k => rows.getD (i + 1 + k) 0 - 1)))) (b := .lst (dI [(j : Int)]))
                                · apply pe_binop (a := .lst (dI (rows.take i))) (b := .lst (dI ((List.range below).map (fun k => rows.getD (i + 1 + k) 0 - 1))))
                                  · apply pe_eq (d := .lst (pySlice (dI rows) none (some ((i : Nat) : Int))))
                                    · apply pe_slice (d := .lst (dI rows)) (ds := dI rows) (lo := none) (hi := some ((i : Nat) : Int))
                                      · exact pe_cel
                                      · exact rfl
                                      · show PE _ _ _ _ _ _ _; exact pe_loc
                                      · exact .inl rfl
                                      · simp [dI]; omega
                                    · exact (by
                                        have e := slice_dI (xs := rows) (lo := none) (hi := some i)
                                        simp only [Option.map_some, Option.map_none, Option.getD_some, Option.getD_none, Nat.zero_min, List.drop_zero, Nat.sub_zero] at e
                                        rw [e, Nat.min_eq_left (by omega)])
                                  · apply pe_comp (src := (List.range below).map fun (k : Nat) => D.int ((i + 1 + k : Nat) : Int))
                                    · exact ⟨rfl, rfl, by decide +kernel, by decide +kernel, by decide +kernel⟩
                                    · have e : rngD ((i : Int) + 1) 1 (((i : Int) + (below : Int) + 1) - ((i : Int) + 1)).toNat = (List.range below).map fun (k : Nat) => D.int ((i + 1 + k : Nat) : Int) := by
                                        unfold rngD
                                        rw [show (((i : Int) + (below : Int) + 1) - ((i : Int) + 1)).toNat = below from by omega]
                                        apply List.map_congr_left
                                        intro k _
                                        congr 1
                                        omega
                                      rw [← e]
                                      exact pi_range2 (pg.range ok) (by walk_at "pv") (by walk_at "pv") (small1 (by omega) (by omega) (by omega) (by omega)) size1
                                    · apply compB_map (f := fun (k : Nat) => D.int ((i + 1 + k : Nat) : Int)) (g := D.int) (k := fun k => rows.getD (i + 1 + k) 0 - 1) (fun _ => rfl) rfl
                                      intro k hk
                                      have hk' : i + 1 + k < rows.length := by have := List.mem_range.mp hk; omega
                                      apply pe_binop
                                      · exact pe_itemN pe_cel pe_loc (.inl rfl) (getD_some (y := 0) hk') (by omega)
                                      · walk_at "pv"
                                      · walk_at "po"
                                    · rw [List.length_map, List.length_range]; omega
                                  · exact o_cat (.inl rfl) (.inl rfl) (by simp [dI]; omega)
                                · exact pe_list (pes_cons pe_loc pes_nil) rfl (by show 1 ≤ 1000000; decide)
                                · exact o_cat (.inl rfl) (.inl rfl) (by simp [dI]; omega)
                              · apply pe_eq (d := .lst (pySlice (dI rows) (some ((i : Int) + (below : Int) + 1)) none))
                                · apply pe_slice (d := .lst (dI rows)) (ds := dI rows) (lo := some ((i : Int) + (below : Int) + 1)) (hi := none)
                                  · exact pe_cel
                                  · show PE _ _ _ _ _ _ _; walk_at "pv"
                                  · exact rfl
                                  · exact .inl rfl
                                  · simp [dI]; omega
                                · exact (by
                                    have e := slice_dI (xs := rows) (lo := some (i + below + 1)) (hi := none)
                                    simp only [Option.map_some, Option.map_none, Option.getD_some, Option.getD_none, Nat.min_self] at e
                                    rw [show ((i : Int) + (below : Int) + 1) = ((i + below + 1 : Nat) : Int) from by omega, e, Nat.min_eq_left (by omega), List.take_of_length_le (by simp)])
                              · exact o_cat (.inl rfl) (.inl rfl) (by simp [dI]; omega)
                            · exact (by simp [dI])
                          · exact sn_cel
                          · show SE _ _ _ _ _ _
                            apply se_cons
                            apply s_exprN
                            · apply pe_mcall
                              · exact pe_loc
                              · exact gm_list rfl PySem.F.slot_list_append rfl
                              · exact pes_cons pe_loc pes_nil
                              · exact pks_nil
                              · exact fun _ _ => keeps_blt
                              · exact c_append (ds := dI passed) rfl rfl (by simp [dI]; omega)
                              · intro _; rfl
                              · intro _; rfl
                              · rfl
                            · show SE _ _ _ _ _ _
                              refine se_nil ⟨rfl, ?_⟩
                              have hn := ih _ beads' _ _ be pe (by simp; omega) hnext
                              have e2 : dI (passed ++ [(below : Int)]) = dI passed ++ [D.int (below : Int)] := by simp [dI]
                              rw [e2] at hn
                              exact WhB.weak (σ' := ⟨stripLoc _ g, stripCel _ wd, [.list (dI beads'), .list (dI passed ++ [D.int (below : Int)])]⟩) ⟨(by unfold stripLoc; show SubL _ _; walk_at "sub_l"), (by unfold stripCel; show SubL _ _; walk_at "sub_l"), rfl⟩ hn
                            · intro _; rfl
                        · intro _; rfl
                      · intro _; rfl
theorem strips_fn (ok : ((mkG prog w g0 mg mb loose mean fx)).Ok) {n wd f : Nat} {g W : Int} {rows beads be pe : List Int} (h0 : 0 < wd) (h5 : wd ≤ 5) (hf : f ≤ 1000) (h : SOk wd g f rows beads W [] be pe) :
    Fn (mkG prog w g0 mg mb loose mean fx) (n + 3) (.ref 330) [.list (dI beads)] [.lst (dI rows), .ref 0, .int g, .int wd, .int W] [] [] (.tup [.ref 0, .lst (dI pe)]) [.list (dI be)] := by
  refine fn_enter ok (strips.ho _) (strips.code _) [("rows", .lst (dI rows)), ("beads", .ref 0), ("ground", .int g), ("width", .int wd), ("which", .int W)] 1 (fun s X c vals kvals KI ra rk => ?_) (by rfl) (Nat.le_refl _) ?_ (by decide +kernel)
  · simp only [RepsC] at ra rk
    obtain ⟨v1, _, rfl, r1, v2, _, rfl, r2, v3, _, rfl, r3, v4, _, rfl, r4, v5, _, rfl, r5, rfl⟩ := ra
    subst rk
    refine ⟨_, kp_binds KI (fun _ => rfl), rfl, ?_⟩
    simp only [List.map_cons, List.map_nil, RepsC]
    exact ⟨_, _, rfl, r1, _, _, rfl, r2, _, _, rfl, r3, _, _, rfl, r4, _, _, rfl, r5, rfl⟩
  · unfold strips.body
    apply se_cons
    apply s_assign
    · exact pe_listL pes_nil rfl
    · exact sn_loc
    rotate_left
    · intro _ _; rfl
    show SE _ _ _ _ _ _
    apply se_cons
    apply S1.mono
    · apply s_while f
      exact WhB.weak (σ' := ⟨stripLoc W g, stripCel rows wd, [.list (dI beads), .list (dI [])]⟩) ⟨(by unfold stripLoc; show SubL _ _; walk_at "sub_l"), (by unfold stripCel; show SubL _ _; walk_at "sub_l"), rfl⟩ (strips_loop (n := n) ok h0 h5 f rows beads W [] be pe (by simp; omega) h)
    · rintro o ⟨σ, rfl, hH⟩
      show ExitOk 1 _ _ (.ret _ _)
      refine ⟨?_, by rw [hH]; rfl, rfl⟩
      rw [hH]; rfl
end
end
section
/-! _law_names_agree -/
noncomputable def lowestL (wd : Nat) (g rest : Int) : Int := -((rest - g) / (wd : Int))
noncomputable def smallL (beads : List Int) (wd : Nat) (g rest : Int) : List Int :=
  (List.range (floorsL beads wd rest).length).map fun i => (floorsL beads wd rest).getD ((floorsL beads wd rest).length - 1 - i) 0 - lowestL wd g rest - (((floorsL beads wd rest).length - 1 - i : Nat) : Int)
noncomputable def hooksTo (beads : List Int) (wd : Nat) (g : Int) (i : Nat) : List Int := (List.range i).flatMap fun (r : Nat) => (cellsL (smallL beads wd g (r : Int))).map fun c => (wd : Int) * c.1
noncomputable def higherTo (beads : List Int) (wd : Nat) (g : Int) (i : Nat) : Int := ((List.range i).map fun (r : Nat) => (smallL beads wd g (r : Int)).sum).sum
noncomputable def wholeL (rows : List Int) (wd : Nat) : List Int := ((cellsL rows).filter fun c => c.1 % (wd : Int) == 0).map fun c => c.1
structure AOk (bF bE : List Int) (wd : Nat) (g : Int) (rows : List Int) (cut : Int) : Prop where
  ends : ∀ r : Nat, r < wd → floorsL bE wd (r : Int) = (List.range (floorsL bF wd (r : Int)).length).map fun (k : Nat) => lowestL wd g (r : Int) + (k : Int)
  small : ∀ r : Nat, r < wd → ∀ x ∈ smallL bF wd g (r : Int), -1000 ≤ x ∧ x ≤ 1000
  cut : higherTo bF wd g wd = cut
  perm : (hooksTo bF wd g wd).Perm (wholeL rows wd)
  short : (wholeL rows wd).length < 64
noncomputable def sortL (xs : List Int) : List Int := xs.mergeSort (fun a b => decide (a ≤ b))
theorem sortL_perm (xs : List Int) : (sortL xs).Perm xs := List.mergeSort_perm _ _
theorem sortL_pw (xs : List Int) : (sortL xs).Pairwise (· ≤ ·) := by
  have h := List.pairwise_mergeSort (le := fun a b : Int => decide (a ≤ b)) (fun a b c h1 h2 => by simp at *; omega) (fun a b => by simp; omega) xs
  exact h.imp fun h => by simpa using h
theorem size_down (a : Int) (h : -1 ≤ a) : Builtin.Range.rangeSize a (-1) (-1) = ((a + 1).toNat : Int) := by
  unfold Builtin.Range.rangeSize
  rw [if_neg (by decide)]
  split
  · rw [show (a - -1 - 1) = a from by omega]; simp; omega
  · omega
theorem smallD {a : Int} (h1 : -1 ≤ a) (h2 : a ≤ 1000000) : Builtin.Range.small a (-1) (-1) = true := by
  unfold Builtin.Range.small
  rw [size_down a h1]
  simp only [Builtin.Range.rangeFitsLong, Bool.and_eq_true, Bool.or_eq_true, decide_eq_true_eq, beq_iff_eq, show ¬ (-1 : Int) > 0 by decide, if_false]
  omega
section
variable {prog : Program} {w : World} {g0 : Heap} {mg mb : Str → Option Value} {loose : List Str} {mean : ExcName → Option Value} {fx : List (Addr × Obj)}
theorem hooksTo_succ (beads : List Int) (wd : Nat) (g : Int) (i : Nat) : hooksTo beads wd g (i + 1) = hooksTo beads wd g i ++ (cellsL (smallL beads wd g (i : Int))).map fun c => (wd : Int) * c.1 := by
  unfold hooksTo; rw [List.range_succ]; simp
theorem higherTo_succ (beads : List Int) (wd : Nat) (g : Int) (i : Nat) : higherTo beads wd g (i + 1) = higherTo beads wd g i + (smallL beads wd g (i : Int)).sum := by
  unfold higherTo; rw [List.range_succ]; simp
theorem hooksTo_le (beads : List Int) (wd : Nat) (g : Int) : ∀ {i j : Nat}, i ≤ j → (hooksTo beads wd g i).length ≤ (hooksTo beads wd g j).length := by
  intro i j h
  induction j with
  | zero => rw [show i = 0 from by omega]; exact Nat.le_refl _
  | succ j ih =>
    by_cases hij : i = j + 1
    · rw [hij]; exact Nat.le_refl _
    · rw [hooksTo_succ, List.length_append]
      have := ih (by omega)
      omega
theorem floorsL_le (beads : List Int) (wd : Nat) (r : Int) : (floorsL beads wd r).length ≤ beads.length := by unfold floorsL; rw [List.length_map]; exact List.length_filter_le _ _
noncomputable abbrev agLoc (bF bE : List Int) (wd : Nat) (g : Int) (rows : List Int) (cut hi : Int) : List (Str × D) :=
  [("hooks", .ref 0), ("higher", .int hi), ("first", .hdr 282 ((plainL bF wd).map encP)), ("end", .hdr 282 ((plainL bE wd).map encP)), ("ground", .int g), ("rows", .lst (dI rows)), ("cut", .int cut)]
theorem agree_fn (ok : ((mkG prog w g0 mg mb loose mean fx)).Ok) {n wd : Nat} {bF bE rows : List Int} {g cut : Int} (hF : bF.length ≤ 100) (hE : bE.length ≤ 100) (hrF : ∀ r ∈ bF, -100000 ≤ r ∧ r ≤ 100000) (hrE : ∀ r ∈ bE, -100000 ≤ r ∧ r ≤ 100000) (h0 : 0 < wd) (h5 : wd ≤ 5)
    (hg : -100000 ≤ g ∧ g ≤ 100000) (hrl : rows.length ≤ 100) (hrb : ∀ r ∈ rows, -1000 ≤ r ∧ r ≤ 1000) (h : AOk bF bE wd g rows cut) :
    Fn (mkG prog w g0 mg mb loose mean fx) (n + 8) (.ref 335) [] [.hdr 282 ((plainL bF wd).map encP), .hdr 282 ((plainL bE wd).map encP), .int g, .int wd, .lst (dI rows), .int cut] [] [] (.bool true) [] := by
  refine fn_enter ok (agree.ho _) (agree.code _) [("first", .hdr 282 ((plainL bF wd).map encP)), ("end", .hdr 282 ((plainL bE wd).map encP)), ("ground", .int g), ("width", .int wd), ("rows", .lst (dI rows)), ("cut", .int cut)] 0 (fun s X c vals kvals KI ra rk => ?_) (by rfl) (Nat.le_refl _) ?_ (by decide +kernel)
  · simp only [RepsC] at ra rk
    obtain ⟨v1, _, rfl, r1, v2, _, rfl, r2, v3, _, rfl, r3, v4, _, rfl, r4, v5, _, rfl, r5, v6, _, rfl, r6, rfl⟩ := ra
    subst rk
    refine ⟨_, kp_binds KI (fun _ => rfl), rfl, ?_⟩
    simp only [List.map_cons, List.map_nil, RepsC]
    exact ⟨_, _, rfl, r1, _, _, rfl, r2, _, _, rfl, r3, _, _, rfl, r4, _, _, rfl, r5, _, _, rfl, r6, rfl⟩
  · unfold agree.body
    have hhl : ∀ i, i ≤ wd → (hooksTo bF wd g i).length < 64 := fun i hi => by
      have h1 := hooksTo_le bF wd g hi
      have h2 := h.perm.length_eq
      have h3 := h.short
      omega
    apply se_cons
    apply s_assign
    · exact pe_listL pes_nil rfl
    · exact sn_loc
    rotate_left
    · intro _ _; rfl
    show SE _ _ _ _ _ _
    apply se_cons
    apply s_assign
    · exact pe_int
    · exact sn_loc
    rotate_left
    · intro _ _; rfl
    show SE _ _ _ _ _ _
    apply se_for (fun i => ⟨agLoc bF bE wd g rows cut (higherTo bF wd g i), [("width", .int wd)], [.list (dI (hooksTo bF wd g i))]⟩)
    · exact pi_range1 (b := (wd : Int)) (pg.range ok) pe_cel (small1 (by omega) (by omega) (by omega) (by omega)) size1
    · exact ⟨by unfold agLoc; show SubL _ _; walk_at "sub_l", by walk_at "sub_l", rfl⟩
    · intro i; rfl
    · intro i d hd
      obtain ⟨hi, rfl⟩ := rngD_get hd
      have hi' : i < wd := by omega
      rw [show (0 : Int) + (i : Int) * 1 = (i : Int) from by omega]
      refine ⟨_, sn_loc, rfl, ?_⟩
      have hflen := floorsL_le bF wd (i : Int)
      have hsl : (smallL bF wd g (i : Int)).length = (floorsL bF wd (i : Int)).length := by simp [smallL]
      apply se_cons
      apply s_assign (d := .int (lowestL wd g (i : Int)))
      · apply pe_eq (d := .int (-(((i : Int) - g).fdiv (wd : Int))))
        · apply pe_unop
          · apply pe_binop
            · walk_at "pv"
            · exact pe_cel
            · exact o_fdiv (by omega) (by rw [Int.natAbs_natCast]; omega)
          · exact o_neg
        · exact (by unfold lowestL; rw [Int.fdiv_eq_ediv_of_nonneg _ (by omega)])
      · exact sn_cel
      · show SE _ _ _ _ _ _
        apply se_cons
        apply s_assign (d := .lst (dI (floorsL bF wd (i : Int))))
        · exact pe_call (pg.law_floors ok) (pes_cons pe_loc (pes_cons pe_loc pes_nil)) pks_nil (fun _ g => keeps_K' ok (by kernel_rfl) g) (call_fn [] (floors_fn (n := n) ok hF hrF h0 h5 (rest := (i : Int)) (by omega) (by omega)) ⟨.inr (.inl rfl), .inr (.inl rfl), trivial⟩ trivial (by omega) (fun i c h => by simp at h))
        · exact sn_cel
        · show SE _ _ _ _ _ _
          have hfl : ((dI (floorsL bF wd (i : Int))).length : Int) = (((floorsL bF wd (i : Int)).length : Nat) : Int) := by simp [dI]
          generalize hfloors : floorsL bF wd (i : Int) = fl at *
          apply se_cons
          apply s_if (b := false)
          · apply pt_cmp (a := .lst (dI (floorsL bE wd (i : Int)))) (b := .lst (dI ((List.range fl.length).map fun (k : Nat) => lowestL wd g (i : Int) + (k : Int))))
            · exact pe_call (pg.law_floors ok) (pes_cons pe_loc (pes_cons pe_loc pes_nil)) pks_nil (fun _ g => keeps_K' ok (by kernel_rfl) g) (call_fn [] (floors_fn (n := n) ok hE hrE h0 h5 (rest := (i : Int)) (by omega) (by omega)) ⟨.inr (.inl rfl), .inr (.inl rfl), trivial⟩ trivial (by omega) (fun i c h => by simp at h))
            · apply pe_comp (src := (List.range fl.length).map fun (k : Nat) => D.int (k : Int))
              · exact ⟨rfl, rfl, by decide +kernel, by decide +kernel, by decide +kernel⟩
              · have e : rngD 0 1 (((dI fl).length : Int) - 0).toNat = (List.range fl.length).map fun (k : Nat) => D.int (k : Int) := by
                  unfold rngD
                  rw [hfl, show ((fl.length : Int) - 0).toNat = fl.length from by omega]
                  apply List.map_congr_left
                  intro k _
                  congr 1
                  omega
                rw [← e]
                exact pi_range1 (pg.range ok) (pe_call (pg.len ok) (pes_cons pe_cel pes_nil) pks_nil (fun _ _ => keeps_blt) (c_len (.inl rfl) (by simp [dI]; omega))) (small1 (by omega) (by omega) (by rw [hfl]; omega) (by rw [hfl]; omega)) size1
              · apply compB_map (f := fun (k : Nat) => D.int (k : Int)) (g := D.int) (k := fun (k : Nat) => lowestL wd g (i : Int) + (k : Int)) (fun _ => rfl) rfl
                intro k hk
                exact pe_binop pe_cel pe_loc o_add
              · rw [List.length_map, List.length_range]; omega
            · have he := h.ends i hi'
              rw [hfloors] at he
              exact o_neLb (xs := floorsL bE wd (i : Int)) (ys := (List.range fl.length).map fun (k : Nat) => lowestL wd g (i : Int) + (k : Int)) enc_int (.inl rfl) (.inl rfl) (by rw [decide_eq_true he]; rfl)
          · rw [if_neg (by decide)]
            walk_at "ps_end"
            apply se_cons
            apply s_assignC (src := (List.range fl.length).map fun (k : Nat) => D.int ((fl.length - 1 - k : Nat) : Int)) (out := dI (smallL bF wd g (i : Int)))
            · exact ⟨rfl, rfl, by decide +kernel, by decide +kernel, by decide +kernel⟩
            · have e : rngD (((dI fl).length : Int) - 1) (-1) ((((dI fl).length : Int) - 1) + 1).toNat = (List.range fl.length).map fun (k : Nat) => D.int ((fl.length - 1 - k : Nat) : Int) := by
                unfold rngD
                rw [hfl, show (((fl.length : Int) - 1) + 1).toNat = fl.length from by omega]
                apply List.map_congr_left
                intro k hk
                have := List.mem_range.mp hk
                congr 1
                omega
              rw [← e]
              exact pi_range3 (pg.range ok) (by apply pe_binop; (· exact pe_call (pg.len ok) (pes_cons pe_cel pes_nil) pks_nil (fun _ _ => keeps_blt) (c_len (.inl rfl) (by simp [dI]; omega))); (· walk_at "pv"); (· walk_at "po")) (by walk_at "pv") (by walk_at "pv") (by decide) (by decide) (smallD (by rw [hfl]; omega) (by rw [hfl]; omega)) (size_down _ (by rw [hfl]; omega))
            · have e : dI (smallL bF wd g (i : Int)) = ((List.range fl.length).map fun (k : Nat) => fl.getD (fl.length - 1 - k) 0 - lowestL wd g (i : Int) - ((fl.length - 1 - k : Nat) : Int)).map D.int := by
                unfold smallL dI; rw [hfloors]
              rw [e]
              apply compB_map (f := fun (k : Nat) => D.int ((fl.length - 1 - k : Nat) : Int)) (g := D.int) (k := fun (k : Nat) => fl.getD (fl.length - 1 - k) 0 - lowestL wd g (i : Int) - ((fl.length - 1 - k : Nat) : Int)) (fun _ => rfl) rfl
              intro k hk
              have hk' := List.mem_range.mp hk
              apply pe_binop
              · apply pe_binop
                · exact pe_itemN (f := D.int) (xs := fl) (i := fl.length - 1 - k) pe_cel pe_loc (.inl rfl) (getD_some (xs := fl) (i := fl.length - 1 - k) (y := 0) (by omega)) (by omega)
                · exact pe_cel
                · walk_at "po"
              · walk_at "pv"
              · walk_at "po"
            · rw [List.length_map, List.length_range]; omega
            · show SE _ _ _ _ _ _
              have hsm := h.small i hi'
              generalize hsmall : smallL bF wd g (i : Int) = sm at *
              apply se_cons
              apply s_aug (a := .int (higherTo bF wd g i)) (b := .int sm.sum) (d := .int (higherTo bF wd g (i + 1)))
              · exact ln_loc
              · exact pe_call (pg.sum ok) (pes_cons pe_loc pes_nil) pks_nil (fun _ _ => keeps_blt) (c_sum (.inl rfl))
              · rw [higherTo_succ, hsmall]; exact o_iadd
              · exact sn_loc
              · show SE _ _ _ _ _ _
                have hcl : (cellsL sm).length ≤ 100000 := by
                  have := cellsTo_len sm (fun i => by
                    by_cases h : i < sm.length
                    · exact (hsm _ (by rw [List.getD_eq_getElem?_getD, List.getElem?_eq_getElem h]; exact List.getElem_mem h)).2
                    · rw [List.getD_eq_getElem?_getD, List.getElem?_eq_none (by omega)]; decide) sm.length
                  unfold cellsL
                  omega
                have hst := hooksTo_succ bF wd g i
                rw [hsmall] at hst
                have hh1 := hhl (i + 1) hi'
                rw [hst, List.length_append, List.length_map] at hh1
                apply se_cons
                apply s_exprN
                · apply pe_mcall
                  · exact pe_loc
                  · exact gm_list rfl PySem.F.slot_list_extend rfl
                  · apply pes_cons (d := .lst (dI ((cellsL sm).map fun c => (wd : Int) * c.1))) (ds := [])
                    · apply pe_comp (src := (cellsL sm).map encC)
                      · exact ⟨rfl, rfl, by decide +kernel, by decide +kernel, by decide +kernel⟩
                      · apply pi_list
                        · exact pe_call (pg.law_cells ok) (pes_cons pe_loc pes_nil) pks_nil (fun _ g => keeps_K' ok (by kernel_rfl) g) (call_fn [] (cells_fn (n := n + 6) ok (by omega) hsm) ⟨.inr (.inl rfl), trivial⟩ trivial (by omega) (fun i c h => by simp at h))
                        · exact .name _ _
                      · apply compB_map (f := encC) (g := D.int) (k := fun c : Cell => (wd : Int) * c.1) (fun _ => rfl) rfl
                        intro c hc
                        apply pe_binop
                        · exact pe_cel
                        · exact pe_itemT (ds := [.int c.1, .int c.2.1, .int c.2.2.1, .int c.2.2.2]) (j := 0) pe_loc pe_int (by decide) (by decide) rfl rfl
                        · exact o_mul (.of_left (intBits_le_64 (by omega) (by omega)))
                      · rw [List.length_map]; omega
                    · exact pes_nil
                  · exact pks_nil
                  · exact fun _ _ => keeps_blt
                  · exact c_extend (ds := dI (hooksTo bF wd g i)) (es := dI ((cellsL sm).map fun c => (wd : Int) * c.1)) rfl rfl (by simp [dI]; omega)
                  · intro _; rfl
                  · intro _; rfl
                  · rfl
                · show SE _ _ _ _ _ _
                  refine se_nil ⟨_, rfl, ⟨by unfold agLoc; show SubL _ _; walk_at "sub_l", by walk_at "sub_l", ?_⟩⟩
                  rw [hst]
                  show [Cont.list _] = [Cont.list _]
                  simp [dI]
                · intro _; rfl
    · have hwd : (rngD 0 1 ((wd : Int) - 0).toNat).length = wd := by rw [rngD_len]; omega
      rw [hwd]
      have hcl : (cellsL rows).length ≤ 100000 := by
        have := cellsTo_len rows (fun i => by
          by_cases h : i < rows.length
          · exact (hrb _ (by rw [List.getD_eq_getElem?_getD, List.getElem?_eq_getElem h]; exact List.getElem_mem h)).2
          · rw [List.getD_eq_getElem?_getD, List.getElem?_eq_none (by omega)]; decide) rows.length
        unfold cellsL
        omega
      apply se_cons
      apply s_assignC (src := (cellsL rows).map encC) (out := dI (wholeL rows wd))
      · exact ⟨rfl, rfl, by decide +kernel, by decide +kernel, by decide +kernel⟩
      · apply pi_list
        · exact pe_call (pg.law_cells ok) (pes_cons pe_loc pes_nil) pks_nil (fun _ g => keeps_K' ok (by kernel_rfl) g) (call_fn [] (cells_fn (n := n + 6) ok hrl hrb) ⟨.inr (.inl rfl), trivial⟩ trivial (by omega) (fun i c h => by simp at h))
        · exact .name _ _
      · apply compB_filter (f := encC) (g := D.int) (k := fun c : Cell => c.1) (p := fun c : Cell => c.1 % (wd : Int) == 0) (fun _ => rfl) rfl
        · intro c hc
          apply pt_cmp (a := .int (c.1 % (wd : Int)))
          · apply pe_eq (d := .int (c.1.fmod (wd : Int)))
            · apply pe_binop
              · exact pe_itemT (ds := [.int c.1, .int c.2.1, .int c.2.2.1, .int c.2.2.2]) (j := 0) pe_loc pe_int (by decide) (by decide) rfl rfl
              · exact pe_cel
              · exact o_fmod (by omega) (by rw [Int.natAbs_natCast]; omega)
            · exact (by rw [Int.fmod_eq_emod_of_nonneg _ (by omega)])
          · walk_at "pv"
          · exact o_eq
        · intro c hc
          exact pe_itemT (ds := [.int c.1, .int c.2.1, .int c.2.2.1, .int c.2.2.2]) (j := 0) pe_loc pe_int (by decide) (by decide) rfl rfl
      · rw [List.length_map]; omega
      · show SE _ _ _ _ _ _
        apply se_cons
        apply s_ret (d := .bool true)
        · apply pe_and2
          · apply pe_cmp
            · exact pe_loc
            · exact pe_loc
            · have : (higherTo bF wd g wd == cut) = true := by rw [h.cut]; simp
              rw [← this]; exact o_eq
            · with_unfolding_all rfl
          · apply pe_cmp (a := .lst (dI (sortL (wholeL rows wd)))) (b := .lst (dI (sortL (wholeL rows wd))))
            · exact pe_call (pg.sorted ok) (pes_cons pe_loc pes_nil) pks_nil (fun _ _ => keeps_blt) (c_sorted (xs := hooksTo bF wd g wd) (islab rfl) (hhl wd (Nat.le_refl _)) ((sortL_perm _).trans h.perm.symm) (sortL_pw _))
            · exact pe_call (pg.sorted ok) (pes_cons pe_loc pes_nil) pks_nil (fun _ _ => keeps_blt) (c_sorted (xs := wholeL rows wd) (.inl rfl) h.short (sortL_perm _) (sortL_pw _))
            · exact o_eqLb (xs := sortL (wholeL rows wd)) (ys := sortL (wholeL rows wd)) enc_int (.inl rfl) (.inl rfl) (by simp)
        · exact ⟨rfl, rfl, rfl⟩
end
end
section
/-! the searches by a key, _law_laid -/
structure LamP where
  params : Arguments
  body : Expr
  scope : Scope
section
variable {e : Expr} {params : Arguments} {body it tg f : Expr} {scope : Scope} {pos q q2 q3 : Pos} {l x y r : List Stmt} {as : List Expr} {a : Option Str}
noncomputable abbrev forOf (_ : l = .For tg it x y q :: r) : List Stmt := x
noncomputable abbrev exprLam (_ : l = .Expr (.Call f as [⟨a, .Lambda params body scope pos, q⟩] q2) q3 :: r) : LamP := ⟨params, body, scope⟩
end
noncomputable abbrev laid.loop : List Stmt := forOf (l := laid.body.drop 1) rfl
noncomputable abbrev laid.lam : LamP := exprLam (l := laid.loop) rfl
noncomputable abbrev laidF : D := .fn "<lambda>" "_law_laid.<locals>.<lambda>" laid.lam.params (.expr laid.lam.body) laid.lam.scope
noncomputable def encQ (p : Int × Int) : D := .tup [.int p.1, .int p.2]
noncomputable abbrev negs (ps : List (Int × Int)) : List Int := ps.map fun p => -p.1
theorem negs_getD {ps : List (Int × Int)} {i : Nat} (h : i < ps.length) : (negs ps).getD i 0 = -(ps.getD i (0, 0)).1 := by
  simp [negs, List.getD_eq_getElem?_getD, List.getElem?_eq_getElem h]
section
variable {prog : Program} {w : World} {g0 : Heap} {mg mb : Str → Option Value} {loose : List Str} {mean : ExcName → Option Value} {fx : List (Addr × Obj)}
theorem laidF_call (ok : ((mkG prog w g0 mg mb loose mean fx)).Ok) {n : Nat} {fi : Fi} {σ : AS} {p : Int × Int} : ∀ A env α s f vals, OKA (n + 1) A → EnvOk env fi → Fm (mkG prog w g0 mg mb loose mean fx) env σ α s → Rep env α s.heap laidF f → Reps env α s.heap [encQ p] vals → wpAny (model ((mkG prog w g0 mg mb loose mean fx)).prog ((mkG prog w g0 mg mb loose mean fx)).w) A (call f vals) (Post (mkG prog w g0 mg mb loose mean fx) env α s σ (RD (.int (-p.1)))) bot s := by
  refine lam_call ok [("pair", encQ p)] (fun s X c vals doc pm cdv ctv ra => ?_) rfl (by decide +kernel) rfl (fun cv => ?_)
  · simp only [RepsC] at ra
    obtain ⟨v1, _, rfl, r1, rfl⟩ := ra
    refine ⟨_, kp_binds (K := []) (fun a o e => by simp at e) (fun _ => rfl), rfl, ?_⟩
    simp only [List.map_cons, List.map_nil, RepsC]
    exact ⟨_, _, rfl, r1, rfl⟩
  · apply pe_unop
    · exact pe_itemT (ds := [.int p.1, .int p.2]) (j := 0) pe_loc pe_int (by decide) (by decide) rfl rfl
    · exact o_neg
theorem brk_loop (ok : ((mkG prog w g0 mg mb loose mean fx)).Ok) {n : Nat} {ps : List (Int × Int)} {x : Int} {c : List (Str × D)} {H : List Cont} {cv : Option (Value × Str)} (hx : ps.length ≤ 1000000) : ∀ (f lo hi : Nat), hi - lo < f → hi ≤ ps.length →
    WhB (mkG prog w g0 mg mb loose mean fx) (n + 1) ⟨bright.scope, cv, true, none⟩ bright.test1 bright.loop1
      (fun o => ∃ σ, o = .next σ ∧ σ.loc.lookup ("lo" : Str) = some (D.int (brGo (negs ps) x f lo hi : Nat)) ∧ σ.H = H) f ⟨blLoc (.lst (ps.map encQ)) (.int x) laidF (.int lo) (.int hi), c, H⟩ := by
  intro f
  induction f with
  | zero => intro lo hi h; omega
  | succ f ih =>
    intro lo hi hf hh
    refine ⟨decide ((lo : Int) < (hi : Int)), _, by walk_at "pt", rfl, ?_⟩
    by_cases hlt : (lo : Int) < (hi : Int)
    · have hlt' : lo < hi := by omega
      rw [if_pos (decide_eq_true hlt)]
      have hm : (lo + hi) / 2 < ps.length := by omega
      walk_at "ps_set"
      rw [fdiv2]
      apply se_cons; apply s_if
      · apply pt_cmp
        · walk_at "pv"
        · exact pe_callFn (ds := [encQ (ps.getD ((lo + hi) / 2) (0, 0))]) pe_loc (pes_cons (pe_itemN (f := encQ) (xs := ps) pe_loc pe_loc (.inl rfl) (getD_some (y := (0, 0)) hm) hx) pes_nil) (laidF_call ok)
        · walk_at "po"
        · with_unfolding_all rfl
      · have hn := negs_getD (ps := ps) hm
        by_cases hc : x < -(ps.getD ((lo + hi) / 2) (0, 0)).1
        · rw [if_pos (decide_eq_true hc)]
          walk_at "ps_set"
          walk_at "ps_end"
          refine se_nil ⟨rfl, ?_⟩
          have e : brGo (negs ps) x (f + 1) lo hi = brGo (negs ps) x f lo ((lo + hi) / 2) := by simp only [brGo, if_pos hlt', hn, if_pos hc]
          rw [e]
          exact WhB.weak (σ' := ⟨blLoc (.lst (ps.map encQ)) (.int x) laidF (.int lo) (.int (((lo + hi) / 2 : Nat) : Int)), c, H⟩) (SubL.mk (by unfold blLoc; walk_at "sub_l")) (ih _ _ (by omega) (by omega))
        · rw [if_neg (by rw [decide_eq_false hc]; decide)]
          walk_at "ps_set"
          walk_at "ps_end"
          refine se_nil ⟨rfl, ?_⟩
          have e : brGo (negs ps) x (f + 1) lo hi = brGo (negs ps) x f ((lo + hi) / 2 + 1) hi := by simp only [brGo, if_pos hlt', hn, if_neg hc]
          rw [e]
          exact WhB.weak (σ' := ⟨blLoc (.lst (ps.map encQ)) (.int x) laidF (.int (((lo + hi) / 2 + 1 : Nat) : Int)) (.int hi), c, H⟩) (SubL.mk (by unfold blLoc; walk_at "sub_l")) (ih _ _ (by omega) hh)
    · rw [if_neg (by rw [decide_eq_false hlt]; decide)]
      refine ⟨_, rfl, ?_, rfl⟩
      have : ¬ lo < hi := by omega
      simp only [brGo, if_neg this]
      rfl
theorem brightK_fn (ok : ((mkG prog w g0 mg mb loose mean fx)).Ok) {n : Nat} {ps : List (Int × Int)} {x : Int} (hx : ps.length ≤ 1000000) : Fn (mkG prog w g0 mg mb loose mean fx) (n + 2) (.ref 120) [] [.lst (ps.map encQ), .int x, .int 0, .none] ["key"] [laidF] (.int (br (negs ps) x : Nat)) [] := by
  refine fn_enter ok (bright.ho _) (bright.code _) [("a", .lst (ps.map encQ)), ("x", .int x), ("lo", .int 0), ("hi", .none), ("key", laidF)] 0 (fun s X c vals kvals KI ra rk => ?_) (by rfl) (by decide) ?_ (by decide +kernel)
  · simp only [RepsC] at ra rk
    obtain ⟨v1, _, rfl, r1, v2, _, rfl, r2, v3, _, rfl, r3, v4, _, rfl, r4, rfl⟩ := ra
    obtain ⟨v5, _, rfl, r5, rfl⟩ := rk
    refine ⟨_, kp_binds KI (fun _ => rfl), rfl, ?_⟩
    simp only [List.map_cons, List.map_nil, RepsC]
    exact ⟨_, _, rfl, r1, _, _, rfl, r2, _, _, rfl, r3, _, _, rfl, r4, _, _, rfl, r5, rfl⟩
  · unfold bright.body
    walk_at "ps_no"
    walk_at "ps_yes"
    apply se_cons
    apply s_assign
    · exact pe_call (pg.len ok) (pes_cons pe_loc pes_nil) pks_nil (fun _ _ => keeps_blt) (c_len (.inl rfl) (by simpa using hx))
    · exact sn_loc
    rotate_left
    · intro _ _; rfl
    show SE _ _ _ _ _ _
    walk_at "ps_end"
    apply se_cons
    apply s_if
    · apply pt_cmp
      · exact pe_loc
      · exact pe_none
      · exact o_isNone (by simp) (by simp) (fun u e => by cases e)
      · with_unfolding_all rfl
    rw [if_neg (by decide)]
    apply se_cons
    apply S1.mono
    · apply s_while (ps.length + 1)
      have e : ((ps.map encQ).length : Int) = ((ps.length : Nat) : Int) := by simp
      rw [e]
      refine WhB.weak (σ' := ⟨blLoc (.lst (ps.map encQ)) (.int x) laidF (.int (0 : Nat)) (.int (ps.length : Nat)), [], []⟩) (SubL.mk (by unfold blLoc; walk_at "sub_l")) (brk_loop ok hx _ _ _ (by omega) (Nat.le_refl _))
    · rintro o ⟨σ, rfl, h1, h2⟩
      show SE _ _ _ _ _ _
      walk_at "ps_end"
      apply se_cons
      apply s_ret
      · exact pe_loc rfl h1
      · refine ⟨?_, by rw [h2]; rfl, rfl⟩
        have : (negs ps).length = ps.length := by simp [negs]
        unfold br
        rw [this]
        rfl
theorem brGo_le (xs : List Int) (x : Int) : ∀ (f lo hi : Nat), lo ≤ hi → brGo xs x f lo hi ≤ hi
  | 0, lo, hi, h => h
  | f + 1, lo, hi, h => by
    unfold brGo
    split
    · split
      · exact Nat.le_trans (brGo_le xs x f _ _ (by omega)) (by omega)
      · exact brGo_le xs x f _ _ (by omega)
    · exact h
theorem br_le (xs : List Int) (x : Int) : br xs x ≤ xs.length := brGo_le _ _ _ _ _ (Nat.zero_le _)
theorem insrK_fn (ok : ((mkG prog w g0 mg mb loose mean fx)).Ok) {n : Nat} {ps : List (Int × Int)} {p : Int × Int} (hx : ps.length ≤ 1000000) : Fn (mkG prog w g0 mg mb loose mean fx) (n + 3) (.ref 111) [.list (ps.map encQ)] [.ref 0, encQ p] ["key"] [laidF] .none [.list ((dIns ps (br (negs ps) (-p.1)) p).map encQ)] := by
  refine fn_enter ok (insr.ho _) (insr.code _) [("a", .ref 0), ("x", encQ p), ("lo", .int 0), ("hi", .none), ("key", laidF)] 1 (fun s X c vals kvals KI ra rk => ?_) (by rfl) (Nat.le_refl _) ?_ (by decide +kernel)
  · simp only [RepsC] at ra rk
    obtain ⟨v1, _, rfl, r1, v2, _, rfl, r2, rfl⟩ := ra
    obtain ⟨v5, _, rfl, r5, rfl⟩ := rk
    refine ⟨_, kp_binds KI (fun _ => rfl), rfl, ?_⟩
    simp only [List.map_cons, List.map_nil, RepsC]
    exact ⟨_, _, rfl, r1, _, _, rfl, r2, _, _, rfl, rint, _, _, rfl, rnone, _, _, rfl, r5, rfl⟩
  · unfold insr.body
    apply se_cons
    apply s_if
    · apply pt_cmp
      · exact pe_loc
      · exact pe_none
      · exact o_isNone (by simp) (by simp) (fun u e => by cases e)
      · with_unfolding_all rfl
    rw [if_neg (by decide)]
    apply se_cons
    apply s_assign
    · exact pe_call (pg.bisect_right ok) (pes_cons pe_loc (pes_cons (pe_callFn (ds := [encQ p]) pe_loc (pes_cons pe_loc pes_nil) (laidF_call ok)) (pes_cons pe_loc (pes_cons pe_loc pes_nil)))) (pks_cons pe_loc pks_nil) (fun _ g => keeps_K' ok (by kernel_rfl) g) (call_fn [] (brightK_fn (n := n) ok hx) ⟨.inr (.inr ⟨0, _, rfl, rfl, rfl, by simp⟩), .inr (.inl rfl), .inr (.inl rfl), .inr (.inl rfl), trivial⟩ ⟨.inr (.inl rfl), trivial⟩ (by omega) (fun i c h => by simp at h))
    · exact sn_loc
    rotate_left
    · intro _ _; rfl
    show SE _ _ _ _ _ _
    walk_at "ps_end"
    have hb := br_le (negs ps) (-p.1)
    have hl : (negs ps).length = ps.length := by simp [negs]
    apply se_cons
    apply s_exprN
    · apply pe_mcall
      · exact pe_loc
      · exact gm_list rfl PySem.F.slot_list_insert rfl
      · exact pes_cons pe_loc (pes_cons pe_loc pes_nil)
      · exact pks_nil
      · exact fun _ _ => keeps_blt
      · exact c_insert (ds := ps.map encQ) rfl rfl (Int.natCast_nonneg _) (by rw [Int.toNat_natCast, List.length_map]; omega) (by simpa using hx)
      · intro _; rfl
      · intro _; rfl
      · rfl
    · show SE _ _ _ _ _ _
      refine se_nil ⟨rfl, ?_, rfl⟩
      rw [Int.toNat_natCast]
      show [Cont.list _] = _
      congr 2
      simp [dIns, List.map_take, List.map_drop]
    · intro _; rfl
noncomputable def laidTo (ds : List Int) : Nat → List (Int × Int)
  | 0 => []
  | i + 1 => dIns (laidTo ds i) (br (negs (laidTo ds i)) (-(ds.getD i 0))) (ds.getD i 0, (i : Int))
noncomputable def laidL (ds : List Int) : List (Int × Int) := laidTo ds ds.length
theorem dIns_len {τ : Type} (l : List τ) (k : Nat) (x : τ) : (dIns l k x).length = l.length + 1 := by
  unfold dIns; simp; omega
theorem laidTo_len (ds : List Int) : ∀ i, (laidTo ds i).length = i
  | 0 => rfl
  | i + 1 => by rw [laidTo, dIns_len, laidTo_len ds i]
theorem laid_fn (ok : ((mkG prog w g0 mg mb loose mean fx)).Ok) {n : Nat} {ds : List Int} (hx : ds.length ≤ 100) : Fn (mkG prog w g0 mg mb loose mean fx) (n + 4) (.ref 349) [] [.lst (dI ds)] [] [] (.lst ((laidL ds).map encQ)) [] := by
  refine fn_enter ok (laid.ho _) (laid.code _) [("drawn", .lst (dI ds))] 0 (fun s X c vals kvals KI ra rk => ?_) (by rfl) (Nat.le_refl _) ?_ (by decide +kernel)
  · simp only [RepsC] at ra rk
    obtain ⟨v1, _, rfl, r1, rfl⟩ := ra
    subst rk
    refine ⟨_, kp_binds KI (fun _ => rfl), rfl, ?_⟩
    simp only [List.map_cons, List.map_nil, RepsC]
    exact ⟨_, _, rfl, r1, rfl⟩
  · unfold laid.body
    apply se_cons
    apply s_assign
    · exact pe_listL pes_nil rfl
    · exact sn_loc
    rotate_left
    · intro _ _; rfl
    show SE _ _ _ _ _ _
    have hL : ((dI ds).length : Int) = ((ds.length : Nat) : Int) := by simp [dI]
    apply se_for (fun i => ⟨[("laid", .ref 0), ("drawn", .lst (dI ds))], [], [.list ((laidTo ds i).map encQ)]⟩)
    · exact pi_range1 (pg.range ok) (pe_call (pg.len ok) (pes_cons pe_loc pes_nil) pks_nil (fun _ _ => keeps_blt) (c_len (.inl rfl) (by simpa [dI] using (by omega : ds.length ≤ 1000000)))) (small1 (by omega) (by omega) (by rw [hL]; omega) (by rw [hL]; omega)) size1
    · exact ⟨by walk_at "sub_l", by walk_at "sub_l", rfl⟩
    · intro i; rfl
    · intro i d hd
      obtain ⟨hi, rfl⟩ := rngD_get hd
      have hi' : i < ds.length := by rw [hL] at hi; omega
      rw [show (0 : Int) + (i : Int) * 1 = (i : Int) from by omega]
      refine ⟨_, sn_loc, rfl, ?_⟩
      have hlen := laidTo_len ds i
      apply se_cons
      apply s_exprN
      · apply pe_call (pg.insort_right ok)
        · exact pes_cons pe_loc (pes_cons (d := encQ (ds.getD i 0, (i : Int))) (pe_tuple (pes_cons (pe_itemN (f := D.int) (xs := ds) pe_loc pe_loc (.inl rfl) (getD_some (y := 0) hi') (by omega)) (pes_cons pe_loc pes_nil)) (hz := by show 2 ≤ 1000000; decide)) pes_nil)
        · exact pks_cons (pe_lambda ok (q := ⟨348, 344, ⟨349, 52, 349, 73⟩, "_law_laid.<locals>.<lambda>"⟩) (by simp [theMks]) rfl rfl rfl) pks_nil
        · exact fun _ g => keeps_K' ok (by kernel_rfl) g
        · exact call_fn [0] (insrK_fn (n := n) ok (ps := laidTo ds i) (p := (ds.getD i 0, (i : Int))) (by omega)) ⟨.inr (.inl rfl), .inr (.inl rfl), trivial⟩ ⟨.inr (.inl rfl), trivial⟩ (by omega) (fun j c h => by
            match j with
            | 0 => cases h; exact ⟨0, rfl, rfl⟩
            | j + 1 => simp at h) (hge := by show 1 ≤ 1; decide)
      · show SE _ _ _ _ _ _
        exact se_nil ⟨_, rfl, ⟨by walk_at "sub_l", by walk_at "sub_l", rfl⟩⟩
      · intro _; rfl
    · have hll : (rngD 0 1 (((dI ds).length : Int) - 0).toNat).length = ds.length := by rw [rngD_len, hL]; omega
      rw [hll]
      apply se_cons
      apply s_ret
      · exact pe_loc
      · exact ⟨rfl, rfl, rfl⟩
end
end
section
/-! law -/
section
variable {cp q tp q2 pos p : Pos} {l e a : Expr} {op : CmpOp} {params : Arguments} {body : Expr} {scope : Scope} {x y r ss : List Stmt} {k : Option Str}
noncomputable abbrev ifLam (_ : ss = .If (.Compare l [op] [.Call e [a] [⟨k, .Lambda params body scope p, q⟩] cp] tp) x y pos :: r) : LamP := ⟨params, body, scope⟩
end
noncomputable abbrev law.lam : LamP := ifLam (ss := law.body.drop 4) rfl
noncomputable abbrev lawF : D := .fn "<lambda>" "law.<locals>.<lambda>" law.lam.params (.expr law.lam.body) law.lam.scope
noncomputable def widthN : List Int → Nat
  | [] => 2
  | x :: _ => (1 + x % 5).toNat
theorem widthN_b (s : List Int) : 0 < widthN s ∧ widthN s ≤ 5 := by
  cases s with
  | nil => decide
  | cons x r => show 0 < (1 + x % 5).toNat ∧ (1 + x % 5).toNat ≤ 5; omega
noncomputable def drawnL (s : List Int) : List Int := [2, 2] ++ ((s.drop 2).take 2).map fun x => x % 6
noncomputable def turnsL (ds : List Int) : List (Int × Int) := (List.range ds.length).map fun (i : Nat) => (ds.getD i 0, (i : Int))
noncomputable def rowsL (ds : List Int) : List Int := (laidL ds).map fun p => p.1
noncomputable def beadsL (g : Int) (rows : List Int) : List Int := (List.range rows.length).map fun (k : Nat) => g + (k : Int) + rows.reverse.getD k 0
noncomputable def whichL (s : List Int) : Int := (s.take 63).sum % 1000000000
/-- what the law asks of the numbers -/
structure LOk (s : List Int) (f : Nat) (be pe : List Int) (idx : List Nat) : Prop where
  inR : inR (drawnL s).length (ltP ((turnsL (drawnL s)).map keyN)) (kas_sort (drawnL s).length) = true
  run : (runT (ltP ((turnsL (drawnL s)).map keyN)) (kas_sort (drawnL s).length)).toList = idx
  idxB : ∀ i ∈ idx, i < (drawnL s).length
  laid : laidL (drawnL s) = idx.map fun i => (turnsL (drawnL s)).getD i (0, 0)
  strips : SOk (widthN s) (groundL s) f (rowsL (drawnL s)) (beadsL (groundL s) (rowsL (drawnL s))) (whichL s) [] be pe
  fuel : f ≤ 1000
  rows : ∀ r ∈ rowsL (drawnL s), 0 ≤ r ∧ r ≤ 5
  beL : be.length ≤ 100
  beB : ∀ r ∈ be, -1024 < r ∧ r < 1024
  agree : AOk (beadsL (groundL s) (rowsL (drawnL s))) be (widthN s) (groundL s) (rowsL (drawnL s)) pe.length
  odd : (pe.sum - (fallsN ((plainL (beadsL (groundL s) (rowsL (drawnL s))) (widthN s)).map fun p => lowS p.1) : Nat) + (fallsN ((plainL be (widthN s)).map fun p => lowS p.1) : Nat)) % 2 = 0
  peL : pe.length ≤ 1000000
theorem enc_P : Enc 50 encP := enc_pair (f := D.str) (g := D.str) enc_str enc_str
theorem turns_len (ds : List Int) : (turnsL ds).length = ds.length := by simp [turnsL]
theorem drawn_len (s : List Int) : 2 ≤ (drawnL s).length ∧ (drawnL s).length ≤ 4 := by
  unfold drawnL
  simp only [List.length_append, List.length_map, List.length_take, List.length_cons, List.length_nil]
  omega
theorem laidL_len (ds : List Int) : (laidL ds).length = ds.length := laidTo_len ds _
theorem rowsL_len (ds : List Int) : (rowsL ds).length = ds.length := by unfold rowsL; rw [List.length_map, laidL_len]
theorem beadsL_len (g : Int) (rows : List Int) : (beadsL g rows).length = rows.length := by simp [beadsL]
theorem groundL_b (s : List Int) : -1000 ≤ groundL s ∧ groundL s ≤ 1000 := by
  unfold groundL
  split
  · omega +splitNatSub
  · split <;> omega +splitNatSub
section
variable {prog : Program} {w : World} {g0 : Heap} {mg mb : Str → Option Value} {loose : List Str} {mean : ExcName → Option Value} {fx : List (Addr × Obj)}
theorem o_pow9 {G : Gnd} {n : Nat} {fi : Fi} {σ : AS} : O2 G n fi σ (binaryOp .Pow) (.int 10) (.int 9) (.int 1000000000) σ := .mk fun A env α s u v _ _ F r1 r2 => by
  simp only [RepC] at r1 r2; obtain ⟨t, rfl⟩ := r1; obtain ⟨t', rfl⟩ := r2
  refine AutoIntOps.pow_4 (by decide) (by decide) (by decide) (by decide) (by decide) ?_
  exact Post.tok F rint
theorem lawF_key (ok : ((mkG prog w g0 mg mb loose mean fx)).Ok) {n : Nat} {fi : Fi} {σ : AS} {p : Int × Int} : KeyOf (mkG prog w g0 mg mb loose mean fx) (n + 1) fi σ lawF p := by
  refine lam_call (G := ((mkG prog w g0 mg mb loose mean fx)).noMk) (Ok.noMk ok) [("pair", encP2 p)] (fun s X c vals doc pm cdv ctv ra => ?_) rfl (by decide +kernel) rfl (fun cv => ?_)
  · simp only [RepsC] at ra
    obtain ⟨v1, _, rfl, r1, rfl⟩ := ra
    refine ⟨_, kp_binds (K := []) (fun a o e => by simp at e) (fun _ => rfl), rfl, ?_⟩
    simp only [List.map_cons, List.map_nil, RepsC]
    exact ⟨_, _, rfl, r1, rfl⟩
  · show PE _ _ _ _ _ (.tup [.int (-p.1), .int p.2]) _
    refine pe_tuple (pes_cons (pe_unop (pe_itemT (ds := [.int p.1, .int p.2]) (j := 0) pe_loc pe_int (by decide) (by decide) rfl rfl) o_neg) (pes_cons (pe_itemT (ds := [.int p.1, .int p.2]) (j := 1) pe_loc pe_int (by decide) (by decide) rfl rfl) pes_nil)) (hz := ?_)
    · show 2 ≤ 1000000; decide
set_option maxHeartbeats 4000000 in
theorem law_fn (ok : ((mkG prog w g0 mg mb loose mean fx)).Ok) {n : Nat} {s be pe : List Int} {f : Nat} {idx : List Nat} (hs : s.length ≤ 1000) (h : LOk s f be pe idx) : FnX (mkG prog w g0 mg mb loose mean fx) (n + 21) (.ref 354) [] [.lst (dI s)] [] [] (.bool true) [] := by
  refine fn_enterX (Hb := []) ok (law.ho _) (law.code _) [("script", .lst (dI s))] 0 (fun A s' α vals kvals Q E gs L ra rk hQ => ?_) (by rfl) (Nat.le_refl _) ?_ (by decide +kernel)
  · simp only [RepsC] at ra rk
    obtain ⟨v1, _, rfl, r1, rfl⟩ := ra
    subst rk
    refine kp_binds (s := s') (ok.X.keeps gs.base) (fun _ => rfl) _ _ _ _ (hQ _ s'.heap [] (fun _ _ e => e) (fun _ h => nomatch h) (by rw [List.append_nil]; exact L) rfl ?_)
    simp only [List.map_cons, List.map_nil, RepsC, List.append_nil]
    exact ⟨_, _, rfl, r1, rfl⟩
  · unfold law.body
    have hdl := drawn_len s
    have hgb := groundL_b s
    have hwb := widthN_b s
    apply se_cons
    apply s_assign (d := .int (widthN s : Nat)) (σ₁ := ⟨[("script", .lst (dI s))], [], []⟩)
    · cases s with
      | nil => exact pe_ifF (pt_val pe_loc (ot_listE (.inl rfl) (by decide) rfl)) (by walk_at "pv")
      | cons x r =>
        apply pe_ifT
        · exact pt_val pe_loc (ot_listE (.inl rfl) (by simp [dI] at hs ⊢; omega) rfl)
        · apply pe_eq (d := .int (1 + x.fmod 5))
          · apply pe_binop
            · walk_at "pv"
            · apply pe_binop
              · exact pe_itemN (f := D.int) (xs := x :: r) (i := 0) (y := x) pe_loc pe_int (.inl rfl) rfl (by omega)
              · walk_at "pv"
              · walk_at "po"
            · exact o_add
          · exact (by rw [Int.fmod_eq_emod_of_nonneg _ (by decide)]; show D.int _ = D.int (((1 + x % 5).toNat : Nat) : Int); congr 1; omega)
    · exact sn_loc
    show SE _ _ _ _ _ _
    generalize hwd : widthN s = wd at *
    have haw := h.agree
    have hst := h.strips
    rw [hwd] at haw hst
    apply se_cons
    apply s_assign
    · exact pe_call (pg.law_ground ok) (pes_cons pe_loc pes_nil) pks_nil (fun _ g => keeps_K' ok (by kernel_rfl) g) (call_fn [] (ground_fn (n := n + 19) ok hs) ⟨.inr (.inl rfl), trivial⟩ trivial (by omega) (fun i c h => by simp at h))
    · exact sn_cel
    rotate_left
    · intro _ _; rfl
    show SE _ _ _ _ _ _
    apply se_cons
    apply s_assign (d := .lst (dI (drawnL s)))
    · apply pe_eq (d := .lst (dI [2, 2] ++ dI (((s.drop 2).take 2).map fun x => x % 6)))
      · apply pe_binop
        · exact pe_list (pes_cons pe_int (pes_cons pe_int pes_nil)) rfl (by show 2 ≤ 1000000; decide)
        · apply pe_comp (src := dI ((s.drop 2).take 2))
          · exact ⟨rfl, rfl, by decide +kernel, by decide +kernel, by decide +kernel⟩
          · apply pi_list
            · apply pe_eq (d := .lst (pySlice (dI s) (some 2) (some 4)))
              · apply pe_slice (d := .lst (dI s)) (ds := dI s) (lo := some 2) (hi := some 4)
                · exact pe_loc
                · show PE _ _ _ _ _ _ _; walk_at "pv"
                · show PE _ _ _ _ _ _ _; walk_at "pv"
                · exact .inl rfl
                · simp [dI]; omega
              · exact (by
                  have e := slice_dI (xs := s) (lo := some 2) (hi := some 4)
                  simp only [Option.map_some, Option.getD_some] at e
                  rw [show ((2 : Int)) = ((2 : Nat) : Int) from rfl, show ((4 : Int)) = ((4 : Nat) : Int) from rfl, e]
                  congr 2
                  by_cases h4 : 4 ≤ s.length
                  · rw [show min 4 s.length = 4 from by omega, show min 2 s.length = 2 from by omega]
                  · by_cases h2 : 2 ≤ s.length
                    · rw [show min 2 s.length = 2 from by omega, List.take_of_length_le (by simp; omega), List.take_of_length_le (by simp; omega)]
                    · rw [List.drop_eq_nil_of_le (by omega), List.drop_eq_nil_of_le (by omega)]; simp)
            · exact .name _ _
          · apply compB_map (f := D.int) (g := D.int) (k := fun x : Int => x % 6) (fun _ => rfl) rfl
            intro x hx
            apply pe_eq (d := .int (x.fmod 6))
            · apply pe_binop
              · exact pe_loc
              · walk_at "pv"
              · walk_at "po"
            · exact (by rw [Int.fmod_eq_emod_of_nonneg _ (by decide)])
          · simp [dI]; omega
        · exact o_cat (.inl rfl) (.inl rfl) (by simp [dI]; omega)
      · exact (by unfold drawnL dI; simp)
    · exact sn_loc
    show SE _ _ _ _ _ _
    generalize hdr : drawnL s = ds at *
    refine SE.weak (σ' := ⟨[("script", .lst (dI s)), ("width", .int wd), ("drawn", .lst (dI ds))], [("ground", .int (groundL s))], []⟩) ⟨by walk_at "sub_l", by walk_at "sub_l", rfl⟩ ?_
    apply se_cons
    apply s_assign
    · exact pe_call (pg.law_laid ok) (pes_cons pe_loc pes_nil) pks_nil (fun _ g => keeps_K' ok (by kernel_rfl) g) (call_fn [] (laid_fn (n := n + 16) ok (ds := ds) (by omega)) ⟨.inr (.inl rfl), trivial⟩ trivial (by omega) (fun i c h => by simp at h))
    · exact sn_loc
    rotate_left
    · intro _ _; rfl
    show SE _ _ _ _ _ _
    have hqlen := turns_len ds
    have hrl := rowsL_len ds
    have hlist : ∀ {xs : List Int}, ((dI xs).length) = xs.length := fun {xs} => by simp [dI]
    apply se_cons
    apply s_ifSorted (fD := lawF) (n := n + 18) (qs := laidL ds) (ps := turnsL ds) (idx := idx)
    · exact pe_loc
    · exact pg.sorted ok
    · apply pe_comp (src := enumD (dI ds))
      · exact ⟨rfl, rfl, by decide +kernel, by decide +kernel, by decide +kernel⟩
      · exact pi_enumL (pg.enumerate ok) pe_loc
      · have e : enumD (dI ds) = (List.range ds.length).map fun (i : Nat) => D.tup [D.int (i : Int), D.int (ds.getD i 0)] := by
          unfold enumD
          rw [hlist]
          apply List.map_congr_left
          intro i hi
          have := List.mem_range.mp hi
          congr 2
          simp [dI, List.getD_eq_getElem?_getD, List.getElem?_eq_getElem this]
        have e2 : (turnsL ds).map encP2 = ((List.range ds.length).map fun (i : Nat) => (ds.getD i 0, (i : Int))).map encP2 := rfl
        rw [e, e2]
        apply compB_pairs (f1 := fun (i : Nat) => D.int (i : Int)) (f2 := fun (i : Nat) => D.int (ds.getD i 0)) (g := encP2) (m := fun (i : Nat) => (ds.getD i 0, (i : Int)))
        · exact fun _ => rfl
        · rfl
        · rfl
        · decide
        · intro b hb
          exact pe_tuple (pes_cons pe_loc (pes_cons pe_loc pes_nil)) (hz := by show 2 ≤ 1000000; decide)
      · rw [enumD_len, hlist]; omega
    · exact pe_lambda ok (q := ⟨353, 351, ⟨356, 79, 356, 111⟩, "law.<locals>.<lambda>"⟩) (by simp [theMks]) rfl rfl rfl
    · rfl
    · rfl
    · exact ⟨_, _, _, _, _, rfl⟩
    · exact fun p _ => lawF_key ok
    · omega
    · omega
    · rw [hqlen]; rw [← hdr]; exact h.inR
    · rw [hqlen]; rw [← hdr]; exact h.run
    · rw [hqlen]; rw [← hdr]; exact h.idxB
    · rw [← hdr]; exact h.laid
    walk_at "ps_end"
    apply se_cons
    apply s_assignC (src := (laidL ds).map encP2) (out := dI (rowsL ds))
    · exact ⟨rfl, rfl, by decide +kernel, by decide +kernel, by decide +kernel⟩
    · exact pi_list pe_loc
    · apply compB_pairs (f1 := fun (p : Int × Int) => D.int p.1) (f2 := fun (p : Int × Int) => D.int p.2) (g := D.int) (m := fun (p : Int × Int) => p.1)
      · exact fun _ => rfl
      · rfl
      · rfl
      · decide
      · intro b hb
        exact pe_loc
    · rw [List.length_map, laidL_len]; omega
    show SE _ _ _ _ _ _
    have hrb := h.rows
    rw [hdr] at hrb
    generalize hrows : rowsL ds = rows at *
    generalize hg : groundL s = g at *
    refine SE.weak (σ' := ⟨[("script", .lst (dI s)), ("width", .int wd), ("rows", .lst (dI rows))], [("ground", .int g)], []⟩) ⟨by walk_at "sub_l", by walk_at "sub_l", rfl⟩ ?_
    have hbl := beadsL_len g rows
    have hbb : ∀ r ∈ beadsL g rows, -1010 ≤ r ∧ r ≤ 1010 := fun r hr => by
      unfold beadsL at hr
      obtain ⟨k, hk, rfl⟩ := List.mem_map.mp hr
      have hk' := List.mem_range.mp hk
      have : rows.reverse.getD k 0 ∈ rows := by
        rw [List.getD_eq_getElem?_getD, List.getElem?_eq_getElem (by rw [List.length_reverse]; exact hk')]
        exact List.mem_reverse.mp (List.getElem_mem _)
      have := hrb _ this
      omega
    apply se_cons
    apply s_assignC (src := enumD (dI rows).reverse) (out := dI (beadsL g rows))
    · exact ⟨rfl, rfl, by decide +kernel, by decide +kernel, by decide +kernel⟩
    · exact pi_enumR (pg.enumerate ok) (pg.reversed ok) pe_loc
    · have e : enumD (dI rows).reverse = (List.range rows.length).map fun (i : Nat) => D.tup [D.int (i : Int), D.int (rows.reverse.getD i 0)] := by
        unfold enumD
        rw [List.length_reverse, hlist]
        apply List.map_congr_left
        intro i hi
        have := List.mem_range.mp hi
        have key : (dI rows).reverse.getD i .none = D.int (rows.reverse.getD i 0) := by
          unfold dI
          rw [← List.map_reverse, List.getD_eq_getElem?_getD, List.getElem?_map, List.getD_eq_getElem?_getD, List.getElem?_eq_getElem (show i < rows.reverse.length by rw [List.length_reverse]; exact this)]
          rfl
        rw [key]
      have e2 : dI (beadsL g rows) = ((List.range rows.length).map fun (k : Nat) => g + (k : Int) + rows.reverse.getD k 0).map D.int := rfl
      rw [e, e2]
      apply compB_pairs (f1 := fun (i : Nat) => D.int (i : Int)) (f2 := fun (i : Nat) => D.int (rows.reverse.getD i 0)) (g := D.int) (m := fun (k : Nat) => g + (k : Int) + rows.reverse.getD k 0)
      · exact fun _ => rfl
      · rfl
      · rfl
      · decide
      · intro b hb
        exact pe_binop (pe_binop pe_cel pe_loc o_add) pe_loc o_add
    · rw [enumD_len, List.length_reverse, hlist]; omega
    show SE _ _ _ _ _ _
    generalize hbeads : beadsL g rows = beads at *
    refine SE.weak (σ' := ⟨[("script", .lst (dI s)), ("width", .int wd), ("rows", .lst (dI rows)), ("beads", .lst (dI beads))], [("ground", .int g)], []⟩) ⟨by walk_at "sub_l", by walk_at "sub_l", rfl⟩ ?_
    apply se_cons
    apply s_assign
    · exact pe_call (pg.law_table ok) (pes_cons pe_loc (pes_cons pe_loc pes_nil)) pks_nil (fun _ g => keeps_K' ok (by kernel_rfl) g) (call_fn [] (table_fn (n := n) ok (beads := beads) (wd := wd) (by omega) (fun r hr => by have := hbb r hr; omega) hwb.1 hwb.2) ⟨.inr (.inl rfl), .inr (.inl rfl), trivial⟩ trivial (by omega) (fun i c h => by simp at h))
    · exact sn_loc
    rotate_left
    · intro _ _; rfl
    show SE _ _ _ _ _ _
    have hW : (s.take 63).sum.fmod 1000000000 = whichL s := by rw [Int.fmod_eq_emod_of_nonneg _ (by decide)]; rfl
    have hfuel := h.fuel
    have plain_len : ∀ {bs : List Int} {w : Nat}, (plainL bs w).length = bs.length := fun {bs w} => by simp [plainL]
    refine SE.weak (σ' := ⟨[("script", .lst (dI s)), ("width", .int wd), ("rows", .lst (dI rows)), ("beads", .lst (dI beads)), ("first", .hdr 282 ((plainL beads wd).map encP))], [("ground", .int g)], []⟩) ⟨by walk_at "sub_l", by walk_at "sub_l", rfl⟩ ?_
    apply se_cons
    apply s_assign (d := .tup [.ref 0, .lst (dI pe)])
    · apply pe_call (pg.law_strips ok) (ds := [.lst (dI rows), .ref 0, .int g, .int (wd : Nat), .int (whichL s)])
      · apply pes_cons (he := fun _ => rfl)
        · exact pe_loc
        apply pes_cons (he := fun _ => rfl)
        · exact pe_call (pg.list ok) (pes_cons pe_loc pes_nil) pks_nil (fun _ _ => keeps_type) (c_list (.inl rfl) (by rw [hlist]; omega))
        apply pes_cons (he := fun _ => rfl)
        · exact pe_cel
        apply pes_cons (he := fun _ => rfl)
        · exact pe_loc
        apply pes_cons (he := fun _ => rfl)
        · apply pe_eq (d := .int ((s.take 63).sum.fmod 1000000000))
          · apply pe_binop
            · apply pe_call (pg.sum ok) (ds := [.lst (dI (s.take 63))])
              · apply pes_cons (he := fun _ => rfl)
                · apply pe_eq (d := .lst (pySlice (dI s) none (some 63)))
                  · apply pe_slice (d := .lst (dI s)) (ds := dI s) (lo := none) (hi := some 63)
                    · exact pe_loc
                    · exact rfl
                    · show PE _ _ _ _ _ _ _; walk_at "pv"
                    · exact .inl rfl
                    · rw [hlist]; omega
                  · exact (by
                      have e := slice_dI (xs := s) (lo := none) (hi := some 63)
                      simp only [Option.map_some, Option.map_none, Option.getD_some, Option.getD_none, Nat.zero_min, List.drop_zero, Nat.sub_zero] at e
                      rw [show ((63 : Int)) = ((63 : Nat) : Int) from rfl, e]
                      congr 2
                      by_cases h63 : 63 ≤ s.length
                      · rw [Nat.min_eq_left h63]
                      · rw [Nat.min_eq_right (by omega), List.take_of_length_le (Nat.le_refl _), List.take_of_length_le (by omega)])
                · exact pes_nil
              · exact pks_nil
              · exact fun _ _ => keeps_blt
              · exact c_sum (.inl rfl)
            · exact pe_binop pe_int pe_int o_pow9
            · exact o_fmod (by omega) (by omega)
          · rw [hW]
        · exact pes_nil
      · exact pks_nil
      · exact fun _ g => keeps_K' ok (by kernel_rfl) g
      · exact call_fn [0] (strips_fn (n := n + 17) ok hwb.1 hwb.2 hfuel hst) ⟨.inr (.inl rfl), .inr (.inl rfl), .inr (.inl rfl), .inr (.inl rfl), .inr (.inl rfl), trivial⟩ trivial (by omega) (fun i c h => by
          match i, h with
          | 0, h => cases h; exact ⟨0, rfl, rfl⟩
          | i + 1, h => simp at h) (hge := by show 1 ≤ 1; decide)
    · exact sn_loc
    show SE _ _ _ ⟨_, _, [.list (dI be)]⟩ _ _
    refine SE.weak (σ' := ⟨[("width", .int wd), ("rows", .lst (dI rows)), ("beads", .lst (dI beads)), ("first", .hdr 282 ((plainL beads wd).map encP)), ("stripped", .tup [.ref 0, .lst (dI pe)])], [("ground", .int g)], [.list (dI be)]⟩) ⟨by walk_at "sub_l", by walk_at "sub_l", rfl⟩ ?_
    have hbeL := h.beL
    have hst0 : ∀ {m : Nat} {fi : Fi} {σ : AS} {p1 p2 p3 : Pos}, fi.scope.names.lookup ("stripped" : Str) = some .local → σ.loc.lookup ("stripped" : Str) = some (.tup [.ref 0, .lst (dI pe)]) → PE (mkG prog w g0 mg mb loose mean fx) m fi σ (.Subscript (.Name "stripped" p1) (.Constant (.int 0) 0 p2) p3) (.ref 0) σ := fun h1 h2 =>
      pe_itemT (ds := [.ref 0, .lst (dI pe)]) (j := 0) (pe_loc h1 h2) pe_int (by decide) (by decide) rfl rfl
    have hst1 : ∀ {m : Nat} {fi : Fi} {σ : AS} {p1 p2 p3 : Pos}, fi.scope.names.lookup ("stripped" : Str) = some .local → σ.loc.lookup ("stripped" : Str) = some (.tup [.ref 0, .lst (dI pe)]) → PE (mkG prog w g0 mg mb loose mean fx) m fi σ (.Subscript (.Name "stripped" p1) (.Constant (.int 1) 0 p2) p3) (.lst (dI pe)) σ := fun h1 h2 =>
      pe_itemT (ds := [.ref 0, .lst (dI pe)]) (j := 1) (pe_loc h1 h2) pe_int (by decide) (by decide) rfl rfl
    apply se_cons
    apply s_if (b := false)
    · apply pt_or2
      · apply pt_cmp (a := .lst ((plainL beads wd).map encP)) (b := .lst ((plainL beads wd).map encP))
        · apply pe_mcall
          · exact pe_loc
          · exact gm_hdr (f := 246) ok (by kernel_rfl) (by kernel_rfl) (by kernel_rfl) (fun _ _ _ _ => rfl)
          · exact pes_nil
          · exact pks_nil
          · exact fun _ g => keeps_K' ok (by kernel_rfl) g
          · exact call_fn [] (hitems_fn (n := n + 19) ok (by rw [List.length_map, plain_len]; omega)) ⟨.inr (.inl rfl), trivial⟩ trivial (by omega) (fun i c h => by simp at h)
          · intro _; rfl
          · intro _; rfl
          · rfl
        · exact pe_call (pg.law_plain ok) (pes_cons pe_loc (pes_cons pe_loc pes_nil)) pks_nil (fun _ g => keeps_K' ok (by kernel_rfl) g) (call_fn [] (plain_fn (n := n + 19) ok (beads := beads) (wd := wd) (by omega) (fun r hr => by have := hbb r hr; omega) hwb.1 hwb.2) ⟨.inr (.inl rfl), .inr (.inl rfl), trivial⟩ trivial (by omega) (fun i c h => by simp at h))
        · exact o_neLb (xs := plainL beads wd) (ys := plainL beads wd) enc_P (.inl rfl) (.inl rfl) (by simp)
      · apply pt_cmp
        · exact pe_loc
        · exact pe_none
        · exact o_isNone (by simp) (by simp) (fun u e => by cases e)
        · with_unfolding_all rfl
    rw [if_neg (by decide)]
    walk_at "ps_end"
    apply se_cons
    apply s_assign
    · exact pe_call (pg.law_table ok) (pes_cons (hst0 rfl rfl) (pes_cons pe_loc pes_nil)) pks_nil (fun _ g => keeps_K' ok (by kernel_rfl) g) (call_fn [] (table_fn (n := n) ok (beads := be) (wd := wd) hbeL h.beB hwb.1 hwb.2) ⟨.inr (.inr ⟨0, _, rfl, rfl, rfl, by simp⟩), .inr (.inl rfl), trivial⟩ trivial (by omega) (fun i c h => by simp at h))
    · exact sn_loc
    rotate_left
    · intro _ _; rfl
    show SE _ _ _ _ _ _
    refine SE.weak (σ' := ⟨[("width", .int wd), ("rows", .lst (dI rows)), ("first", .hdr 282 ((plainL beads wd).map encP)), ("end", .hdr 282 ((plainL be wd).map encP)), ("stripped", .tup [.ref 0, .lst (dI pe)])], [("ground", .int g)], [.list (dI be)]⟩) ⟨by walk_at "sub_l", by walk_at "sub_l", rfl⟩ ?_
    have hbeB : ∀ r ∈ be, -100000 ≤ r ∧ r ≤ 100000 := fun r hr => by have := h.beB r hr; omega
    apply se_cons
    apply s_if (b := false)
    · apply pt_cmp (a := .lst ((plainL be wd).map encP)) (b := .lst ((plainL be wd).map encP))
      · apply pe_mcall
        · exact pe_loc
        · exact gm_hdr (f := 246) ok (by kernel_rfl) (by kernel_rfl) (by kernel_rfl) (fun _ _ _ _ => rfl)
        · exact pes_nil
        · exact pks_nil
        · exact fun _ g => keeps_K' ok (by kernel_rfl) g
        · exact call_fn [] (hitems_fn (n := n + 19) ok (by rw [List.length_map, plain_len]; omega)) ⟨.inr (.inl rfl), trivial⟩ trivial (by omega) (fun i c h => by simp at h)
        · intro _; rfl
        · intro _; rfl
        · rfl
      · exact pe_call (pg.law_plain ok) (pes_cons (hst0 rfl rfl) (pes_cons pe_loc pes_nil)) pks_nil (fun _ g => keeps_K' ok (by kernel_rfl) g) (call_fn [] (plain_fn (n := n + 19) ok (beads := be) (wd := wd) (by omega) hbeB hwb.1 hwb.2) ⟨.inr (.inr ⟨0, _, rfl, rfl, rfl, by simp⟩), .inr (.inl rfl), trivial⟩ trivial (by omega) (fun i c h => by simp at h))
      · exact o_neLb (xs := plainL be wd) (ys := plainL be wd) enc_P (.inl rfl) (.inl rfl) (by simp)
    rw [if_neg (by decide)]
    walk_at "ps_end"
    apply se_cons
    apply s_if (b := false)
    · show PT _ _ _ _ _ (!true) _
      apply pt_not
      apply pt_val (d := .bool true)
      · exact pe_call (pg.law_names_agree ok) (pes_cons pe_loc (pes_cons pe_loc (pes_cons pe_cel (pes_cons pe_loc (pes_cons pe_loc (pes_cons (pe_call (pg.len ok) (pes_cons (hst1 rfl rfl) pes_nil) pks_nil (fun _ _ => keeps_blt) (c_len (.inl rfl) (by rw [hlist]; exact h.peL))) pes_nil)))))) pks_nil (fun _ g => keeps_K' ok (by kernel_rfl) g)
          (call_fn [] (agree_fn (n := n + 12) ok (bF := beads) (bE := be) (rows := rows) (g := g) (wd := wd) (cut := ((dI pe).length : Nat)) (by omega) (by omega) (fun r hr => by have := hbb r hr; omega) hbeB hwb.1 hwb.2 (by omega) (by omega) (fun r hr => by have := hrb r hr; omega) (by rw [hlist]; exact haw)) ⟨.inr (.inl rfl), .inr (.inl rfl), .inr (.inl rfl), .inr (.inl rfl), .inr (.inl rfl), .inr (.inl rfl), trivial⟩ trivial (by omega) (fun i c h => by simp at h))
      · exact ot_bool
    rw [if_neg (by decide)]
    walk_at "ps_end"
    have hodd := h.odd
    rw [hwd, hg, hdr, hrows, hbeads] at hodd
    apply se_cons
    apply s_ret (d := .bool true)
    · apply pe_cmp
      · apply pe_binop
        · apply pe_binop
          · apply pe_binop
            · exact pe_call (pg.sum ok) (pes_cons (hst1 rfl rfl) pes_nil) pks_nil (fun _ _ => keeps_blt) (c_sum (.inl rfl))
            · exact pe_call (pg.law_falls ok) (pes_cons pe_loc pes_nil) pks_nil (fun _ g => keeps_K' ok (by kernel_rfl) g) (call_fn [] (falls_fn (n := n + 18) ok (ps := plainL beads wd) (by rw [plain_len]; omega) (plainL_names hwb.1 hwb.2)) ⟨.inr (.inl rfl), trivial⟩ trivial (by omega) (fun i c h => by simp at h))
            · walk_at "po"
          · exact pe_call (pg.law_falls ok) (pes_cons pe_loc pes_nil) pks_nil (fun _ g => keeps_K' ok (by kernel_rfl) g) (call_fn [] (falls_fn (n := n + 18) ok (ps := plainL be wd) (by rw [plain_len]; omega) (plainL_names hwb.1 hwb.2)) ⟨.inr (.inl rfl), trivial⟩ trivial (by omega) (fun i c h => by simp at h))
          · walk_at "po"
        · walk_at "pv"
        · exact o_fmod (by omega) (by omega)
      · walk_at "pv"
      · have e : (((pe.sum - (fallsN ((plainL beads wd).map fun p => lowS p.1) : Nat) + (fallsN ((plainL be wd).map fun p => lowS p.1) : Nat)).fmod 2 == 0) : Bool) = true := by
          rw [Int.fmod_eq_emod_of_nonneg _ (by decide), hodd]; rfl
        rw [← e]
        exact o_eq
      · with_unfolding_all rfl
    · exact ⟨rfl, rfl, rfl⟩
end
end
section
/-! the plain law: what is looked at, over the few diagrams -/
noncomputable def inU (rows : List Int) : Bool := match rows with
  | [a, b] => decide (0 ≤ b) && decide (b ≤ a) && decide (a ≤ 2)
  | [a, b, c] => decide (0 ≤ c) && decide (c ≤ b) && decide (b ≤ a) && decide (a ≤ 5) && decide (b ≤ 2)
  | [a, b, c, d] => decide (0 ≤ d) && decide (d ≤ c) && decide (c ≤ b) && decide (b ≤ a) && decide (a ≤ 5) && decide (c ≤ 2)
  | _ => false
noncomputable def univ : List (List Int) :=
  ((List.range 3).flatMap fun (a : Nat) => (List.range (a + 1)).map fun (b : Nat) => [(a : Int), (b : Int)]) ++
  ((List.range 6).flatMap fun (a : Nat) => ((List.range (a + 1)).filter fun b => decide (b ≤ 2)).flatMap fun (b : Nat) => (List.range (b + 1)).map fun (c : Nat) => [(a : Int), (b : Int), (c : Int)]) ++
  ((List.range 6).flatMap fun (a : Nat) => (List.range (a + 1)).flatMap fun (b : Nat) => ((List.range (b + 1)).filter fun c => decide (c ≤ 2)).flatMap fun (c : Nat) => (List.range (c + 1)).map fun (d : Nat) => [(a : Int), (b : Int), (c : Int), (d : Int)])
noncomputable def fitsL (rows : List Int) (wd : Nat) : List Cell := (cellsL rows).filter fun c => c.1 == (wd : Int)
noncomputable def nextR (rows : List Int) (i j below : Nat) : List Int := rows.take i ++ (List.range below).map (fun k => rows.getD (i + 1 + k) 0 - 1) ++ [(j : Int)] ++ rows.drop (i + below + 1)
noncomputable def nextB (beads : List Int) (wd : Nat) (bead : Int) : List Int := dIns (beads.eraseIdx (bl beads bead)) (bl (beads.eraseIdx (bl beads bead)) (bead - (wd : Int))) (bead - (wd : Int))
noncomputable def lookC (wd : Nat) (rows : List Int) (c : Cell) : Bool :=
  let i := c.2.1.toNat; let j := c.2.2.1.toNat; let below := c.2.2.2.toNat
  let bead := rows.getD i 0 + (rows.length : Int) - 1 - (i : Int)
  c == (c.1, ((i : Int), (j : Int), (below : Int))) && decide (i + below + 1 ≤ rows.length) && (beadsL 0 rows)[bl (beadsL 0 rows) bead]? == some bead && (bl (beadsL 0 rows) bead : Int) - (br (beadsL 0 rows) (bead - (wd : Int)) : Nat) == (below : Int) &&
    inU (nextR rows i j below) && (nextR rows i j below).length == rows.length && nextB (beadsL 0 rows) wd bead == beadsL 0 (nextR rows i j below) && decide ((nextR rows i j below).sum < rows.sum)
noncomputable def look (wd : Nat) (rows : List Int) : Bool := toldL (beadsL 0 rows) 0 == rows && (fitsL rows wd).all (lookC wd rows)
noncomputable def namesI (beads : List Int) (wd : Nat) : List Int := beads.map fun b => b % (wd : Int)
noncomputable def fallsI (xs : List Int) : Nat := ((List.range xs.length).map fun k => ((List.range k).filter fun i => decide (xs.getD k 0 < xs.getD i 0)).length).sum
noncomputable def lensL (beads : List Int) (wd : Nat) : List Nat := (List.range wd).map fun (r : Nat) => (floorsL beads wd (r : Int)).length
noncomputable def stepC (wd : Nat) (g : Int) (rows : List Int) (c : Cell) : Bool :=
  let i := c.2.1.toNat; let j := c.2.2.1.toNat; let below := c.2.2.2.toNat
  let b := beadsL g rows; let b' := beadsL g (nextR rows i j below)
  lensL b' wd == lensL b wd && higherTo b' wd g wd + 1 == higherTo b wd g wd && ((below : Int) - (fallsI (namesI b wd) : Nat) + (fallsI (namesI b' wd) : Nat)) % 2 == 0
noncomputable def endC (wd : Nat) (g : Int) (rows : List Int) : Bool :=
  let b := beadsL g rows
  higherTo b wd g wd == 0 && (List.range wd).all fun (r : Nat) => floorsL b wd (r : Int) == (List.range (floorsL b wd (r : Int)).length).map fun (k : Nat) => lowestL wd g (r : Int) + (k : Int)
noncomputable def stepG (wd : Nat) (g : Int) (rows : List Int) : Bool := (fitsL rows wd).all (stepC wd g rows) && (if (fitsL rows wd).isEmpty then endC wd g rows else true)
noncomputable def startG (wd : Nat) (g : Int) (rows : List Int) : Bool :=
  let b := beadsL g rows
  (List.range wd).all (fun (r : Nat) => (smallL b wd g (r : Int)).all fun x => decide (-1000 ≤ x) && decide (x ≤ 1000)) && (hooksTo b wd g wd).isPerm (wholeL rows wd) && decide ((wholeL rows wd).length < 64)
noncomputable def drawns : List (List Int) := [[2, 2]] ++ ((List.range 6).map fun (a : Nat) => [2, 2, (a : Int)]) ++ ((List.range 6).flatMap fun (a : Nat) => (List.range 6).map fun (b : Nat) => [2, 2, (a : Int), (b : Int)])
noncomputable def sortOk (ds : List Int) : Bool :=
  let lt := ltP ((turnsL ds).map keyN)
  let idx := (runT lt (kas_sort ds.length)).toList
  inR ds.length lt (kas_sort ds.length) && idx.all (fun i => decide (i < ds.length)) && laidL ds == (idx.map fun i => (turnsL ds).getD i (0, 0)) && inU (rowsL ds)
theorem sort_all : drawns.all sortOk = true := by decide +kernel
theorem look1 : univ.all (look 1) = true := by decide +kernel
theorem look2 : univ.all (look 2) = true := by decide +kernel
theorem look3 : univ.all (look 3) = true := by decide +kernel
theorem look4 : univ.all (look 4) = true := by decide +kernel
theorem look5 : univ.all (look 5) = true := by decide +kernel
theorem start1g0 : (drawns.all fun d => startG 1 ((0 : Nat) : Int) (rowsL d)) = true := by decide +kernel
theorem start2g0 : (drawns.all fun d => startG 2 ((0 : Nat) : Int) (rowsL d)) = true := by decide +kernel
theorem start2g1 : (drawns.all fun d => startG 2 ((1 : Nat) : Int) (rowsL d)) = true := by decide +kernel
theorem start3g0 : (drawns.all fun d => startG 3 ((0 : Nat) : Int) (rowsL d)) = true := by decide +kernel
theorem start3g1 : (drawns.all fun d => startG 3 ((1 : Nat) : Int) (rowsL d)) = true := by decide +kernel
theorem start3g2 : (drawns.all fun d => startG 3 ((2 : Nat) : Int) (rowsL d)) = true := by decide +kernel
theorem start4g0 : (drawns.all fun d => startG 4 ((0 : Nat) : Int) (rowsL d)) = true := by decide +kernel
theorem start4g1 : (drawns.all fun d => startG 4 ((1 : Nat) : Int) (rowsL d)) = true := by decide +kernel
theorem start4g2 : (drawns.all fun d => startG 4 ((2 : Nat) : Int) (rowsL d)) = true := by decide +kernel
theorem start4g3 : (drawns.all fun d => startG 4 ((3 : Nat) : Int) (rowsL d)) = true := by decide +kernel
theorem start5g0 : (drawns.all fun d => startG 5 ((0 : Nat) : Int) (rowsL d)) = true := by decide +kernel
theorem start5g1 : (drawns.all fun d => startG 5 ((1 : Nat) : Int) (rowsL d)) = true := by decide +kernel
theorem start5g2 : (drawns.all fun d => startG 5 ((2 : Nat) : Int) (rowsL d)) = true := by decide +kernel
theorem start5g3 : (drawns.all fun d => startG 5 ((3 : Nat) : Int) (rowsL d)) = true := by decide +kernel
theorem start5g4 : (drawns.all fun d => startG 5 ((4 : Nat) : Int) (rowsL d)) = true := by decide +kernel
end
section
theorem step1g0 : univ.all (stepG 1 ((0 : Nat) : Int)) = true := by decide +kernel
theorem step2g0 : univ.all (stepG 2 ((0 : Nat) : Int)) = true := by decide +kernel
theorem step2g1 : univ.all (stepG 2 ((1 : Nat) : Int)) = true := by decide +kernel
theorem step3g0 : univ.all (stepG 3 ((0 : Nat) : Int)) = true := by decide +kernel
theorem step3g1 : univ.all (stepG 3 ((1 : Nat) : Int)) = true := by decide +kernel
theorem step3g2 : univ.all (stepG 3 ((2 : Nat) : Int)) = true := by decide +kernel
theorem step4g0 : univ.all (stepG 4 ((0 : Nat) : Int)) = true := by decide +kernel
theorem step4g1 : univ.all (stepG 4 ((1 : Nat) : Int)) = true := by decide +kernel
theorem step4g2 : univ.all (stepG 4 ((2 : Nat) : Int)) = true := by decide +kernel
theorem step4g3 : univ.all (stepG 4 ((3 : Nat) : Int)) = true := by decide +kernel
theorem step5g0 : univ.all (stepG 5 ((0 : Nat) : Int)) = true := by decide +kernel
theorem step5g1 : univ.all (stepG 5 ((1 : Nat) : Int)) = true := by decide +kernel
theorem step5g2 : univ.all (stepG 5 ((2 : Nat) : Int)) = true := by decide +kernel
theorem step5g3 : univ.all (stepG 5 ((3 : Nat) : Int)) = true := by decide +kernel
theorem step5g4 : univ.all (stepG 5 ((4 : Nat) : Int)) = true := by decide +kernel
end
section
theorem inU_univ {rows : List Int} (h : inU rows = true) : rows ∈ univ := by
  have two : ∀ a b : Int, 0 ≤ b → b ≤ a → a ≤ 2 → [a, b] ∈ univ := fun a b h1 h2 h3 => by
    unfold univ
    refine List.mem_append_left _ (List.mem_append_left _ (List.mem_flatMap.mpr ⟨a.toNat, List.mem_range.mpr (by omega), List.mem_map.mpr ⟨b.toNat, List.mem_range.mpr (by omega), ?_⟩⟩))
    rw [Int.toNat_of_nonneg (by omega), Int.toNat_of_nonneg (by omega)]
  have three : ∀ a b c : Int, 0 ≤ c → c ≤ b → b ≤ a → a ≤ 5 → b ≤ 2 → [a, b, c] ∈ univ := fun a b c h1 h2 h3 h4 h5 => by
    unfold univ
    refine List.mem_append_left _ (List.mem_append_right _ (List.mem_flatMap.mpr ⟨a.toNat, List.mem_range.mpr (by omega), List.mem_flatMap.mpr ⟨b.toNat, List.mem_filter.mpr ⟨List.mem_range.mpr (by omega), decide_eq_true (by omega)⟩, List.mem_map.mpr ⟨c.toNat, List.mem_range.mpr (by omega), ?_⟩⟩⟩))
    rw [Int.toNat_of_nonneg (by omega), Int.toNat_of_nonneg (by omega), Int.toNat_of_nonneg (by omega)]
  have four : ∀ a b c d : Int, 0 ≤ d → d ≤ c → c ≤ b → b ≤ a → a ≤ 5 → c ≤ 2 → [a, b, c, d] ∈ univ := fun a b c d h1 h2 h3 h4 h5 h6 => by
    unfold univ
    refine List.mem_append_right _ (List.mem_flatMap.mpr ⟨a.toNat, List.mem_range.mpr (by omega), List.mem_flatMap.mpr ⟨b.toNat, List.mem_range.mpr (by omega), List.mem_flatMap.mpr ⟨c.toNat, List.mem_filter.mpr ⟨List.mem_range.mpr (by omega), decide_eq_true (by omega)⟩, List.mem_map.mpr ⟨d.toNat, List.mem_range.mpr (by omega), ?_⟩⟩⟩⟩)
    rw [Int.toNat_of_nonneg (by omega), Int.toNat_of_nonneg (by omega), Int.toNat_of_nonneg (by omega), Int.toNat_of_nonneg (by omega)]
  match rows, h with
  | [a, b], h => simp only [inU, Bool.and_eq_true, decide_eq_true_eq] at h; exact two a b (by omega) (by omega) (by omega)
  | [a, b, c], h => simp only [inU, Bool.and_eq_true, decide_eq_true_eq] at h; exact three a b c (by omega) (by omega) (by omega) (by omega) (by omega)
  | [a, b, c, d], h => simp only [inU, Bool.and_eq_true, decide_eq_true_eq] at h; exact four a b c d (by omega) (by omega) (by omega) (by omega) (by omega) (by omega)
  | [], h => simp [inU] at h
  | [a], h => simp [inU] at h
  | a :: b :: c :: d :: e :: r, h => simp [inU] at h
theorem univ_b : univ.all (fun rows => decide (rows.length ≤ 4 ∧ (∀ r ∈ rows, 0 ≤ r ∧ r ≤ 5) ∧ 0 ≤ rows.sum ∧ rows.sum ≤ 20)) = true := by decide +kernel
theorem inU_b {rows : List Int} (h : inU rows = true) : rows.length ≤ 4 ∧ (∀ r ∈ rows, 0 ≤ r ∧ r ≤ 5) ∧ 0 ≤ rows.sum ∧ rows.sum ≤ 20 :=
  of_decide_eq_true (List.all_eq_true.mp univ_b rows (inU_univ h))
/-! all shifts with the ground -/
noncomputable abbrev sh (t : Int) (xs : List Int) : List Int := xs.map fun x => x + t
theorem sh_getD {t : Int} {xs : List Int} {i : Nat} (h : i < xs.length) : (sh t xs).getD i 0 = xs.getD i 0 + t := by
  simp [List.getD_eq_getElem?_getD, List.getElem?_eq_getElem h]
theorem blGo_sh {t x : Int} {xs : List Int} : ∀ (f lo hi : Nat), hi ≤ xs.length → blGo (sh t xs) (x + t) f lo hi = blGo xs x f lo hi
  | 0, _, _, _ => rfl
  | f + 1, lo, hi, h => by
    unfold blGo
    by_cases hl : lo < hi
    · rw [if_pos hl, if_pos hl, sh_getD (by omega), blGo_sh f _ _ h, blGo_sh f _ _ (by omega)]
      by_cases hc : xs.getD ((lo + hi) / 2) 0 < x
      · rw [if_pos hc, if_pos (by omega)]
      · rw [if_neg hc, if_neg (by omega)]
    · rw [if_neg hl, if_neg hl]
theorem bl_sh {t x : Int} {xs : List Int} : bl (sh t xs) (x + t) = bl xs x := by
  unfold bl; rw [List.length_map]; exact blGo_sh _ _ _ (Nat.le_refl _)
theorem brGo_sh {t x : Int} {xs : List Int} : ∀ (f lo hi : Nat), hi ≤ xs.length → brGo (sh t xs) (x + t) f lo hi = brGo xs x f lo hi
  | 0, _, _, _ => rfl
  | f + 1, lo, hi, h => by
    unfold brGo
    by_cases hl : lo < hi
    · rw [if_pos hl, if_pos hl, sh_getD (by omega), brGo_sh f _ _ h, brGo_sh f _ _ (by omega)]
      by_cases hc : x < xs.getD ((lo + hi) / 2) 0
      · rw [if_pos hc, if_pos (by omega)]
      · rw [if_neg hc, if_neg (by omega)]
    · rw [if_neg hl, if_neg hl]
theorem br_sh {t x : Int} {xs : List Int} : br (sh t xs) (x + t) = br xs x := by
  unfold br; rw [List.length_map]; exact brGo_sh _ _ _ (Nat.le_refl _)
theorem beadsL_sh {g t : Int} {rows : List Int} : beadsL (g + t) rows = sh t (beadsL g rows) := by
  unfold beadsL sh
  rw [List.map_map]
  apply List.map_congr_left
  intro k _
  show g + t + (k : Int) + rows.reverse.getD k 0 = g + (k : Int) + rows.reverse.getD k 0 + t
  omega
theorem erase_map {τ υ : Type} (f : τ → υ) : ∀ (l : List τ) (i : Nat), (l.map f).eraseIdx i = (l.eraseIdx i).map f
  | [], _ => by simp
  | _ :: _, 0 => by simp
  | x :: l, i + 1 => by simp [erase_map f l i]
theorem told_sh {g t : Int} {xs : List Int} : toldL (sh t xs) (g + t) = toldL xs g := by
  unfold toldL
  rw [show (sh t xs).reverse = sh t xs.reverse from by unfold sh; rw [List.map_reverse], List.map_map]
  apply List.map_congr_left
  intro b _
  show b + t - (g + t) - (bl (sh t xs) (b + t) : Nat) = _
  rw [bl_sh]
  omega
theorem nextB_sh {t x : Int} {xs : List Int} {wd : Nat} : nextB (sh t xs) wd (x + t) = sh t (nextB xs wd x) := by
  unfold nextB
  rw [bl_sh, show (sh t xs).eraseIdx (bl xs x) = sh t (xs.eraseIdx (bl xs x)) from erase_map _ _ _, show x + t - (wd : Int) = (x - (wd : Int)) + t from by omega, bl_sh]
  unfold dIns sh
  simp
theorem floors_sh {q : Int} {xs : List Int} {wd : Nat} {rest : Int} (h0 : 0 < wd) : floorsL (sh ((wd : Int) * q) xs) wd rest = sh q (floorsL xs wd rest) := by
  unfold floorsL sh
  rw [List.filter_map, List.map_map, List.map_map]
  have e : ((fun b => decide (b % (wd : Int) = rest)) ∘ fun x => x + (wd : Int) * q) = fun b => decide (b % (wd : Int) = rest) := by
    funext b
    simp [Function.comp]
  rw [e]
  apply List.map_congr_left
  intro b _
  show (b + (wd : Int) * q) / (wd : Int) = b / (wd : Int) + q
  rw [Int.add_mul_ediv_left _ _ (by omega)]
theorem lowest_sh {q g rest : Int} {wd : Nat} (h0 : 0 < wd) : lowestL wd (g + (wd : Int) * q) rest = lowestL wd g rest + q := by
  unfold lowestL
  rw [show rest - (g + (wd : Int) * q) = (rest - g) + (wd : Int) * (-q) from by rw [Int.mul_neg]; omega, Int.add_mul_ediv_left _ _ (by omega)]
  omega
theorem small_sh {q g rest : Int} {xs : List Int} {wd : Nat} (h0 : 0 < wd) : smallL (sh ((wd : Int) * q) xs) wd (g + (wd : Int) * q) rest = smallL xs wd g rest := by
  unfold smallL
  rw [floors_sh h0, lowest_sh h0, List.length_map]
  apply List.map_congr_left
  intro i hi
  have := List.mem_range.mp hi
  rw [sh_getD (by omega)]
  omega
theorem hooks_sh {q g : Int} {xs : List Int} {wd i : Nat} (h0 : 0 < wd) : hooksTo (sh ((wd : Int) * q) xs) wd (g + (wd : Int) * q) i = hooksTo xs wd g i := by
  unfold hooksTo; simp only [small_sh h0]
theorem higher_sh {q g : Int} {xs : List Int} {wd i : Nat} (h0 : 0 < wd) : higherTo (sh ((wd : Int) * q) xs) wd (g + (wd : Int) * q) i = higherTo xs wd g i := by
  unfold higherTo; simp only [small_sh h0]
theorem names_sh {q : Int} {xs : List Int} {wd : Nat} : namesI (sh ((wd : Int) * q) xs) wd = namesI xs wd := by
  unfold namesI sh
  rw [List.map_map]
  apply List.map_congr_left
  intro b _
  show (b + (wd : Int) * q) % (wd : Int) = _
  rw [Int.add_mul_emod_self_left]
theorem falls_eq {beads : List Int} {wd : Nat} (h0 : 0 < wd) (h5 : wd ≤ 5) : fallsN ((plainL beads wd).map fun p => lowS p.1) = fallsI (namesI beads wd) := by
  unfold fallsN fallsI
  have hl : ((plainL beads wd).map fun p => lowS p.1).length = (namesI beads wd).length := by simp [plainL, namesI]
  have hg : ∀ k, k < (namesI beads wd).length → (((plainL beads wd).map fun p => lowS p.1).getD k "") = ⟨#[(97 + (namesI beads wd).getD k 0).toNat]⟩ ∧ 0 ≤ (namesI beads wd).getD k 0 := fun k hk => by
    have hk' : k < beads.length := by simpa [namesI] using hk
    have e1 : (namesI beads wd).getD k 0 = beads.getD k 0 % (wd : Int) := by
      simp [namesI, List.getD_eq_getElem?_getD, List.getElem?_eq_getElem hk']
    rw [e1]
    refine ⟨?_, Int.emod_nonneg _ (by omega +splitNatSub)⟩
    rw [← low_plainAt h0 h5]
    simp [plainL, List.getD_eq_getElem?_getD, hk']
  rw [List.length_flatMap, hl]
  congr 1
  apply List.map_congr_left
  intro k hk
  have hk' := List.mem_range.mp hk
  rw [List.length_map]
  congr 1
  apply List.filter_congr
  intro i hi
  have hi' := List.mem_range.mp hi
  obtain ⟨a1, a2⟩ := hg k hk'
  obtain ⟨b1, b2⟩ := hg i (by omega +splitNatSub)
  rw [a1, b1]
  have : ((#[(97 + (namesI beads wd).getD k 0).toNat] : Array Nat).toList < (#[(97 + (namesI beads wd).getD i 0).toNat] : Array Nat).toList) ↔ (namesI beads wd).getD k 0 < (namesI beads wd).getD i 0 := by
    show [(97 + (namesI beads wd).getD k 0).toNat] < [(97 + (namesI beads wd).getD i 0).toNat] ↔ _
    generalize (namesI beads wd).getD k 0 = x at *
    generalize (namesI beads wd).getD i 0 = y at *
    rw [List.cons_lt_cons_iff]
    simp
    omega +splitNatSub
  exact decide_eq_decide.mpr this
end
section
theorem look_at {wd : Nat} {rows : List Int} (h0 : 0 < wd) (h5 : wd ≤ 5) (h : inU rows = true) : look wd rows = true := by
  have h1 : univ.all (look wd) = true := by
    rcases (by omega : wd = 1 ∨ wd = 2 ∨ wd = 3 ∨ wd = 4 ∨ wd = 5) with rfl | rfl | rfl | rfl | rfl
    · exact look1
    · exact look2
    · exact look3
    · exact look4
    · exact look5
  exact List.all_eq_true.mp h1 rows (inU_univ h)
theorem step_at {wd g0 : Nat} {rows : List Int} (h0 : 0 < wd) (h5 : wd ≤ 5) (hg : g0 < wd) (h : inU rows = true) : stepG wd (g0 : Int) rows = true := by
  have h1 : univ.all (stepG wd (g0 : Int)) = true := by
    rcases (by omega : wd = 1 ∨ wd = 2 ∨ wd = 3 ∨ wd = 4 ∨ wd = 5) with rfl | rfl | rfl | rfl | rfl
    · rw [show g0 = 0 from by omega]; exact step1g0
    · rcases (by omega : g0 = 0 ∨ g0 = 1) with rfl | rfl
      · exact step2g0
      · exact step2g1
    · rcases (by omega : g0 = 0 ∨ g0 = 1 ∨ g0 = 2) with rfl | rfl | rfl
      · exact step3g0
      · exact step3g1
      · exact step3g2
    · rcases (by omega : g0 = 0 ∨ g0 = 1 ∨ g0 = 2 ∨ g0 = 3) with rfl | rfl | rfl | rfl
      · exact step4g0
      · exact step4g1
      · exact step4g2
      · exact step4g3
    · rcases (by omega : g0 = 0 ∨ g0 = 1 ∨ g0 = 2 ∨ g0 = 3 ∨ g0 = 4) with rfl | rfl | rfl | rfl | rfl
      · exact step5g0
      · exact step5g1
      · exact step5g2
      · exact step5g3
      · exact step5g4
  exact List.all_eq_true.mp h1 rows (inU_univ h)
theorem start_at {wd g0 : Nat} {ds : List Int} (h0 : 0 < wd) (h5 : wd ≤ 5) (hg : g0 < wd) (h : ds ∈ drawns) : startG wd (g0 : Int) (rowsL ds) = true := by
  have h1 : (drawns.all fun d => startG wd (g0 : Int) (rowsL d)) = true := by
    rcases (by omega : wd = 1 ∨ wd = 2 ∨ wd = 3 ∨ wd = 4 ∨ wd = 5) with rfl | rfl | rfl | rfl | rfl
    · rw [show g0 = 0 from by omega]; exact start1g0
    · rcases (by omega : g0 = 0 ∨ g0 = 1) with rfl | rfl
      · exact start2g0
      · exact start2g1
    · rcases (by omega : g0 = 0 ∨ g0 = 1 ∨ g0 = 2) with rfl | rfl | rfl
      · exact start3g0
      · exact start3g1
      · exact start3g2
    · rcases (by omega : g0 = 0 ∨ g0 = 1 ∨ g0 = 2 ∨ g0 = 3) with rfl | rfl | rfl | rfl
      · exact start4g0
      · exact start4g1
      · exact start4g2
      · exact start4g3
    · rcases (by omega : g0 = 0 ∨ g0 = 1 ∨ g0 = 2 ∨ g0 = 3 ∨ g0 = 4) with rfl | rfl | rfl | rfl | rfl
      · exact start5g0
      · exact start5g1
      · exact start5g2
      · exact start5g3
      · exact start5g4
  exact List.all_eq_true.mp h1 ds h
theorem beads0 {G : Int} {rows : List Int} : beadsL G rows = sh G (beadsL 0 rows) := by
  rw [← beadsL_sh]; congr 1; omega
theorem strips_ex {wd g0 : Nat} {q : Int} (h0 : 0 < wd) (h5 : wd ≤ 5) (hg0 : g0 < wd) : ∀ (m : Nat) (rows : List Int) (W : Int) (passed : List Int), inU rows = true → rows.sum < (m : Int) →
    ∃ be pe rowsE, SOk wd ((g0 : Int) + (wd : Int) * q) m rows (beadsL ((g0 : Int) + (wd : Int) * q) rows) W passed be pe ∧ inU rowsE = true ∧ be = beadsL ((g0 : Int) + (wd : Int) * q) rowsE ∧ endC wd (g0 : Int) rowsE = true ∧
      lensL (beadsL (g0 : Int) rowsE) wd = lensL (beadsL (g0 : Int) rows) wd ∧ (pe.length : Int) = (passed.length : Int) + higherTo (beadsL (g0 : Int) rows) wd (g0 : Int) wd ∧
      (pe.sum - passed.sum - (fallsI (namesI (beadsL (g0 : Int) rows) wd) : Nat) + (fallsI (namesI (beadsL (g0 : Int) rowsE) wd) : Nat)) % 2 = 0 ∧ pe.length ≤ passed.length + m := by
  intro m
  generalize hG : (g0 : Int) + (wd : Int) * q = G
  induction m with
  | zero =>
    intro rows W passed hU hs
    have := (inU_b hU).2.2.1
    omega
  | succ m ih =>
    intro rows W passed hU hs
    have hb := inU_b hU
    have hl := look_at h0 h5 hU
    have hst := step_at h0 h5 hg0 hU
    unfold look at hl
    unfold stepG at hst
    rw [Bool.and_eq_true] at hl hst
    obtain ⟨ht, hc⟩ := hl
    obtain ⟨hsc, hse⟩ := hst
    have told : toldL (beadsL G rows) G = rows := by
      have := told_sh (g := 0) (t := G) (xs := beadsL 0 rows)
      rw [show (0 : Int) + G = G from by omega] at this
      rw [beads0, this]
      exact eq_of_beq ht
    have hbl := beadsL_len G rows
    have base : ∀ {P : Prop}, P → toldL (beadsL G rows) G = rows ∧ rows.length ≤ 100 ∧ (beadsL G rows).length ≤ 100 ∧ (∀ r ∈ rows, -1000 ≤ r ∧ r ≤ 1000) ∧ P := fun p => ⟨told, by omega, by omega, fun r hr => by have := hb.2.1 r hr; omega, p⟩
    by_cases hf : fitsL rows wd = []
    · rw [hf] at hse
      have hse' : endC wd (g0 : Int) rows = true := by simpa using hse
      have hh : higherTo (beadsL (g0 : Int) rows) wd (g0 : Int) wd = 0 := by
        unfold endC at hse'
        simp only [Bool.and_eq_true] at hse'
        exact eq_of_beq hse'.1
      refine ⟨beadsL G rows, passed, rows, base (.inl ⟨hf, rfl, rfl⟩), hU, rfl, hse', rfl, by rw [hh]; omega, by omega, by omega⟩
    · have hlen : 0 < (fitsL rows wd).length := List.length_pos_iff.mpr hf
      generalize hk : (W.fmod ((fitsL rows wd).length : Int)).toNat = k
      have hkl : k < (fitsL rows wd).length := by
        rw [← hk, Int.fmod_eq_emod_of_nonneg _ (by omega)]
        have h1 := Int.emod_nonneg W (b := ((fitsL rows wd).length : Int)) (by omega)
        have h2 := Int.emod_lt_of_pos W (b := ((fitsL rows wd).length : Int)) (by omega)
        omega
      have hget : (fitsL rows wd)[k]? = some (fitsL rows wd)[k] := List.getElem?_eq_getElem hkl
      generalize hcc : (fitsL rows wd)[k] = c at hget
      have hmem : c ∈ fitsL rows wd := List.mem_of_getElem? hget
      have l1 := List.all_eq_true.mp hc c hmem
      have s1 := List.all_eq_true.mp hsc c hmem
      unfold lookC at l1
      unfold stepC at s1
      simp only at l1 s1
      generalize c.2.1.toNat = i at l1 s1
      generalize c.2.2.1.toNat = j at l1 s1
      generalize c.2.2.2.toNat = below at l1 s1
      simp only [Bool.and_eq_true, decide_eq_true_eq, beq_iff_eq] at l1 s1
      obtain ⟨⟨⟨⟨⟨⟨⟨e1, e2⟩, e3⟩, e4⟩, e5⟩, e6⟩, e7⟩, e8⟩ := l1
      obtain ⟨⟨f1, f2⟩, f3⟩ := s1
      obtain ⟨be, pe, rowsE, k1, k2, k3, k4, k5, k6, k7, k8⟩ := ih (nextR rows i j below) (W.fdiv ((fitsL rows wd).length : Int)) (passed ++ [(below : Int)]) e5 (by omega)
      generalize hbd : rows.getD i 0 + (rows.length : Int) - 1 - (i : Int) = bd at e3 e4 e7
      have hbead : G + rows.getD i 0 + (rows.length : Int) - 1 - (i : Int) = bd + G := by omega
      refine ⟨be, pe, rowsE, base (.inr ⟨c.1, i, j, below, bl (beadsL G rows) (bd + G), bd + G, ?_, e2, hbead.symm, rfl, ?_, ?_, ?_⟩), k2, k3, k4, ?_, ?_, ?_, ?_⟩
      · show (fitsL rows wd)[(W.fmod ((fitsL rows wd).length : Int)).toNat]? = _
        rw [hk, hget]
        exact congrArg some e1
      · rw [beads0, bl_sh, List.getElem?_map, e3]; rfl
      · rw [beads0, bl_sh, show bd + G - (wd : Int) = (bd - (wd : Int)) + G from by omega, br_sh]; exact e4
      · have e9 : nextB (beadsL G rows) wd (bd + G) = beadsL G (nextR rows i j below) := by
          rw [beads0, nextB_sh, e7]; exact beads0.symm
        have e10 : dIns ((beadsL G rows).eraseIdx (bl (beadsL G rows) (bd + G))) (bl ((beadsL G rows).eraseIdx (bl (beadsL G rows) (bd + G))) (bd + G - (wd : Int))) (bd + G - (wd : Int)) = beadsL G (nextR rows i j below) := e9
        rw [e10]
        exact k1
      · rw [k5, f1]
      · rw [k6, List.length_append, List.length_singleton]
        have : higherTo (beadsL (g0 : Int) rows) wd (g0 : Int) wd = higherTo (beadsL (g0 : Int) (nextR rows i j below)) wd (g0 : Int) wd + 1 := f2.symm
        omega
      · rw [List.sum_append, List.sum_singleton] at k7
        omega
      · rw [List.length_append, List.length_singleton] at k8
        omega
theorem drawn_mem (s : List Int) : drawnL s ∈ drawns := by
  unfold drawnL drawns
  have hm : ∀ x : Int, ∃ a : Nat, a ∈ List.range 6 ∧ x % 6 = (a : Int) := fun x => ⟨(x % 6).toNat, List.mem_range.mpr (by omega), by omega⟩
  match (s.drop 2).take 2, (List.length_take_le 2 (s.drop 2) : ((s.drop 2).take 2).length ≤ 2) with
  | [], _ => exact List.mem_append_left _ (List.mem_append_left _ (.head _))
  | [x], _ =>
    obtain ⟨a, h1, h2⟩ := hm x
    exact List.mem_append_left _ (List.mem_append_right _ (List.mem_map.mpr ⟨a, h1, by simp [h2]⟩))
  | [x, y], _ =>
    obtain ⟨a, h1, h2⟩ := hm x
    obtain ⟨b, h3, h4⟩ := hm y
    exact List.mem_append_right _ (List.mem_flatMap.mpr ⟨a, h1, List.mem_map.mpr ⟨b, h3, by simp [h2, h4]⟩⟩)
  | x :: y :: z :: r, h => simp at h
theorem law_ok (s : List Int) : ∃ (f : Nat) (be pe : List Int) (idx : List Nat), LOk s f be pe idx := by
  have hd := drawn_mem s
  obtain ⟨h0, h5⟩ := widthN_b s
  generalize hwd : widthN s = wd at *
  have hso := List.all_eq_true.mp sort_all _ hd
  unfold sortOk at hso
  simp only [Bool.and_eq_true, beq_iff_eq] at hso
  obtain ⟨⟨⟨o1, o2⟩, o3⟩, o4⟩ := hso
  have hgb := groundL_b s
  have hg0 : ((groundL s) % (wd : Int)).toNat < wd := by
    have h1 := Int.emod_nonneg (groundL s) (b := (wd : Int)) (by omega)
    have h2 := Int.emod_lt_of_pos (groundL s) (b := (wd : Int)) (by omega)
    omega
  have hgq : (((groundL s) % (wd : Int)).toNat : Int) + (wd : Int) * (groundL s / (wd : Int)) = groundL s := by
    have h1 := Int.emod_nonneg (groundL s) (b := (wd : Int)) (by omega)
    rw [Int.toNat_of_nonneg h1]
    exact Int.emod_add_mul_ediv _ _
  have hsta := start_at h0 h5 hg0 hd
  generalize hg0e : ((groundL s) % (wd : Int)).toNat = g0 at hg0 hgq hsta
  generalize groundL s / (wd : Int) = q at hgq
  have hb := inU_b o4
  obtain ⟨be, pe, rowsE, k1, k2, k3, k4, k5, k6, k7, k8⟩ := strips_ex (q := q) h0 h5 hg0 21 (rowsL (drawnL s)) (whichL s) [] o4 (by omega)
  have hbE := inU_b k2
  have hbr : ∀ (rows : List Int), beadsL ((g0 : Int) + (wd : Int) * q) rows = sh ((wd : Int) * q) (beadsL (g0 : Int) rows) := fun rows => beadsL_sh
  unfold startG at hsta
  simp only [Bool.and_eq_true] at hsta
  obtain ⟨⟨m1, m2⟩, m3⟩ := hsta
  unfold endC at k4
  simp only [Bool.and_eq_true] at k4
  have hlens : ∀ r : Nat, r < wd → (floorsL (beadsL (g0 : Int) rowsE) wd (r : Int)).length = (floorsL (beadsL (g0 : Int) (rowsL (drawnL s))) wd (r : Int)).length := fun r hr => by
    have := congrArg (fun l => l.getD r 0) k5
    simpa [lensL, List.getD_eq_getElem?_getD, hr] using this
  refine ⟨21, be, pe, (runT (ltP ((turnsL (drawnL s)).map keyN)) (kas_sort (drawnL s).length)).toList, ⟨o1, rfl, fun i hi => of_decide_eq_true (List.all_eq_true.mp o2 i hi), o3, ?_, by omega, hb.2.1, ?_, ?_, ?_, ?_, ?_⟩⟩
  · rw [hwd, ← hgq]; exact k1
  · rw [k3, beadsL_len]; omega
  · intro r hr
    rw [k3, hgq] at hr
    unfold beadsL at hr
    obtain ⟨k, hk, rfl⟩ := List.mem_map.mp hr
    have hk' := List.mem_range.mp hk
    have : rowsE.reverse.getD k 0 ∈ rowsE := by
      rw [List.getD_eq_getElem?_getD, List.getElem?_eq_getElem (by rw [List.length_reverse]; exact hk')]
      exact List.mem_reverse.mp (List.getElem_mem _)
    have := hbE.2.1 _ this
    omega
  · rw [hwd, ← hgq, k3, hbr, hbr]
    refine ⟨fun r hr => ?_, fun r hr x hx => ?_, ?_, ?_, ?_⟩
    · have e := eq_of_beq (List.all_eq_true.mp k4.2 r (List.mem_range.mpr hr))
      rw [floors_sh h0, floors_sh h0, lowest_sh h0, List.length_map, ← hlens r hr]
      generalize hfl : floorsL (beadsL (g0 : Int) rowsE) wd (r : Int) = fl at e
      rw [e]
      simp only [List.length_map, List.length_range, sh, List.map_map]
      apply List.map_congr_left
      intro k _
      show lowestL wd (g0 : Int) (r : Int) + (k : Int) + q = lowestL wd (g0 : Int) (r : Int) + q + (k : Int)
      omega
    · rw [small_sh h0] at hx
      have := List.all_eq_true.mp (List.all_eq_true.mp m1 r (List.mem_range.mpr hr)) x hx
      simpa using this
    · rw [higher_sh h0, k6]; simp
    · rw [hooks_sh h0]; exact List.isPerm_iff.mp m2
    · simpa using m3
  · rw [hwd, falls_eq h0 h5, falls_eq h0 h5, ← hgq, k3, hbr, hbr, names_sh, names_sh]
    simp only [List.sum_nil] at k7
    omega
  · simp only [List.length_nil] at k8
    omega
end
section
noncomputable abbrev theTabs : List (Addr × Addr) := [(348, 344), (52, 48), (87, 83), (80, 76), (353, 351)]
theorem mks_tabs : ∀ q ∈ theMks, (q.c, q.P) ∈ theTabs := fun q hq =>
  List.contains_iff_mem.mp (List.all_eq_true.mp (show theMks.all (fun q => theTabs.contains (q.c, q.P)) = true by decide) q hq)
theorem mks_uniq : ∀ q ∈ theMks, ∀ q' ∈ theMks, q'.P = q.P → q' = q := by
  intro q hq q' hq' e
  simp only [theMks, List.mem_cons, List.not_mem_nil, or_false] at hq hq'
  rcases hq with rfl | rfl | rfl | rfl | rfl <;> rcases hq' with rfl | rfl | rfl | rfl | rfl <;> first | rfl | exact absurd e (by decide)
theorem codeAll_get {h : Heap} : ∀ {tabs : List (Addr × Addr)}, CodeAll tabs h → ∀ q ∈ tabs, CodeHd h q.1 q.2
  | _ :: _, k, _, .head _ => k.1
  | _ :: _, k, q, .tail _ hq => codeAll_get k.2 q hq
theorem noTabs39 (P : PySem.Params) : noTabs (K39 P) = true := by kernel_rfl
theorem ok_of {prog : Program} {p : Program} {w : World} {h : Heap} {mg mb : Str → Option Value} {loose : List Str} {mean : ExcName → Option Value} (hT : TabsAt theTabs h) (KX : (K39 w.params).In h) (T : Top p loose mean mg mb h) :
    (mkG prog w (ghostOf h theTabs) mg mb (loose ++ (recsOf p).map (·.name) ++ (litsOf p).map (·.1) ++ (clssOf p loose).map (·.name)) mean []).Ok := by
  have h1 : (K39 w.params).In (ghostOf h theTabs) := ghost_K hT KX (noTabs39 _)
  have h2 := ghost_top hT T
  have h4 : ∀ q ∈ theMks, CodeHd (ghostOf h theTabs) q.c q.P := fun q hq => codeAll_get (tabs := theTabs) (ghost_code hT) (q.c, q.P) (mks_tabs q hq)
  have h3 : ∀ P ∈ theMks.map (·.P), (ghostOf h theTabs).get? P = none := fun P hP => by
    obtain ⟨q, hq, rfl⟩ := List.mem_map.mp hP
    exact hideAll_none _ (List.mem_map_of_mem (f := fun p : Addr × Addr => p.2) (mks_tabs q hq))
  exact { X := h1, T := h2, tbg := h3, hd := h4, uniq := mks_uniq }
theorem gs_of {prog : Program} {w : World} {h : Heap} {mg mb : Str → Option Value} {loose : List Str} {mean : ExcName → Option Value} (hT : TabsAt theTabs h) : Gs (mkG prog w (ghostOf h theTabs) mg mb loose mean []) h :=
  ⟨fun b o e => of_hideAll _ e, fun q hq => ⟨#[], (hT _ (mks_tabs q hq)).2, .inl rfl⟩, fun q hq => nomatch hq⟩
theorem grown_of : ∀ {tabs : List (Addr × Addr)} {h : Heap}, (∀ q ∈ tabs, ∃ ps, h.get? q.2 = some (tabObj ps)) → GrownAll tabs h
  | [], _, _ => trivial
  | q :: r, h, k => ⟨k q (.head _), grown_of fun p hp => k p (.tail _ hp)⟩
theorem tabs_mks : ∀ p ∈ theTabs, ∃ q ∈ theMks, q.P = p.2 := fun p hp =>
  List.mem_map.mp (List.contains_iff_mem.mp (List.all_eq_true.mp (show theTabs.all (fun p => (theMks.map (·.P)).contains p.2) = true by decide) p hp))
theorem law_end {p : Program} {w : World} {s₁ : Shared} {mg mb : Str → Option Value} {loose : List Str} {mean mean' : ExcName → Option Value} {cl : Str → Option Addr} {l : Addr} {vs : List Value} {xs : List Int} (hg : s₁.gens = #[]) (KX : (K39 w.params).In s₁.heap) (T : Top p loose mean mg mb s₁.heap)
    (hT : TabsAt theTabs s₁.heap) (hpl : s₁.heap.PlainList l vs.toArray) (hI : IntsAre vs xs) (hlen : xs.length ≤ 63) :
    wpAny (model PySem.Challenge.rw_ph0178_01.row.prog w) callerA (call (.ref 354) [.ref l]) (fun v s' => GoodWG PySem.Challenge.rw_ph0178_01.row.claim cl mean' [ofPy (PyData.list (xs.map PyData.int))] s₁ (.ok (.ret v)) s') (fun e s' => GoodWG PySem.Challenge.rw_ph0178_01.row.claim cl mean' [ofPy (PyData.list (xs.map PyData.int))] s₁ (.error e) s') s₁ := by
  obtain ⟨f, be, pe, idx, hlaw⟩ := law_ok xs
  have hok := ok_of (prog := PySem.Challenge.rw_ph0178_01.row.prog) hT KX T
  have hrun := law_fn (n := 0) hok (by omega) hlaw
  have hgs := gs_of (prog := PySem.Challenge.rw_ph0178_01.row.prog) (w := w) (mg := mg) (mb := mb) (loose := loose ++ (recsOf p).map (·.name) ++ (litsOf p).map (·.1) ++ (clssOf p loose).map (·.name)) (mean := mean) hT
  have hpost : PySem.Challenge.rw_ph0178_01.row.claim.post [ofPy (PyData.list (xs.map PyData.int))] (.bool true) [ofPy (PyData.list (xs.map PyData.int))] = true := by
    first | rfl | wrow_post
  generalize hprog : PySem.Challenge.rw_ph0178_01.row.prog = prog at *
  refine enter_call ?_
  refine kn_post hT (fun _ _ => rfl) ?_
  refine codeAny_mono (hrun.run callerA [] s₁ [.ref l] [] ⟨rfl, by decide, by decide⟩ hgs ⟨rfl, List.nodup_nil, fun i a c h => by simp at h, fun a h => (nomatch h), fun a h => (nomatch h)⟩ ?_ (by simp only [RepsC])) (fun r s' z => ?_)
  · simp only [RepsC, RepC]
    exact ⟨.ref l, [], rfl, ⟨l, vs, [], rfl, rfl, by simp, by simp, hpl, of_ints hI⟩, rfl⟩
  · rcases r with e | (v | _ | _ | _) <;> first | exact z.elim | skip
    obtain ⟨β, sp, hb, gs', _, hrep⟩ := z
    have hv := hrep [] (fun a h => nomatch h)
    simp only [RepC] at hv
    subst hv
    refine ⟨⟨.inl ⟨_, .bool true, [], rfl, fun _ => rfl, .bool true, hpost, fun _ => ⟨List.nodup_nil, fun a h => nomatch h⟩⟩, fun b o e => ?_, ?_, ?_⟩, ?_⟩
    · refine sp.keep b o (by simp) (fun hP => ?_) (of_hideAll _ e)
      have := hok.tbg b hP
      exact absurd (this.symm.trans e) (by simp)
    · obtain ⟨h, t, dr, rfl⟩ := sp.same
      rfl
    · obtain ⟨h, t, dr, rfl⟩ := sp.same
      exact hg
    · refine grown_of fun q hq => ?_
      obtain ⟨m, hm, e⟩ := tabs_mks q hq
      obtain ⟨ps, h1, _⟩ := gs'.tabs m hm
      exact ⟨ps, e ▸ h1⟩
theorem tabs_of {h : Heap} {P : PySem.Params} (KX : (K39 P).In h) (hT8 : ∀ P ∈ ([344, 48, 83, 76, 351] : List Addr), h.get? P = some (tabObj #[])) : TabsAt theTabs h :=
  List.forall_mem_cons.mpr ⟨⟨codeHd_of_K (c := 348) (P := 344) KX (by kernel_rfl), hT8 344 (by decide)⟩,
  List.forall_mem_cons.mpr ⟨⟨codeHd_of_K (c := 52) (P := 48) KX (by kernel_rfl), hT8 48 (by decide)⟩,
  List.forall_mem_cons.mpr ⟨⟨codeHd_of_K (c := 87) (P := 83) KX (by kernel_rfl), hT8 83 (by decide)⟩,
  List.forall_mem_cons.mpr ⟨⟨codeHd_of_K (c := 80) (P := 76) KX (by kernel_rfl), hT8 76 (by decide)⟩,
  List.forall_mem_cons.mpr ⟨⟨codeHd_of_K (c := 353) (P := 351) KX (by kernel_rfl), hT8 351 (by decide)⟩, fun _ h => nomatch h⟩⟩⟩⟩⟩
theorem law_at (P : PySem.Params) : nsIn (K39 P) mainGlobals "law" = some (some (.ref 354)) := by kernel_rfl
theorem law_goal : PySem.Challenge.rw_ph0178_01.Holds := by
  refine hd2 fun d kwd hdef => ?_
  have hn : d.name = "law" := Option.some.inj ((congrArg (fun o => o.map fun q : DefRec × List (Str × Expr) => q.1.name) hdef).symm.trans (by kernel_rfl))
  intro w s₀ s₁ mg mb G Y fa o pm cd doc dV kV ho hd hcd hD hmg hg args vals as hpre hlay hrd hwl hlo
  have KX : (K39 w.params).In s₁.heap := km_in_of Y
  have hT9 := tabs_of KX (km_tabs_of Y)
  refine Ground.open G ?_
  intro T B D TE TW
  have e1 := mg_of KX T.g (law_at w.params)
  have e354 : fa = 354 := (Value.ref.inj (Option.some.inj (e1.symm.trans (hn ▸ hmg)))).symm
  clear hmg hd hcd hD B D TE TW Y G
  subst e354
  wrow_args hpre hlay hrd hwl hlo
  rename_i xs hs hlay0 hLy hr1 hl2 as1 as2 l vs as3 hL ra w1 r0 hI hr hcond1 hcond2
  clear hs hlay0 hLy hr1 hl2 ra r0 hr e1
  have hpl : s₁.heap.PlainList l vs.toArray := by
    cases w1 with
    | list h1 h2 =>
      obtain ⟨o', ho', hc', n', hd'⟩ := hL
      rw [h1] at ho'
      cases ho'
      cases hd'
      exact ⟨_, h1⟩
  exact law_end hg KX T hT9 hpl hI (by omega)
end
end Mine

theorem PySem.Challenge.cw_ph0178_01_holds : PySem.Challenge.rw_ph0178_01.Holds :=
  Mine.law_goal
