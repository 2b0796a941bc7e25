import PyProof.Rows.All
import Wide.All
import OpenK.AllK
import Wide.FinOn
import PySem.Challenge.RW_wk0041_01
open PySem PySem.W PyProof.Rows
set_option Elab.async false
set_option maxRecDepth 100000
set_option linter.unusedVariables false
set_option linter.unusedSimpArgs false
set_option maxHeartbeats 0
namespace Mine.H
noncomputable abbrev pw : Program := PySem.Challenge.pw_wk0041_01
noncomputable abbrev S := Str.ofString
noncomputable abbrev B := BT.node
noncomputable abbrev N := BT.nil
noncomputable def stB : Stmt → List Stmt
  | .FunctionDef _ _ b _ _ _ _ _ _ _ => b
  | .ClassDef _ _ _ b _ _ _ _ _ _ _ => b
  | _ => []
noncomputable def stA : Stmt → Arguments
  | .FunctionDef _ a _ _ _ _ _ _ _ _ => a
  | _ => default
noncomputable def stS : Stmt → Scope
  | .FunctionDef _ _ _ _ _ _ s _ _ _ => s
  | _ => default
noncomputable def stN : Stmt → Str
  | .FunctionDef n _ _ _ _ _ _ _ _ _ => n
  | _ => default
noncomputable def tp (k : Nat) : Stmt := pw.main.body.getD k (.Pass default)
noncomputable def cl (k j : Nat) : Stmt := (stB (tp k)).getD j (.Pass default)
noncomputable def fnd (st : Stmt) (q : Str) (gl : Addr) (clo : List (Str × Addr)) (dv kv doc pm : Value) (an : Option Addr) (cd ct : Value) (bl : Addr) : FuncData := ⟨stN st, q, stA st, .stmts (stB st), stS st, gl, clo, dv, kv, doc, pm, an, cd, ct, bl⟩
noncomputable abbrev F__wall : Stmt := tp 1
noncomputable abbrev F_pretty_flags : Stmt := tp 4
noncomputable abbrev F__Unknown___repr__ : Stmt := cl 5 0
noncomputable abbrev F__get_name_info : Stmt := tp 7
noncomputable abbrev F__get_lineno_width : Stmt := tp 9
noncomputable abbrev F__Accumulator___init__ : Stmt := cl 12 0
noncomputable abbrev F__Accumulator_push : Stmt := cl 12 1
noncomputable abbrev F__Accumulator_pop_from : Stmt := cl 12 2
noncomputable abbrev F__Accumulator_pop : Stmt := cl 12 3
noncomputable abbrev F__Accumulator___len__ : Stmt := cl 12 4
noncomputable abbrev F__Accumulator___str__ : Stmt := cl 12 5
noncomputable abbrev F__Accumulator_reset : Stmt := cl 12 6
noncomputable abbrev F__Accumulator_is_onlyws : Stmt := cl 12 7
noncomputable abbrev F__Accumulator_part_count : Stmt := cl 12 8
noncomputable abbrev F_Headers___init__ : Stmt := cl 16 0
noncomputable abbrev F_Headers__convert_string_type : Stmt := cl 16 1
noncomputable abbrev F_Headers___len__ : Stmt := cl 16 2
noncomputable abbrev F_Headers___setitem__ : Stmt := cl 16 3
noncomputable abbrev F_Headers___delitem__ : Stmt := cl 16 4
noncomputable abbrev F_Headers___getitem__ : Stmt := cl 16 5
noncomputable abbrev F_Headers___contains__ : Stmt := cl 16 6
noncomputable abbrev F_Headers_get_all : Stmt := cl 16 7
noncomputable abbrev F_Headers_get : Stmt := cl 16 8
noncomputable abbrev F_Headers_keys : Stmt := cl 16 9
noncomputable abbrev F_Headers_values : Stmt := cl 16 10
noncomputable abbrev F_Headers_items : Stmt := cl 16 11
noncomputable abbrev F_Headers___repr__ : Stmt := cl 16 12
noncomputable abbrev F_Headers___str__ : Stmt := cl 16 13
noncomputable abbrev F_Headers___bytes__ : Stmt := cl 16 14
noncomputable abbrev F_Headers_setdefault : Stmt := cl 16 15
noncomputable abbrev F_Headers_add_header : Stmt := cl 16 16
noncomputable abbrev F__law_sums : Stmt := tp 18
noncomputable abbrev F__law_words : Stmt := tp 19
noncomputable abbrev F__law_told : Stmt := tp 20
noncomputable abbrev F__law_plain : Stmt := tp 21
noncomputable abbrev F__law_walk : Stmt := tp 22
noncomputable abbrev F__law_far : Stmt := tp 23
noncomputable abbrev F__law_holds : Stmt := tp 24
noncomputable abbrev F__law_undone : Stmt := tp 25
noncomputable abbrev F_law : Stmt := tp 26
noncomputable def o0 (P : Params) : Obj := (Obj.mk (Value.type "dict") (Option.none) (Data.dict (List.toArray [(DictEntry.mk (PyData.keyHash P (S "builtins")) (Value.str (S "builtins") 162) (Value.ref 4)), (DictEntry.mk (PyData.keyHash P (S "__main__")) (Value.str (S "__main__") 163) (Value.ref 5)), (DictEntry.mk (PyData.keyHash P (S "_sre")) (Value.str (S "_sre") 244) (Value.ref 12))]) 3) (List.toArray []))
noncomputable def o1 (P : Params) : Obj := (Obj.mk Value.none (Option.none) (Data.dict (List.toArray [(DictEntry.mk (PyData.keyHash P (S "\x69mport.loaded._sre")) (Value.str (S "\x69mport.loaded._sre") 183) (Value.bool true)), (DictEntry.mk (PyData.keyHash P (S "class._frozen_importlib.BuiltinImporter")) (Value.str (S "class._frozen_importlib.BuiltinImporter") 185) (Value.ref 14)), (DictEntry.mk (PyData.keyHash P (S "watched.\x69mport")) (Value.str (S "watched.\x69mport") 206) (Value.ref 18)), (DictEntry.mk (PyData.keyHash P (S "class._frozen_importlib.ModuleSpec")) (Value.str (S "class._frozen_importlib.ModuleSpec") 216) (Value.ref 22)), (DictEntry.mk (PyData.keyHash P (S "sys.modules.booked-epoch")) (Value.str (S "sys.modules.booked-epoch") 245) (Value.int 3 0)), (DictEntry.mk (PyData.keyHash P (S "\x69mport.later-laid._sre")) (Value.str (S "\x69mport.later-laid._sre") 270) (Value.bool true)), (DictEntry.mk (PyData.keyHash P (S "watched.library")) (Value.str (S "watched.library") 272) (Value.ref 27)), (DictEntry.mk (PyData.keyHash P (S "watched.library-objects")) (Value.str (S "watched.library-objects") 0) (Value.str (S "\x0c") 0)), (DictEntry.mk (PyData.keyHash P (S "watched.library-deep._sre")) (Value.str (S "watched.library-deep._sre") 273) (Value.str (Str.mk (List.toArray [4,0,0,11,4,0,0,11,4,0,0,3,4,0,0,11,8,4,100,105,99,116,2])) 0))]) 9) (List.toArray []))
noncomputable def o2 (P : Params) : Obj := (Obj.mk (Value.type "dict") (Option.none) (Data.dict (List.toArray [(DictEntry.mk (PyData.keyHash P (S "__name__")) (Value.str (S "__name__") 165) (Value.str (S "__main__") 164)), (DictEntry.mk (PyData.keyHash P (S "__doc__")) (Value.str (S "__doc__") 166) Value.none), (DictEntry.mk (PyData.keyHash P (S "__package__")) (Value.str (S "__package__") 167) Value.none), (DictEntry.mk (PyData.keyHash P (S "__loader__")) (Value.str (S "__loader__") 168) (Value.builtin "__main__.__loader__#opaque")), (DictEntry.mk (PyData.keyHash P (S "__spec__")) (Value.str (S "__spec__") 169) Value.none), (DictEntry.mk (PyData.keyHash P (S "__annotations__")) (Value.str (S "__annotations__") 170) (Value.ref 6)), (DictEntry.mk (PyData.keyHash P (S "__builtins__")) (Value.str (S "__builtins__") 171) (Value.ref 4)), (DictEntry.mk (PyData.keyHash P (S "__file__")) (Value.str (S "__file__") 173) (Value.str (S "/claim/cut.py") 172)), (DictEntry.mk (PyData.keyHash P (S "__cached__")) (Value.str (S "__cached__") 174) Value.none), (DictEntry.mk (PyData.keyHash P (S "_sre")) (Value.str (S "_sre") 275) (Value.ref 12))]) 10) (List.toArray []))
noncomputable def o3 (P : Params) : Obj := (Obj.mk (Value.type "dict") (Option.none) (Data.dict (List.toArray [(DictEntry.mk (PyData.keyHash P (S "__name__")) (Value.str (S "__name__") 247) (Value.str (S "_sre") 246)), (DictEntry.mk (PyData.keyHash P (S "__doc__")) (Value.str (S "__doc__") 248) Value.none), (DictEntry.mk (PyData.keyHash P (S "__package__")) (Value.str (S "__package__") 250) (Value.str (S "") 249)), (DictEntry.mk (PyData.keyHash P (S "__loader__")) (Value.str (S "__loader__") 251) (Value.builtin "off-the-table:_sre.__loader__:shared#opaque")), (DictEntry.mk (PyData.keyHash P (S "__spec__")) (Value.str (S "__spec__") 252) (Value.builtin "off-the-table:_sre.__spec__:shared#opaque")), (DictEntry.mk (PyData.keyHash P (S "compile")) (Value.str (S "compile") 253) (Value.builtin "_sre.compile")), (DictEntry.mk (PyData.keyHash P (S "template")) (Value.str (S "template") 254) (Value.builtin "off-the-table:_sre.template:shared#opaque")), (DictEntry.mk (PyData.keyHash P (S "getcodesize")) (Value.str (S "getcodesize") 255) (Value.builtin "off-the-table:_sre.getcodesize:shared#opaque")), (DictEntry.mk (PyData.keyHash P (S "ascii_iscased")) (Value.str (S "ascii_iscased") 256) (Value.builtin "off-the-table:_sre.ascii_iscased:shared#opaque")), (DictEntry.mk (PyData.keyHash P (S "unicode_iscased")) (Value.str (S "unicode_iscased") 257) (Value.builtin "off-the-table:_sre.unicode_iscased:shared#opaque")), (DictEntry.mk (PyData.keyHash P (S "ascii_tolower")) (Value.str (S "ascii_tolower") 258) (Value.builtin "off-the-table:_sre.ascii_tolower:shared#opaque")), (DictEntry.mk (PyData.keyHash P (S "unicode_tolower")) (Value.str (S "unicode_tolower") 259) (Value.builtin "off-the-table:_sre.unicode_tolower:shared#opaque")), (DictEntry.mk (PyData.keyHash P (S "MAGIC")) (Value.str (S "MAGIC") 261) (Value.int 20230612 260)), (DictEntry.mk (PyData.keyHash P (S "CODESIZE")) (Value.str (S "CODESIZE") 263) (Value.int 4 262)), (DictEntry.mk (PyData.keyHash P (S "MAXREPEAT")) (Value.str (S "MAXREPEAT") 265) (Value.int 4294967295 264)), (DictEntry.mk (PyData.keyHash P (S "MAXGROUPS")) (Value.str (S "MAXGROUPS") 267) (Value.int 1073741823 266)), (DictEntry.mk (PyData.keyHash P (S "copyright")) (Value.str (S "copyright") 269) (Value.str (S " SRE 2.2.2 Copyright (c) 1997-2002 by Secret Labs AB ") 268))]) 17) (List.toArray []))
noncomputable def o4 (P : Params) : Obj := (Obj.mk (Value.type "module") (Option.some 11) Data.plain (List.toArray []))
noncomputable def o5 (P : Params) : Obj := (Obj.mk (Value.type "dict") (Option.none) (Data.dict (List.toArray [(DictEntry.mk (PyData.keyHash P (S "__module__")) (Value.str (S "__module__") 189) (Value.str (S "_frozen_importlib") 186)), (DictEntry.mk (PyData.keyHash P (S "__firstlineno__")) (Value.str (S "__firstlineno__") 190) (Value.int 971 187)), (DictEntry.mk (PyData.keyHash P (S "__doc__")) (Value.str (S "__doc__") 191) (Value.builtin "_frozen_importlib.BuiltinImporter.__doc__:str#opaque")), (DictEntry.mk (PyData.keyHash P (S "_ORIGIN")) (Value.str (S "_ORIGIN") 192) (Value.str (S "built-in") 188)), (DictEntry.mk (PyData.keyHash P (S "find_spec")) (Value.str (S "find_spec") 193) (Value.builtin "_frozen_importlib.BuiltinImporter.find_spec#opaque")), (DictEntry.mk (PyData.keyHash P (S "create_module")) (Value.str (S "create_module") 194) (Value.builtin "_frozen_importlib.BuiltinImporter.create_module#opaque")), (DictEntry.mk (PyData.keyHash P (S "exec_module")) (Value.str (S "exec_module") 195) (Value.builtin "_frozen_importlib.BuiltinImporter.exec_module#opaque")), (DictEntry.mk (PyData.keyHash P (S "get_code")) (Value.str (S "get_code") 196) (Value.builtin "_frozen_importlib.BuiltinImporter.get_code#opaque")), (DictEntry.mk (PyData.keyHash P (S "get_source")) (Value.str (S "get_source") 197) (Value.builtin "_frozen_importlib.BuiltinImporter.get_source#opaque")), (DictEntry.mk (PyData.keyHash P (S "is_package")) (Value.str (S "is_package") 198) (Value.builtin "_frozen_importlib.BuiltinImporter.is_package#opaque")), (DictEntry.mk (PyData.keyHash P (S "load_module")) (Value.str (S "load_module") 199) (Value.builtin "_frozen_importlib.BuiltinImporter.load_module#opaque")), (DictEntry.mk (PyData.keyHash P (S "__static_attributes__")) (Value.str (S "__static_attributes__") 200) (Value.ref 15)), (DictEntry.mk (PyData.keyHash P (S "__dict__")) (Value.str (S "__dict__") 202) (Value.ref 16)), (DictEntry.mk (PyData.keyHash P (S "__weakref__")) (Value.str (S "__weakref__") 204) (Value.ref 17))]) 14) (List.toArray []))
noncomputable def o6 (P : Params) : Obj := (Obj.mk (Value.type "type") (Option.none) (Data.cls (ClassData.mk (S "BuiltinImporter") [(Value.type "object")] [(Value.ref 14), (Value.type "object")] 13 (S "BuiltinImporter") true [] [] false (Option.none) false)) (List.toArray []))
noncomputable def o7 (P : Params) : Obj := (Obj.mk (Value.type "getset_descriptor") (Option.none) (Data.fields (List.toArray [(Value.str (S "__dict__") 201), (Value.ref 14), (Value.builtin "function.__dict__"), (Value.builtin "function.__dict__#set")])) (List.toArray []))
noncomputable def o8 (P : Params) : Obj := (Obj.mk (Value.type "getset_descriptor") (Option.none) (Data.fields (List.toArray [(Value.str (S "__weakref__") 203), (Value.ref 14), (Value.builtin "ExceptionGroup.__weakref__"), Value.none])) (List.toArray []))
noncomputable def o9 (P : Params) : Obj := (Obj.mk Value.none (Option.none) (Data.seq (List.toArray [(Value.int 13 0), (Value.str (Str.mk (List.toArray [6,189,10,95,95,109,111,100,117,108,101,95,95,6,186,17,95,102,114,111,122,101,110,95,105,109,112,111,114,116,108,105,98,6,190,15,95,95,102,105,114,115,116,108,105,110,101,110,111,95,95,4,187,0,971,6,191,7,95,95,100,111,99,95,95,9,52,95,102,114,111,122,101,110,95,105,109,112,111,114,116,108,105,98,46,66,117,105,108,116,105,110,73,109,112,111,114,116,101,114,46,95,95,100,111,99,95,95,58,115,116,114,35,111,112,97,113,117,101,6,192,7,95,79,82,73,71,73,78,6,188,8,98,117,105,108,116,45,105,110,6,193,9,102,105,110,100,95,115,112,101,99,9,50,95,102,114,111,122,101,110,95,105,109,112,111,114,116,108,105,98,46,66,117,105,108,116,105,110,73,109,112,111,114,116,101,114,46,102,105,110,100,95,115,112,101,99,35,111,112,97,113,117,101,6,194,13,99,114,101,97,116,101,95,109,111,100,117,108,101,9,54,95,102,114,111,122,101,110,95,105,109,112,111,114,116,108,105,98,46,66,117,105,108,116,105,110,73,109,112,111,114,116,101,114,46,99,114,101,97,116,101,95,109,111,100,117,108,101,35,111,112,97,113,117,101,6,195,11,101,120,101,99,95,109,111,100,117,108,101,9,52,95,102,114,111,122,101,110,95,105,109,112,111,114,116,108,105,98,46,66,117,105,108,116,105,110,73,109,112,111,114,116,101,114,46,101,120,101,99,95,109,111,100,117,108,101,35,111,112,97,113,117,101,6,196,8,103,101,116,95,99,111,100,101,9,49,95,102,114,111,122,101,110,95,105,109,112,111,114,116,108,105,98,46,66,117,105,108,116,105,110,73,109,112,111,114,116,101,114,46,103,101,116,95,99,111,100,101,35,111,112,97,113,117,101,6,197,10,103,101,116,95,115,111,117,114,99,101,9,51,95,102,114,111,122,101,110,95,105,109,112,111,114,116,108,105,98,46,66,117,105,108,116,105,110,73,109,112,111,114,116,101,114,46,103,101,116,95,115,111,117,114,99,101,35,111,112,97,113,117,101,6,198,10,105,115,95,112,97,99,107,97,103,101,9,51,95,102,114,111,122,101,110,95,105,109,112,111,114,116,108,105,98,46,66,117,105,108,116,105,110,73,109,112,111,114,116,101,114,46,105,115,95,112,97,99,107,97,103,101,35,111,112,97,113,117,101,6,199,11,108,111,97,100,95,109,111,100,117,108,101,9,52,95,102,114,111,122,101,110,95,105,109,112,111,114,116,108,105,98,46,66,117,105,108,116,105,110,73,109,112,111,114,116,101,114,46,108,111,97,100,95,109,111,100,117,108,101,35,111,112,97,113,117,101,6,200,21,95,95,115,116,97,116,105,99,95,97,116,116,114,105,98,117,116,101,115,95,95,4,0,0,15,6,202,8,95,95,100,105,99,116,95,95,4,0,0,16,6,204,11,95,95,119,101,97,107,114,101,102,95,95,4,0,0,17])) 0), (Value.bool true), (Value.bool true), (Value.str (S "") 205), (Value.int 21 0), (Value.str (Str.mk (List.toArray [6,227,10,95,95,109,111,100,117,108,101,95,95,6,217,17,95,102,114,111,122,101,110,95,105,109,112,111,114,116,108,105,98,6,228,15,95,95,102,105,114,115,116,108,105,110,101,110,111,95,95,4,218,0,562,6,229,7,95,95,100,111,99,95,95,9,47,95,102,114,111,122,101,110,95,105,109,112,111,114,116,108,105,98,46,77,111,100,117,108,101,83,112,101,99,46,95,95,100,111,99,95,95,58,115,116,114,35,111,112,97,113,117,101,6,230,8,95,95,105,110,105,116,95,95,9,44,95,102,114,111,122,101,110,95,105,109,112,111,114,116,108,105,98,46,77,111,100,117,108,101,83,112,101,99,46,95,95,105,110,105,116,95,95,35,111,112,97,113,117,101,6,231,8,95,95,114,101,112,114,95,95,9,44,95,102,114,111,122,101,110,95,105,109,112,111,114,116,108,105,98,46,77,111,100,117,108,101,83,112,101,99,46,95,95,114,101,112,114,95,95,35,111,112,97,113,117,101,6,232,6,95,95,101,113,95,95,9,42,95,102,114,111,122,101,110,95,105,109,112,111,114,116,108,105,98,46,77,111,100,117,108,101,83,112,101,99,46,95,95,101,113,95,95,35,111,112,97,113,117,101,6,233,6,99,97,99,104,101,100,9,42,95,102,114,111,122,101,110,95,105,109,112,111,114,116,108,105,98,46,77,111,100,117,108,101,83,112,101,99,46,99,97,99,104,101,100,35,111,112,97,113,117,101,6,234,6,112,97,114,101,110,116,9,42,95,102,114,111,122,101,110,95,105,109,112,111,114,116,108,105,98,46,77,111,100,117,108,101,83,112,101,99,46,112,97,114,101,110,116,35,111,112,97,113,117,101,6,235,12,104,97,115,95,108,111,99,97,116,105,111,110,9,48,95,102,114,111,122,101,110,95,105,109,112,111,114,116,108,105,98,46,77,111,100,117,108,101,83,112,101,99,46,104,97,115,95,108,111,99,97,116,105,111,110,35,111,112,97,113,117,101,6,236,21,95,95,115,116,97,116,105,99,95,97,116,116,114,105,98,117,116,101,115,95,95,4,0,0,23,6,238,8,95,95,100,105,99,116,95,95,4,0,0,24,6,240,11,95,95,119,101,97,107,114,101,102,95,95,4,0,0,25,6,241,8,95,95,104,97,115,104,95,95,0])) 0), (Value.bool true), (Value.bool true), (Value.str (S "") 242)]) 1) (List.toArray []))
noncomputable def o10 (P : Params) : Obj := (Obj.mk (Value.type "list") (Option.none) (Data.seq (List.toArray []) 0) (List.toArray []))
noncomputable def o11 (P : Params) : Obj := (Obj.mk (Value.type "dict") (Option.none) (Data.dict (List.toArray [(DictEntry.mk (PyData.keyHash P (S "name")) (Value.str (S "name") 208) (Value.str (S "_sre") 207)), (DictEntry.mk (PyData.keyHash P (S "loader")) (Value.str (S "loader") 209) (Value.ref 14)), (DictEntry.mk (PyData.keyHash P (S "origin")) (Value.str (S "origin") 210) (Value.str (S "built-in") 184)), (DictEntry.mk (PyData.keyHash P (S "loader_state")) (Value.str (S "loader_state") 211) Value.none), (DictEntry.mk (PyData.keyHash P (S "submodule_search_locations")) (Value.str (S "submodule_search_locations") 212) Value.none), (DictEntry.mk (PyData.keyHash P (S "_uninitialized_submodules")) (Value.str (S "_uninitialized_submodules") 213) (Value.ref 19)), (DictEntry.mk (PyData.keyHash P (S "_set_fileattr")) (Value.str (S "_set_fileattr") 214) (Value.bool false)), (DictEntry.mk (PyData.keyHash P (S "_cached")) (Value.str (S "_cached") 215) Value.none), (DictEntry.mk (PyData.keyHash P (S "_initializing")) (Value.str (S "_initializing") 243) (Value.bool false))]) 9) (List.toArray []))
noncomputable def o12 (P : Params) : Obj := (Obj.mk (Value.type "dict") (Option.none) (Data.dict (List.toArray [(DictEntry.mk (PyData.keyHash P (S "__module__")) (Value.str (S "__module__") 227) (Value.str (S "_frozen_importlib") 217)), (DictEntry.mk (PyData.keyHash P (S "__firstlineno__")) (Value.str (S "__firstlineno__") 228) (Value.int 562 218)), (DictEntry.mk (PyData.keyHash P (S "__doc__")) (Value.str (S "__doc__") 229) (Value.builtin "_frozen_importlib.ModuleSpec.__doc__:str#opaque")), (DictEntry.mk (PyData.keyHash P (S "__init__")) (Value.str (S "__init__") 230) (Value.builtin "_frozen_importlib.ModuleSpec.__init__#opaque")), (DictEntry.mk (PyData.keyHash P (S "__repr__")) (Value.str (S "__repr__") 231) (Value.builtin "_frozen_importlib.ModuleSpec.__repr__#opaque")), (DictEntry.mk (PyData.keyHash P (S "__eq__")) (Value.str (S "__eq__") 232) (Value.builtin "_frozen_importlib.ModuleSpec.__eq__#opaque")), (DictEntry.mk (PyData.keyHash P (S "cached")) (Value.str (S "cached") 233) (Value.builtin "_frozen_importlib.ModuleSpec.cached#opaque")), (DictEntry.mk (PyData.keyHash P (S "parent")) (Value.str (S "parent") 234) (Value.builtin "_frozen_importlib.ModuleSpec.parent#opaque")), (DictEntry.mk (PyData.keyHash P (S "has_location")) (Value.str (S "has_location") 235) (Value.builtin "_frozen_importlib.ModuleSpec.has_location#opaque")), (DictEntry.mk (PyData.keyHash P (S "__static_attributes__")) (Value.str (S "__static_attributes__") 236) (Value.ref 23)), (DictEntry.mk (PyData.keyHash P (S "__dict__")) (Value.str (S "__dict__") 238) (Value.ref 24)), (DictEntry.mk (PyData.keyHash P (S "__weakref__")) (Value.str (S "__weakref__") 240) (Value.ref 25)), (DictEntry.mk (PyData.keyHash P (S "__hash__")) (Value.str (S "__hash__") 241) Value.none)]) 13) (List.toArray []))
noncomputable def o13 (P : Params) : Obj := (Obj.mk (Value.type "type") (Option.none) (Data.cls (ClassData.mk (S "ModuleSpec") [(Value.type "object")] [(Value.ref 22), (Value.type "object")] 21 (S "ModuleSpec") true [] [] false (Option.none) false)) (List.toArray []))
noncomputable def o14 (P : Params) : Obj := (Obj.mk (Value.type "tuple") (Option.none) (Data.seq (List.toArray [(Value.str (S "_cached") 219), (Value.str (S "_set_fileattr") 220), (Value.str (S "_uninitialized_submodules") 221), (Value.str (S "loader") 222), (Value.str (S "loader_state") 223), (Value.str (S "name") 224), (Value.str (S "origin") 225), (Value.str (S "submodule_search_locations") 226)]) 0) (List.toArray []))
noncomputable def o15 (P : Params) : Obj := (Obj.mk (Value.type "getset_descriptor") (Option.none) (Data.fields (List.toArray [(Value.str (S "__dict__") 237), (Value.ref 22), (Value.builtin "function.__dict__"), (Value.builtin "function.__dict__#set")])) (List.toArray []))
noncomputable def o16 (P : Params) : Obj := (Obj.mk (Value.type "getset_descriptor") (Option.none) (Data.fields (List.toArray [(Value.str (S "__weakref__") 239), (Value.ref 22), (Value.builtin "ExceptionGroup.__weakref__"), Value.none])) (List.toArray []))
noncomputable def o17 (P : Params) : Obj := (Obj.mk (Value.ref 22) (Option.some 20) Data.plain (List.toArray []))
noncomputable def o18 (P : Params) : Obj := (Obj.mk Value.none (Option.none) (Data.seq (List.toArray [(Value.int 11 0), (Value.str (Str.mk (List.toArray [6, 247, 8, 95, 95, 110, 97, 109, 101, 95, 95, 6, 246, 4, 95, 115, 114, 101, 6, 248, 7, 95, 95, 100, 111, 99, 95, 95, 0, 6, 250, 11, 95, 95, 112, 97, 99, 107, 97, 103, 101, 95, 95, 6, 249, 0, 6, 251, 10, 95, 95, 108, 111, 97, 100, 101, 114, 95, 95, 4, 0, 0, 14, 6, 252, 8, 95, 95, 115, 112, 101, 99, 95, 95, 4, 0, 0, 26, 6, 253, 7, 99, 111, 109, 112, 105, 108, 101, 9, 12, 95, 115, 114, 101, 46, 99, 111, 109, 112, 105, 108, 101, 6, 254, 8, 116, 101, 109, 112, 108, 97, 116, 101, 9, 13, 95, 115, 114, 101, 46, 116, 101, 109, 112, 108, 97, 116, 101, 6, 255, 11, 103, 101, 116, 99, 111, 100, 101, 115, 105, 122, 101, 9, 16, 95, 115, 114, 101, 46, 103, 101, 116, 99, 111, 100, 101, 115, 105, 122, 101, 6, 256, 13, 97, 115, 99, 105, 105, 95, 105, 115, 99, 97, 115, 101, 100, 9, 18, 95, 115, 114, 101, 46, 97, 115, 99, 105, 105, 95, 105, 115, 99, 97, 115, 101, 100, 6, 257, 15, 117, 110, 105, 99, 111, 100, 101, 95, 105, 115, 99, 97, 115, 101, 100, 9, 20, 95, 115, 114, 101, 46, 117, 110, 105, 99, 111, 100, 101, 95, 105, 115, 99, 97, 115, 101, 100, 6, 258, 13, 97, 115, 99, 105, 105, 95, 116, 111, 108, 111, 119, 101, 114, 9, 18, 95, 115, 114, 101, 46, 97, 115, 99, 105, 105, 95, 116, 111, 108, 111, 119, 101, 114, 6, 259, 15, 117, 110, 105, 99, 111, 100, 101, 95, 116, 111, 108, 111, 119, 101, 114, 9, 20, 95, 115, 114, 101, 46, 117, 110, 105, 99, 111, 100, 101, 95, 116, 111, 108, 111, 119, 101, 114, 6, 261, 5, 77, 65, 71, 73, 67, 4, 260, 0, 20230612, 6, 263, 8, 67, 79, 68, 69, 83, 73, 90, 69, 4, 262, 0, 4, 6, 265, 9, 77, 65, 88, 82, 69, 80, 69, 65, 84, 4, 264, 0, 4294967295, 6, 267, 9, 77, 65, 88, 71, 82, 79, 85, 80, 83, 4, 266, 0, 1073741823, 6, 269, 9, 99, 111, 112, 121, 114, 105, 103, 104, 116, 6, 268, 53, 32, 83, 82, 69, 32, 50, 46, 50, 46, 50, 32, 67, 111, 112, 121, 114, 105, 103, 104, 116, 32, 40, 99, 41, 32, 49, 57, 57, 55, 45, 50, 48, 48, 50, 32, 98, 121, 32, 83, 101, 99, 114, 101, 116, 32, 76, 97, 98, 115, 32, 65, 66, 32])) 0), (Value.bool true), (Value.bool false), (Value.str (S "_sre") 271)]) 0) (List.toArray []))
noncomputable def o19 (P : Params) : Obj := (Obj.mk (Value.type "code") (Option.none) (Data.fields (List.toArray [(Value.str (S "<module>") 277), (Value.str (S "<module>") 278), (Value.str (S "/claim/cut.py") 279), (Value.int 1 0), (Value.int 0 0), (Value.int 0 0), (Value.int 0 0), (Value.int 0 0), (Value.ref 28), (Value.bool false), (Value.int 276 0), (Value.ref 29), Value.none, Value.none, Value.none, Value.none, (Value.int 280 0), (Value.int 1 0), (Value.str (S "/claim/cut.py") 281)])) (List.toArray []))
noncomputable def o20 (P : Params) : Obj := (Obj.mk (Value.type "frame") (Option.none) Data.plain (List.toArray [(Option.some (Value.ref 30)), (Option.some (Value.ref 3)), (Option.some (Value.ref 3)), (Option.none), (Option.some (Value.str (S "__main__") 164)), (Option.none), (Option.some (Value.ref 0))]))
noncomputable def o21 (P : Params) : Obj := (Obj.mk (Value.type "dict") (Option.none) (Data.dict (List.toArray [(DictEntry.mk (PyData.keyHash P (S "__name__")) (Value.str (S "__name__") 165) (Value.str (S "cpy313.dis") 289)), (DictEntry.mk (PyData.keyHash P (S "__doc__")) (Value.str (S "__doc__") 166) Value.none), (DictEntry.mk (PyData.keyHash P (S "__package__")) (Value.str (S "__package__") 167) Value.none), (DictEntry.mk (PyData.keyHash P (S "__loader__")) (Value.str (S "__loader__") 168) (Value.builtin "__main__.__loader__#opaque")), (DictEntry.mk (PyData.keyHash P (S "__spec__")) (Value.str (S "__spec__") 169) Value.none), (DictEntry.mk (PyData.keyHash P (S "__annotations__")) (Value.str (S "__annotations__") 170) (Value.ref 6)), (DictEntry.mk (PyData.keyHash P (S "__builtins__")) (Value.str (S "__builtins__") 171) (Value.ref 4)), (DictEntry.mk (PyData.keyHash P (S "__file__")) (Value.str (S "__file__") 173) (Value.str (S "/claim/cut.py") 172)), (DictEntry.mk (PyData.keyHash P (S "__cached__")) (Value.str (S "__cached__") 174) Value.none), (DictEntry.mk (PyData.keyHash P (S "_sre")) (Value.str (S "_sre") 275) (Value.ref 12)), (DictEntry.mk (PyData.keyHash P (S "_wall")) (Value.str (S "_wall") 288) (Value.ref 38)), (DictEntry.mk (PyData.keyHash P (S "COMPILER_FLAG_NAMES")) (Value.str (S "COMPILER_FLAG_NAMES") 321) (Value.ref 39)), (DictEntry.mk (PyData.keyHash P (S "pretty_flags")) (Value.str (S "pretty_flags") 331) (Value.ref 46))]) 13) (List.toArray []))
noncomputable def o22 (P : Params) : Obj := (Obj.mk (Value.type "dict") (Option.none) (Data.dict (List.toArray [(DictEntry.mk 1 (Value.int 1 291) (Value.str (S "OPTIMIZED") 292)), (DictEntry.mk 2 (Value.int 2 293) (Value.str (S "NEWLOCALS") 294)), (DictEntry.mk 4 (Value.int 4 295) (Value.str (S "VARARGS") 296)), (DictEntry.mk 8 (Value.int 8 297) (Value.str (S "VARKEYWORDS") 298)), (DictEntry.mk 16 (Value.int 16 299) (Value.str (S "NESTED") 300)), (DictEntry.mk 32 (Value.int 32 301) (Value.str (S "GENERATOR") 302)), (DictEntry.mk 64 (Value.int 64 303) (Value.str (S "NOFREE") 304)), (DictEntry.mk 128 (Value.int 128 305) (Value.str (S "COROUTINE") 306)), (DictEntry.mk 256 (Value.int 256 307) (Value.str (S "ITERABLE_COROUTINE") 308)), (DictEntry.mk 512 (Value.int 512 309) (Value.str (S "ASYNC_GENERATOR") 310))]) 10) (List.toArray []))
noncomputable def o23 (P : Params) : Obj := (Obj.mk (Value.type "code") (Option.none) (Data.fields (List.toArray [(Value.str (S "_wall") 282), (Value.str (S "_wall") 283), (Value.str (S "/claim/cut.py") 284), (Value.int 2 0), (Value.int 1 0), (Value.int 0 0), (Value.int 0 0), (Value.int 3 0), (Value.ref 32), (Value.bool true), (Value.int 276 0), (Value.ref 33), Value.none, (Value.ref 34), (Value.ref 35), (Value.ref 36), (Value.int 286 0), (Value.int 2 0), (Value.str (S "/claim/cut.py") 287)])) (List.toArray []))
noncomputable def o24 (P : Params) : Obj := (Obj.mk Value.none (Option.none) (Data.fields (List.toArray [(Value.int 2 0), (Value.int 0 0), (Value.ref 37), (Value.int 7 0), (Value.int 0 0), (Value.ref 45)])) (List.toArray []))
noncomputable def o25 (P : Params) : Obj := (Obj.mk (Value.type "code") (Option.none) (Data.fields (List.toArray [(Value.str (S "pretty_flags") 322), (Value.str (S "pretty_flags") 323), (Value.str (S "/claim/cut.py") 324), (Value.int 7 0), (Value.int 1 0), (Value.int 0 0), (Value.int 0 0), (Value.int 3 0), (Value.ref 40), (Value.bool true), (Value.int 276 0), (Value.ref 41), Value.none, (Value.ref 42), (Value.ref 43), (Value.ref 44), (Value.int 329 0), (Value.int 7 0), (Value.str (S "/claim/cut.py") 330)])) (List.toArray []))
noncomputable def o26 (P : Params) : Obj := (Obj.mk Value.none (Option.none) (Data.func (fnd F__wall (S "_wall") 0 [] Value.none Value.none Value.none Value.none (Option.none) Value.none Value.none 0)) (List.toArray []))
noncomputable def o27 (P : Params) : Obj := (Obj.mk Value.none (Option.none) (Data.func (fnd F_pretty_flags (S "pretty_flags") 0 [] Value.none Value.none Value.none Value.none (Option.none) Value.none Value.none 0)) (List.toArray []))
noncomputable def o28 (P : Params) : Obj := (Obj.mk (Value.type "tuple") (Option.none) (Data.seq (List.toArray [(Value.str (S "k") 285)]) 0) (List.toArray []))
noncomputable def o29 (P : Params) : Obj := (Obj.mk (Value.type "tuple") (Option.none) (Data.seq (List.toArray [(Value.str (S "flags") 325), (Value.str (S "names") 326), (Value.str (S "i") 327), (Value.str (S "flag") 328)]) 0) (List.toArray []))
noncomputable def o30 (P : Params) : Obj := (Obj.mk (Value.type "function") (Option.none) (Data.func (fnd F__wall (S "_wall") 3 [] Value.none Value.none Value.none (Value.str (S "__main__") 164) (Option.none) (Value.ref 37) Value.none 0)) (List.toArray []))
noncomputable def o31 (P : Params) : Obj := (Obj.mk (Value.type "function") (Option.none) (Data.func (fnd F_pretty_flags (S "pretty_flags") 3 [] Value.none Value.none Value.none (Value.str (S "cpy313.dis") 289) (Option.none) (Value.ref 45) Value.none 0)) (List.toArray []))
noncomputable def o32 (P : Params) : Obj := (Obj.mk (Value.type "dict") (Option.none) (Data.dict (List.toArray [(DictEntry.mk (PyData.keyHash P (S "__name__")) (Value.str (S "__name__") 165) (Value.str (S "cpy313.email.header") 381)), (DictEntry.mk (PyData.keyHash P (S "__doc__")) (Value.str (S "__doc__") 166) Value.none), (DictEntry.mk (PyData.keyHash P (S "__package__")) (Value.str (S "__package__") 167) Value.none), (DictEntry.mk (PyData.keyHash P (S "__loader__")) (Value.str (S "__loader__") 168) (Value.builtin "__main__.__loader__#opaque")), (DictEntry.mk (PyData.keyHash P (S "__spec__")) (Value.str (S "__spec__") 169) Value.none), (DictEntry.mk (PyData.keyHash P (S "__annotations__")) (Value.str (S "__annotations__") 170) (Value.ref 6)), (DictEntry.mk (PyData.keyHash P (S "__builtins__")) (Value.str (S "__builtins__") 171) (Value.ref 4)), (DictEntry.mk (PyData.keyHash P (S "__file__")) (Value.str (S "__file__") 173) (Value.str (S "/claim/cut.py") 172)), (DictEntry.mk (PyData.keyHash P (S "__cached__")) (Value.str (S "__cached__") 174) Value.none), (DictEntry.mk (PyData.keyHash P (S "_sre")) (Value.str (S "_sre") 275) (Value.ref 12)), (DictEntry.mk (PyData.keyHash P (S "_wall")) (Value.str (S "_wall") 288) (Value.ref 38)), (DictEntry.mk (PyData.keyHash P (S "COMPILER_FLAG_NAMES")) (Value.str (S "COMPILER_FLAG_NAMES") 321) (Value.ref 39)), (DictEntry.mk (PyData.keyHash P (S "pretty_flags")) (Value.str (S "pretty_flags") 331) (Value.ref 46)), (DictEntry.mk (PyData.keyHash P (S "_Unknown")) (Value.str (S "_Unknown") 358) (Value.ref 63)), (DictEntry.mk (PyData.keyHash P (S "UNKNOWN")) (Value.str (S "UNKNOWN") 359) (Value.ref 69)), (DictEntry.mk (PyData.keyHash P (S "_get_name_info")) (Value.str (S "_get_name_info") 369) (Value.ref 76)), (DictEntry.mk (PyData.keyHash P (S "_NO_LINENO")) (Value.str (S "_NO_LINENO") 371) (Value.str (S "  --") 370)), (DictEntry.mk (PyData.keyHash P (S "_get_lineno_width")) (Value.str (S "_get_lineno_width") 380) (Value.ref 83)), (DictEntry.mk (PyData.keyHash P (S "EMPTYSTRING")) (Value.str (S "EMPTYSTRING") 384) (Value.str (S "") 383))]) 19) (List.toArray []))
noncomputable def o33 (P : Params) : Obj := (Obj.mk (Value.type "type") (Option.none) (Data.cls (ClassData.mk (S "_Unknown") [(Value.type "object")] [(Value.ref 63), (Value.type "object")] 62 (S "_Unknown") true [] [] false (Option.none) false)) (List.toArray [(Option.none), (Option.none), (Option.some (Value.str (S "_Unknown") 332)), (Option.some (Value.str (S "_Unknown") 340)), (Option.some (Value.builtin "object.__new__")), (Option.some (Value.bool true))]))
noncomputable def o34 (P : Params) : Obj := (Obj.mk (Value.type "tuple") (Option.none) (Data.seq (List.toArray [(Value.str (S "linestarts") 375), (Value.str (S "maxlineno") 376), (Value.str (S "lineno_width") 377)]) 0) (List.toArray []))
noncomputable def o35 (P : Params) : Obj := (Obj.mk (Value.type "builtin_function_or_method") (Option.none) (Data.fields (List.toArray [(Value.builtin "object.__init_subclass__"), (Value.ref 63)])) (List.toArray []))
noncomputable def o36 (P : Params) : Obj := (Obj.mk Value.none (Option.none) (Data.fields (List.toArray [(Value.int 21 0), (Value.int 4 0), (Value.ref 59)])) (List.toArray []))
noncomputable def o37 (P : Params) : Obj := (Obj.mk (Value.type "function") (Option.none) (Data.func (fnd F__get_lineno_width (S "_get_lineno_width") 3 [] Value.none Value.none Value.none (Value.str (S "cpy313.dis") 289) (Option.none) (Value.ref 82) Value.none 0)) (List.toArray []))
noncomputable def o38 (P : Params) : Obj := (Obj.mk (Value.type "code") (Option.none) (Data.fields (List.toArray [(Value.str (S "_get_name_info") 360), (Value.str (S "_get_name_info") 361), (Value.str (S "/claim/cut.py") 362), (Value.int 24 0), (Value.int 2 0), (Value.int 0 0), (Value.int 0 0), (Value.int 11 0), (Value.ref 70), (Value.bool true), (Value.int 276 0), (Value.ref 71), Value.none, (Value.ref 72), (Value.ref 73), (Value.ref 74), (Value.int 367 0), (Value.int 24 0), (Value.str (S "/claim/cut.py") 368)])) (List.toArray []))
noncomputable def o39 (P : Params) : Obj := (Obj.mk (Value.type "code") (Option.none) (Data.fields (List.toArray [(Value.str (S "__repr__") 344), (Value.str (S "_Unknown.__repr__") 345), (Value.str (S "/claim/cut.py") 346), (Value.int 21 0), (Value.int 1 0), (Value.int 0 0), (Value.int 0 0), (Value.int 3 0), (Value.ref 54), (Value.bool true), (Value.int 276 0), (Value.ref 55), Value.none, (Value.ref 56), (Value.ref 57), (Value.ref 58), (Value.int 348 0), (Value.int 21 0), (Value.str (S "/claim/cut.py") 349)])) (List.toArray []))
noncomputable def o40 (P : Params) : Obj := (Obj.mk (Value.type "getset_descriptor") (Option.none) (Data.fields (List.toArray [(Value.str (S "__weakref__") 354), (Value.ref 63), (Value.builtin "ExceptionGroup.__weakref__"), Value.none])) (List.toArray []))
noncomputable def o41 (P : Params) : Obj := (Obj.mk (Value.type "dict") (Option.none) (Data.dict (List.toArray [(DictEntry.mk (PyData.keyHash P (S "__module__")) (Value.str (S "__module__") 339) (Value.str (S "cpy313.dis") 289)), (DictEntry.mk (PyData.keyHash P (S "__qualname__")) (Value.str (S "__qualname__") 341) (Value.str (S "_Unknown") 340)), (DictEntry.mk (PyData.keyHash P (S "__firstlineno__")) (Value.str (S "__firstlineno__") 343) (Value.int 19 342)), (DictEntry.mk (PyData.keyHash P (S "__repr__")) (Value.str (S "__repr__") 350) (Value.ref 60)), (DictEntry.mk (PyData.keyHash P (S "__static_attributes__")) (Value.str (S "__static_attributes__") 351) (Value.ref 61))]) 5) (List.toArray []))
noncomputable def o42 (P : Params) : Obj := (Obj.mk Value.none (Option.none) (Data.func (fnd F__get_lineno_width (S "_get_lineno_width") 0 [] Value.none Value.none Value.none Value.none (Option.none) Value.none Value.none 0)) (List.toArray []))
noncomputable def o43 (P : Params) : Obj := (Obj.mk (Value.ref 63) (Option.some 68) Data.plain (List.toArray []))
noncomputable def o44 (P : Params) : Obj := (Obj.mk (Value.type "frame") (Option.none) Data.plain (List.toArray [(Option.some (Value.ref 52)), (Option.some (Value.ref 3)), (Option.some (Value.ref 49)), (Option.none), (Option.some (Value.str (S "cpy313.dis") 289)), (Option.none), (Option.some (Value.ref 0))]))
noncomputable def o45 (P : Params) : Obj := (Obj.mk Value.none (Option.none) (Data.fields (List.toArray [(Value.int 2 0), (Value.int 0 0), (Value.ref 37), (Value.int 7 0), (Value.int 0 0), (Value.ref 45), (Value.int 19 0), (Value.int 0 0), (Value.ref 52), (Value.int 24 0), (Value.int 0 0), (Value.ref 75), (Value.int 31 0), (Value.int 0 0), (Value.ref 82)])) (List.toArray []))
noncomputable def o46 (P : Params) : Obj := (Obj.mk (Value.type "getset_descriptor") (Option.none) (Data.fields (List.toArray [(Value.str (S "__dict__") 352), (Value.ref 63), (Value.builtin "function.__dict__"), (Value.builtin "function.__dict__#set")])) (List.toArray []))
noncomputable def o47 (P : Params) : Obj := (Obj.mk (Value.type "builtin_function_or_method") (Option.none) (Data.fields (List.toArray [(Value.builtin "type.__prepare__"), (Value.type "type")])) (List.toArray []))
noncomputable def o48 (P : Params) : Obj := (Obj.mk (Value.type "tuple") (Option.none) (Data.seq (List.toArray [(Value.str (S "name_index") 363), (Value.str (S "get_name") 364), (Value.str (S "extrainfo") 365), (Value.str (S "argval") 366)]) 0) (List.toArray []))
noncomputable def o49 (P : Params) : Obj := (Obj.mk (Value.type "tuple") (Option.none) (Data.seq (List.toArray [(Value.str (S "self") 347)]) 0) (List.toArray []))
noncomputable def o50 (P : Params) : Obj := (Obj.mk (Value.type "code") (Option.none) (Data.fields (List.toArray [(Value.str (S "_Unknown") 334), (Value.str (S "_Unknown") 335), (Value.str (S "/claim/cut.py") 336), (Value.int 19 0), (Value.int 0 0), (Value.int 0 0), (Value.int 0 0), (Value.int 0 0), (Value.ref 50), (Value.bool false), (Value.int 276 0), (Value.ref 51), Value.none, Value.none, Value.none, Value.none, (Value.int 337 0), (Value.int 19 0), (Value.str (S "/claim/cut.py") 338)])) (List.toArray []))
noncomputable def o51 (P : Params) : Obj := (Obj.mk (Value.type "function") (Option.none) (Data.func (fnd F__get_name_info (S "_get_name_info") 3 [] Value.none Value.none Value.none (Value.str (S "cpy313.dis") 289) (Option.none) (Value.ref 75) Value.none 0)) (List.toArray []))
noncomputable def o52 (P : Params) : Obj := (Obj.mk (Value.type "function") (Option.none) (Data.func (fnd F__Unknown___repr__ (S "_Unknown.__repr__") 3 [] Value.none Value.none Value.none (Value.str (S "cpy313.dis") 289) (Option.none) (Value.ref 59) Value.none 0)) (List.toArray []))
noncomputable def o53 (P : Params) : Obj := (Obj.mk (Value.type "super") (Option.none) (Data.fields (List.toArray [(Value.ref 63), (Value.ref 63), (Value.ref 63)])) (List.toArray []))
noncomputable def o54 (P : Params) : Obj := (Obj.mk (Value.type "code") (Option.none) (Data.fields (List.toArray [(Value.str (S "_get_lineno_width") 372), (Value.str (S "_get_lineno_width") 373), (Value.str (S "/claim/cut.py") 374), (Value.int 31 0), (Value.int 1 0), (Value.int 0 0), (Value.int 0 0), (Value.int 3 0), (Value.ref 77), (Value.bool true), (Value.int 276 0), (Value.ref 78), Value.none, (Value.ref 79), (Value.ref 80), (Value.ref 81), (Value.int 378 0), (Value.int 31 0), (Value.str (S "/claim/cut.py") 379)])) (List.toArray []))
noncomputable def o55 (P : Params) : Obj := (Obj.mk Value.none (Option.none) (Data.func (fnd F__get_name_info (S "_get_name_info") 0 [] Value.none Value.none Value.none Value.none (Option.none) Value.none Value.none 0)) (List.toArray []))
noncomputable def o56 (P : Params) : Obj := (Obj.mk Value.none (Option.none) (Data.func (fnd F__Unknown___repr__ (S "_Unknown.__repr__") 0 [] Value.none Value.none Value.none Value.none (Option.none) Value.none Value.none 0)) (List.toArray []))
noncomputable def o57 (P : Params) : Obj := (Obj.mk (Value.type "dict") (Option.none) (Data.dict (List.toArray [(DictEntry.mk (PyData.keyHash P (S "__module__")) (Value.str (S "__module__") 339) (Value.str (S "cpy313.dis") 289)), (DictEntry.mk (PyData.keyHash P (S "__firstlineno__")) (Value.str (S "__firstlineno__") 343) (Value.int 19 342)), (DictEntry.mk (PyData.keyHash P (S "__repr__")) (Value.str (S "__repr__") 350) (Value.ref 60)), (DictEntry.mk (PyData.keyHash P (S "__static_attributes__")) (Value.str (S "__static_attributes__") 351) (Value.ref 61)), (DictEntry.mk (PyData.keyHash P (S "__dict__")) (Value.str (S "__dict__") 353) (Value.ref 64)), (DictEntry.mk (PyData.keyHash P (S "__weakref__")) (Value.str (S "__weakref__") 355) (Value.ref 65)), (DictEntry.mk (PyData.keyHash P (S "__doc__")) (Value.str (S "__doc__") 356) Value.none)]) 4) (List.toArray []))
noncomputable def o58 (P : Params) : Obj := (Obj.mk (Value.type "dict") (Option.none) (Data.dict (List.toArray [(DictEntry.mk (PyData.keyHash P (S "__name__")) (Value.str (S "__name__") 165) (Value.str (S "cpy313.email.header") 381)), (DictEntry.mk (PyData.keyHash P (S "__doc__")) (Value.str (S "__doc__") 166) Value.none), (DictEntry.mk (PyData.keyHash P (S "__package__")) (Value.str (S "__package__") 167) Value.none), (DictEntry.mk (PyData.keyHash P (S "__loader__")) (Value.str (S "__loader__") 168) (Value.builtin "__main__.__loader__#opaque")), (DictEntry.mk (PyData.keyHash P (S "__spec__")) (Value.str (S "__spec__") 169) Value.none), (DictEntry.mk (PyData.keyHash P (S "__annotations__")) (Value.str (S "__annotations__") 170) (Value.ref 6)), (DictEntry.mk (PyData.keyHash P (S "__builtins__")) (Value.str (S "__builtins__") 171) (Value.ref 4)), (DictEntry.mk (PyData.keyHash P (S "__file__")) (Value.str (S "__file__") 173) (Value.str (S "/claim/cut.py") 172)), (DictEntry.mk (PyData.keyHash P (S "__cached__")) (Value.str (S "__cached__") 174) Value.none), (DictEntry.mk (PyData.keyHash P (S "_sre")) (Value.str (S "_sre") 275) (Value.ref 12)), (DictEntry.mk (PyData.keyHash P (S "_wall")) (Value.str (S "_wall") 288) (Value.ref 38)), (DictEntry.mk (PyData.keyHash P (S "COMPILER_FLAG_NAMES")) (Value.str (S "COMPILER_FLAG_NAMES") 321) (Value.ref 39)), (DictEntry.mk (PyData.keyHash P (S "pretty_flags")) (Value.str (S "pretty_flags") 331) (Value.ref 46)), (DictEntry.mk (PyData.keyHash P (S "_Unknown")) (Value.str (S "_Unknown") 358) (Value.ref 63)), (DictEntry.mk (PyData.keyHash P (S "UNKNOWN")) (Value.str (S "UNKNOWN") 359) (Value.ref 69)), (DictEntry.mk (PyData.keyHash P (S "_get_name_info")) (Value.str (S "_get_name_info") 369) (Value.ref 76)), (DictEntry.mk (PyData.keyHash P (S "_NO_LINENO")) (Value.str (S "_NO_LINENO") 371) (Value.str (S "  --") 370)), (DictEntry.mk (PyData.keyHash P (S "_get_lineno_width")) (Value.str (S "_get_lineno_width") 380) (Value.ref 83)), (DictEntry.mk (PyData.keyHash P (S "EMPTYSTRING")) (Value.str (S "EMPTYSTRING") 384) (Value.str (S "") 383)), (DictEntry.mk (PyData.keyHash P (S "_Accumulator")) (Value.str (S "_Accumulator") 479) (Value.ref 163))]) 20) (List.toArray []))
noncomputable def o59 (P : Params) : Obj := (Obj.mk (Value.type "code") (Option.none) (Data.fields (List.toArray [(Value.str (S "part_count") 462), (Value.str (S "_Accumulator.part_count") 463), (Value.str (S "/claim/cut.py") 464), (Value.int 72 0), (Value.int 1 0), (Value.int 0 0), (Value.int 0 0), (Value.int 3 0), (Value.ref 154), (Value.bool true), (Value.int 276 0), (Value.ref 155), Value.none, (Value.ref 156), (Value.ref 157), (Value.ref 158), (Value.int 467 0), (Value.int 72 0), (Value.str (S "/claim/cut.py") 468)])) (List.toArray []))
noncomputable def o60 (P : Params) : Obj := (Obj.mk Value.none (Option.none) (Data.func (fnd F__Accumulator_reset (S "_Accumulator.reset") 0 [] Value.none Value.none Value.none Value.none (Option.none) Value.none Value.none 0)) (List.toArray []))
noncomputable def o61 (P : Params) : Obj := (Obj.mk (Value.type "tuple") (Option.none) (Data.seq (List.toArray [(Value.str (S "self") 420), (Value.str (S "i") 421)]) 0) (List.toArray []))
noncomputable def o62 (P : Params) : Obj := (Obj.mk Value.none (Option.none) (Data.func (fnd F__Accumulator___str__ (S "_Accumulator.__str__") 0 [] Value.none Value.none Value.none Value.none (Option.none) Value.none Value.none 0)) (List.toArray []))
noncomputable def o63 (P : Params) : Obj := (Obj.mk (Value.type "tuple") (Option.none) (Data.seq (List.toArray [(Value.str (S "self") 410), (Value.str (S "fws") 411), (Value.str (S "string") 412)]) 0) (List.toArray []))
noncomputable def o64 (P : Params) : Obj := (Obj.mk (Value.type "builtin_function_or_method") (Option.none) (Data.fields (List.toArray [(Value.builtin "object.__init_subclass__"), (Value.ref 163)])) (List.toArray []))
noncomputable def o65 (P : Params) : Obj := (Obj.mk (Value.type "cell") (Option.none) (Data.cell (Option.some (Value.ref 163))) (List.toArray []))
noncomputable def o66 (P : Params) : Obj := (Obj.mk (Value.type "code") (Option.none) (Data.fields (List.toArray [(Value.str (S "is_onlyws") 455), (Value.str (S "_Accumulator.is_onlyws") 456), (Value.str (S "/claim/cut.py") 457), (Value.int 69 0), (Value.int 1 0), (Value.int 0 0), (Value.int 0 0), (Value.int 3 0), (Value.ref 146), (Value.bool true), (Value.int 276 0), (Value.ref 147), Value.none, (Value.ref 148), (Value.ref 149), (Value.ref 150), (Value.int 459 0), (Value.int 69 0), (Value.str (S "/claim/cut.py") 460)])) (List.toArray []))
noncomputable def o67 (P : Params) : Obj := (Obj.mk (Value.type "tuple") (Option.none) (Data.seq (List.toArray [(Value.str (S "self") 429)]) 0) (List.toArray []))
noncomputable def o68 (P : Params) : Obj := (Obj.mk (Value.type "code") (Option.none) (Data.fields (List.toArray [(Value.str (S "__init__") 398), (Value.str (S "_Accumulator.__init__") 399), (Value.str (S "/claim/cut.py") 400), (Value.int 45 0), (Value.int 2 0), (Value.int 0 0), (Value.int 0 0), (Value.int 3 0), (Value.ref 94), (Value.bool true), (Value.int 276 0), (Value.ref 95), Value.none, (Value.ref 96), (Value.ref 97), (Value.ref 98), (Value.int 404 0), (Value.int 45 0), (Value.str (S "/claim/cut.py") 405)])) (List.toArray []))
noncomputable def o69 (P : Params) : Obj := (Obj.mk (Value.type "type") (Option.none) (Data.cls (ClassData.mk (S "_Accumulator") [(Value.type "list")] [(Value.ref 163), (Value.type "list"), (Value.type "object")] 162 (S "_Accumulator") true [] [] false (Option.none) false)) (List.toArray [(Option.some (Value.ref 84)), (Option.none), (Option.some (Value.str (S "_Accumulator") 385)), (Option.some (Value.str (S "_Accumulator") 393)), (Option.some (Value.builtin "list.__new__")), (Option.some (Value.bool true))]))
noncomputable def o70 (P : Params) : Obj := (Obj.mk (Value.type "function") (Option.none) (Data.func (fnd F__Accumulator_pop_from (S "_Accumulator.pop_from") 3 [] (Value.ref 108) Value.none Value.none (Value.str (S "cpy313.email.header") 381) (Option.none) (Value.ref 114) Value.none 0)) (List.toArray []))
noncomputable def o71 (P : Params) : Obj := (Obj.mk (Value.type "function") (Option.none) (Data.func (fnd F__Accumulator_push (S "_Accumulator.push") 3 [] Value.none Value.none Value.none (Value.str (S "cpy313.email.header") 381) (Option.none) (Value.ref 106) Value.none 0)) (List.toArray []))
noncomputable def o72 (P : Params) : Obj := (Obj.mk (Value.type "frame") (Option.none) Data.plain (List.toArray [(Option.some (Value.ref 90)), (Option.some (Value.ref 3)), (Option.some (Value.ref 86)), (Option.none), (Option.some (Value.str (S "cpy313.email.header") 381)), (Option.none), (Option.some (Value.ref 0))]))
noncomputable def o73 (P : Params) : Obj := (Obj.mk (Value.type "function") (Option.none) (Data.func (fnd F__Accumulator_pop (S "_Accumulator.pop") 3 [((S "__class__"), 87)] Value.none Value.none Value.none (Value.str (S "cpy313.email.header") 381) (Option.none) (Value.ref 122) (Value.ref 116) 0)) (List.toArray []))
noncomputable def o74 (P : Params) : Obj := (Obj.mk (Value.type "code") (Option.none) (Data.fields (List.toArray [(Value.str (S "__len__") 433), (Value.str (S "_Accumulator.__len__") 434), (Value.str (S "/claim/cut.py") 435), (Value.int 60 0), (Value.int 1 0), (Value.int 0 0), (Value.int 0 0), (Value.int 3 0), (Value.ref 124), (Value.bool true), (Value.int 276 0), (Value.ref 125), Value.none, (Value.ref 126), (Value.ref 127), (Value.ref 128), (Value.int 437 0), (Value.int 60 0), (Value.str (S "/claim/cut.py") 438)])) (List.toArray []))
noncomputable def o75 (P : Params) : Obj := (Obj.mk (Value.type "tuple") (Option.none) (Data.seq (List.toArray [(Value.str (S "_initial_size") 470)]) 0) (List.toArray []))
noncomputable def o76 (P : Params) : Obj := (Obj.mk (Value.type "function") (Option.none) (Data.func (fnd F__Accumulator_reset (S "_Accumulator.reset") 3 [] (Value.ref 138) Value.none Value.none (Value.str (S "cpy313.email.header") 381) (Option.none) (Value.ref 144) Value.none 0)) (List.toArray []))
noncomputable def o77 (P : Params) : Obj := (Obj.mk Value.none (Option.none) (Data.func (fnd F__Accumulator_pop_from (S "_Accumulator.pop_from") 0 [] Value.none Value.none Value.none Value.none (Option.none) Value.none Value.none 0)) (List.toArray []))
noncomputable def o78 (P : Params) : Obj := (Obj.mk (Value.type "function") (Option.none) (Data.func (fnd F__Accumulator___str__ (S "_Accumulator.__str__") 3 [] Value.none Value.none Value.none (Value.str (S "cpy313.email.header") 381) (Option.none) (Value.ref 136) Value.none 0)) (List.toArray []))
noncomputable def o79 (P : Params) : Obj := (Obj.mk Value.none (Option.none) (Data.func (fnd F__Accumulator_push (S "_Accumulator.push") 0 [] Value.none Value.none Value.none Value.none (Option.none) Value.none Value.none 0)) (List.toArray []))
noncomputable def o80 (P : Params) : Obj := (Obj.mk Value.none (Option.none) (Data.fields (List.toArray [(Value.int 45 0), (Value.int 4 0), (Value.ref 99), (Value.int 49 0), (Value.int 4 0), (Value.ref 106), (Value.int 52 0), (Value.int 4 0), (Value.ref 114), (Value.int 55 0), (Value.int 4 0), (Value.ref 122), (Value.int 60 0), (Value.int 4 0), (Value.ref 129), (Value.int 63 0), (Value.int 4 0), (Value.ref 136), (Value.int 66 0), (Value.int 4 0), (Value.ref 144), (Value.int 69 0), (Value.int 4 0), (Value.ref 151), (Value.int 72 0), (Value.int 4 0), (Value.ref 159)])) (List.toArray []))
noncomputable def o81 (P : Params) : Obj := (Obj.mk (Value.type "tuple") (Option.none) (Data.seq (List.toArray [(Value.ref 87)]) 0) (List.toArray []))
noncomputable def o82 (P : Params) : Obj := (Obj.mk Value.none (Option.none) (Data.func (fnd F__Accumulator_pop (S "_Accumulator.pop") 0 [] Value.none Value.none Value.none Value.none (Option.none) Value.none Value.none 0)) (List.toArray []))
noncomputable def o83 (P : Params) : Obj := (Obj.mk (Value.type "tuple") (Option.none) (Data.seq (List.toArray [(Value.str (S "self") 443)]) 0) (List.toArray []))
noncomputable def o84 (P : Params) : Obj := (Obj.mk (Value.type "getset_descriptor") (Option.none) (Data.fields (List.toArray [(Value.str (S "__weakref__") 475), (Value.ref 163), (Value.builtin "ExceptionGroup.__weakref__"), Value.none])) (List.toArray []))
noncomputable def o85 (P : Params) : Obj := (Obj.mk (Value.type "tuple") (Option.none) (Data.seq (List.toArray [(Value.str (S "__class__") 428)]) 0) (List.toArray []))
noncomputable def o86 (P : Params) : Obj := (Obj.mk Value.none (Option.none) (Data.fields (List.toArray [(Value.int 2 0), (Value.int 0 0), (Value.ref 37), (Value.int 7 0), (Value.int 0 0), (Value.ref 45), (Value.int 19 0), (Value.int 0 0), (Value.ref 52), (Value.int 24 0), (Value.int 0 0), (Value.ref 75), (Value.int 31 0), (Value.int 0 0), (Value.ref 82), (Value.int 43 0), (Value.int 0 0), (Value.ref 90)])) (List.toArray []))
noncomputable def o87 (P : Params) : Obj := (Obj.mk (Value.type "tuple") (Option.none) (Data.seq (List.toArray [(Value.str (S "self") 450), (Value.str (S "startval") 451)]) 0) (List.toArray []))
noncomputable def o88 (P : Params) : Obj := (Obj.mk Value.none (Option.none) (Data.func (fnd F__Accumulator___len__ (S "_Accumulator.__len__") 0 [] Value.none Value.none Value.none Value.none (Option.none) Value.none Value.none 0)) (List.toArray []))
noncomputable def o89 (P : Params) : Obj := (Obj.mk (Value.type "tuple") (Option.none) (Data.seq (List.toArray [(Value.str (S "self") 402), (Value.str (S "initial_size") 403)]) 0) (List.toArray []))
noncomputable def o90 (P : Params) : Obj := (Obj.mk (Value.type "function") (Option.none) (Data.func (fnd F__Accumulator_part_count (S "_Accumulator.part_count") 3 [((S "__class__"), 87)] Value.none Value.none Value.none (Value.str (S "cpy313.email.header") 381) (Option.none) (Value.ref 159) (Value.ref 153) 0)) (List.toArray []))
noncomputable def o91 (P : Params) : Obj := (Obj.mk (Value.type "code") (Option.none) (Data.fields (List.toArray [(Value.str (S "reset") 447), (Value.str (S "_Accumulator.reset") 448), (Value.str (S "/claim/cut.py") 449), (Value.int 66 0), (Value.int 2 0), (Value.int 0 0), (Value.int 0 0), (Value.int 3 0), (Value.ref 139), (Value.bool true), (Value.int 276 0), (Value.ref 140), Value.none, (Value.ref 141), (Value.ref 142), (Value.ref 143), (Value.int 452 0), (Value.int 66 0), (Value.str (S "/claim/cut.py") 453)])) (List.toArray []))
noncomputable def o92 (P : Params) : Obj := (Obj.mk (Value.type "code") (Option.none) (Data.fields (List.toArray [(Value.str (S "__str__") 440), (Value.str (S "_Accumulator.__str__") 441), (Value.str (S "/claim/cut.py") 442), (Value.int 63 0), (Value.int 1 0), (Value.int 0 0), (Value.int 0 0), (Value.int 3 0), (Value.ref 131), (Value.bool true), (Value.int 276 0), (Value.ref 132), Value.none, (Value.ref 133), (Value.ref 134), (Value.ref 135), (Value.int 444 0), (Value.int 63 0), (Value.str (S "/claim/cut.py") 445)])) (List.toArray []))
noncomputable def o93 (P : Params) : Obj := (Obj.mk (Value.type "function") (Option.none) (Data.func (fnd F__Accumulator_is_onlyws (S "_Accumulator.is_onlyws") 3 [] Value.none Value.none Value.none (Value.str (S "cpy313.email.header") 381) (Option.none) (Value.ref 151) Value.none 0)) (List.toArray []))
noncomputable def o94 (P : Params) : Obj := (Obj.mk (Value.type "function") (Option.none) (Data.func (fnd F__Accumulator___init__ (S "_Accumulator.__init__") 3 [((S "__class__"), 87)] (Value.ref 92) Value.none Value.none (Value.str (S "cpy313.email.header") 381) (Option.none) (Value.ref 99) (Value.ref 93) 0)) (List.toArray []))
noncomputable def o95 (P : Params) : Obj := (Obj.mk (Value.type "getset_descriptor") (Option.none) (Data.fields (List.toArray [(Value.str (S "__dict__") 473), (Value.ref 163), (Value.builtin "function.__dict__"), (Value.builtin "function.__dict__#set")])) (List.toArray []))
noncomputable def o96 (P : Params) : Obj := (Obj.mk (Value.type "tuple") (Option.none) (Data.seq (List.toArray [(Value.type "list")]) 0) (List.toArray []))
noncomputable def o97 (P : Params) : Obj := (Obj.mk (Value.type "tuple") (Option.none) (Data.seq (List.toArray [(Value.str (S "self") 458)]) 0) (List.toArray []))
noncomputable def o98 (P : Params) : Obj := (Obj.mk (Value.type "tuple") (Option.none) (Data.seq (List.toArray [(Value.int 0 416)]) 0) (List.toArray []))
noncomputable def o99 (P : Params) : Obj := (Obj.mk (Value.type "tuple") (Option.none) (Data.seq (List.toArray [(Value.int 0 397)]) 0) (List.toArray []))
noncomputable def o100 (P : Params) : Obj := (Obj.mk (Value.type "tuple") (Option.none) (Data.seq (List.toArray [(Value.str (S "self") 466)]) 0) (List.toArray []))
noncomputable def o101 (P : Params) : Obj := (Obj.mk (Value.type "function") (Option.none) (Data.func (fnd F__Accumulator___len__ (S "_Accumulator.__len__") 3 [] Value.none Value.none Value.none (Value.str (S "cpy313.email.header") 381) (Option.none) (Value.ref 129) Value.none 0)) (List.toArray []))
noncomputable def o102 (P : Params) : Obj := (Obj.mk Value.none (Option.none) (Data.func (fnd F__Accumulator___init__ (S "_Accumulator.__init__") 0 [] Value.none Value.none Value.none Value.none (Option.none) Value.none Value.none 0)) (List.toArray []))
noncomputable def o103 (P : Params) : Obj := (Obj.mk (Value.type "dict") (Option.none) (Data.dict (List.toArray [(DictEntry.mk (PyData.keyHash P (S "__module__")) (Value.str (S "__module__") 392) (Value.str (S "cpy313.email.header") 381)), (DictEntry.mk (PyData.keyHash P (S "__firstlineno__")) (Value.str (S "__firstlineno__") 396) (Value.int 43 395)), (DictEntry.mk (PyData.keyHash P (S "__init__")) (Value.str (S "__init__") 406) (Value.ref 100)), (DictEntry.mk (PyData.keyHash P (S "push")) (Value.str (S "push") 415) (Value.ref 107)), (DictEntry.mk (PyData.keyHash P (S "pop_from")) (Value.str (S "pop_from") 424) (Value.ref 115)), (DictEntry.mk (PyData.keyHash P (S "pop")) (Value.str (S "pop") 432) (Value.ref 123)), (DictEntry.mk (PyData.keyHash P (S "__len__")) (Value.str (S "__len__") 439) (Value.ref 130)), (DictEntry.mk (PyData.keyHash P (S "__str__")) (Value.str (S "__str__") 446) (Value.ref 137)), (DictEntry.mk (PyData.keyHash P (S "reset")) (Value.str (S "reset") 454) (Value.ref 145)), (DictEntry.mk (PyData.keyHash P (S "is_onlyws")) (Value.str (S "is_onlyws") 461) (Value.ref 152)), (DictEntry.mk (PyData.keyHash P (S "part_count")) (Value.str (S "part_count") 469) (Value.ref 160)), (DictEntry.mk (PyData.keyHash P (S "__static_attributes__")) (Value.str (S "__static_attributes__") 471) (Value.ref 161)), (DictEntry.mk (PyData.keyHash P (S "__dict__")) (Value.str (S "__dict__") 474) (Value.ref 164)), (DictEntry.mk (PyData.keyHash P (S "__weakref__")) (Value.str (S "__weakref__") 476) (Value.ref 165)), (DictEntry.mk (PyData.keyHash P (S "__doc__")) (Value.str (S "__doc__") 477) Value.none)]) 5) (List.toArray []))
noncomputable def o104 (P : Params) : Obj := (Obj.mk (Value.type "code") (Option.none) (Data.fields (List.toArray [(Value.str (S "pop_from") 417), (Value.str (S "_Accumulator.pop_from") 418), (Value.str (S "/claim/cut.py") 419), (Value.int 52 0), (Value.int 2 0), (Value.int 0 0), (Value.int 0 0), (Value.int 3 0), (Value.ref 109), (Value.bool true), (Value.int 276 0), (Value.ref 110), Value.none, (Value.ref 111), (Value.ref 112), (Value.ref 113), (Value.int 422 0), (Value.int 52 0), (Value.str (S "/claim/cut.py") 423)])) (List.toArray []))
noncomputable def o105 (P : Params) : Obj := (Obj.mk (Value.type "tuple") (Option.none) (Data.seq (List.toArray [Value.none]) 0) (List.toArray []))
noncomputable def o106 (P : Params) : Obj := (Obj.mk (Value.type "code") (Option.none) (Data.fields (List.toArray [(Value.str (S "push") 407), (Value.str (S "_Accumulator.push") 408), (Value.str (S "/claim/cut.py") 409), (Value.int 49 0), (Value.int 3 0), (Value.int 0 0), (Value.int 0 0), (Value.int 3 0), (Value.ref 101), (Value.bool true), (Value.int 276 0), (Value.ref 102), Value.none, (Value.ref 103), (Value.ref 104), (Value.ref 105), (Value.int 413 0), (Value.int 49 0), (Value.str (S "/claim/cut.py") 414)])) (List.toArray []))
noncomputable def o107 (P : Params) : Obj := (Obj.mk (Value.type "code") (Option.none) (Data.fields (List.toArray [(Value.str (S "_Accumulator") 387), (Value.str (S "_Accumulator") 388), (Value.str (S "/claim/cut.py") 389), (Value.int 43 0), (Value.int 0 0), (Value.int 0 0), (Value.int 0 0), (Value.int 0 0), (Value.ref 88), (Value.bool false), (Value.int 276 0), (Value.ref 89), Value.none, Value.none, Value.none, Value.none, (Value.int 390 0), (Value.int 43 0), (Value.str (S "/claim/cut.py") 391)])) (List.toArray []))
noncomputable def o108 (P : Params) : Obj := (Obj.mk (Value.type "tuple") (Option.none) (Data.seq (List.toArray [(Value.str (S "__class__") 465)]) 0) (List.toArray []))
noncomputable def o109 (P : Params) : Obj := (Obj.mk (Value.type "code") (Option.none) (Data.fields (List.toArray [(Value.str (S "pop") 425), (Value.str (S "_Accumulator.pop") 426), (Value.str (S "/claim/cut.py") 427), (Value.int 55 0), (Value.int 1 0), (Value.int 0 0), (Value.int 0 0), (Value.int 3 0), (Value.ref 117), (Value.bool true), (Value.int 276 0), (Value.ref 118), Value.none, (Value.ref 119), (Value.ref 120), (Value.ref 121), (Value.int 430 0), (Value.int 55 0), (Value.str (S "/claim/cut.py") 431)])) (List.toArray []))
noncomputable def o110 (P : Params) : Obj := (Obj.mk (Value.type "super") (Option.none) (Data.fields (List.toArray [(Value.ref 163), (Value.ref 163), (Value.ref 163)])) (List.toArray []))
noncomputable def o111 (P : Params) : Obj := (Obj.mk (Value.type "dict") (Option.none) (Data.dict (List.toArray [(DictEntry.mk (PyData.keyHash P (S "__module__")) (Value.str (S "__module__") 392) (Value.str (S "cpy313.email.header") 381)), (DictEntry.mk (PyData.keyHash P (S "__qualname__")) (Value.str (S "__qualname__") 394) (Value.str (S "_Accumulator") 393)), (DictEntry.mk (PyData.keyHash P (S "__firstlineno__")) (Value.str (S "__firstlineno__") 396) (Value.int 43 395)), (DictEntry.mk (PyData.keyHash P (S "__init__")) (Value.str (S "__init__") 406) (Value.ref 100)), (DictEntry.mk (PyData.keyHash P (S "push")) (Value.str (S "push") 415) (Value.ref 107)), (DictEntry.mk (PyData.keyHash P (S "pop_from")) (Value.str (S "pop_from") 424) (Value.ref 115)), (DictEntry.mk (PyData.keyHash P (S "pop")) (Value.str (S "pop") 432) (Value.ref 123)), (DictEntry.mk (PyData.keyHash P (S "__len__")) (Value.str (S "__len__") 439) (Value.ref 130)), (DictEntry.mk (PyData.keyHash P (S "__str__")) (Value.str (S "__str__") 446) (Value.ref 137)), (DictEntry.mk (PyData.keyHash P (S "reset")) (Value.str (S "reset") 454) (Value.ref 145)), (DictEntry.mk (PyData.keyHash P (S "is_onlyws")) (Value.str (S "is_onlyws") 461) (Value.ref 152)), (DictEntry.mk (PyData.keyHash P (S "part_count")) (Value.str (S "part_count") 469) (Value.ref 160)), (DictEntry.mk (PyData.keyHash P (S "__static_attributes__")) (Value.str (S "__static_attributes__") 471) (Value.ref 161)), (DictEntry.mk (PyData.keyHash P (S "__classcell__")) (Value.str (S "__classcell__") 472) (Value.ref 87))]) 14) (List.toArray []))
noncomputable def o112 (P : Params) : Obj := (Obj.mk Value.none (Option.none) (Data.func (fnd F__Accumulator_is_onlyws (S "_Accumulator.is_onlyws") 0 [] Value.none Value.none Value.none Value.none (Option.none) Value.none Value.none 0)) (List.toArray []))
noncomputable def o113 (P : Params) : Obj := (Obj.mk (Value.type "tuple") (Option.none) (Data.seq (List.toArray [(Value.str (S "__class__") 401)]) 0) (List.toArray []))
noncomputable def o114 (P : Params) : Obj := (Obj.mk Value.none (Option.none) (Data.func (fnd F__Accumulator_part_count (S "_Accumulator.part_count") 0 [] Value.none Value.none Value.none Value.none (Option.none) Value.none Value.none 0)) (List.toArray []))
noncomputable def o115 (P : Params) : Obj := (Obj.mk (Value.type "tuple") (Option.none) (Data.seq (List.toArray [(Value.str (S "self") 436)]) 0) (List.toArray []))
noncomputable def o116 (P : Params) : Obj := (Obj.mk (Value.type "dict") (Option.none) (Data.dict (List.toArray [(DictEntry.mk (PyData.keyHash P (S "__name__")) (Value.str (S "__name__") 165) (Value.str (S "cpy313.wsgiref.headers") 480)), (DictEntry.mk (PyData.keyHash P (S "__doc__")) (Value.str (S "__doc__") 166) Value.none), (DictEntry.mk (PyData.keyHash P (S "__package__")) (Value.str (S "__package__") 167) Value.none), (DictEntry.mk (PyData.keyHash P (S "__loader__")) (Value.str (S "__loader__") 168) (Value.builtin "__main__.__loader__#opaque")), (DictEntry.mk (PyData.keyHash P (S "__spec__")) (Value.str (S "__spec__") 169) Value.none), (DictEntry.mk (PyData.keyHash P (S "__annotations__")) (Value.str (S "__annotations__") 170) (Value.ref 6)), (DictEntry.mk (PyData.keyHash P (S "__builtins__")) (Value.str (S "__builtins__") 171) (Value.ref 4)), (DictEntry.mk (PyData.keyHash P (S "__file__")) (Value.str (S "__file__") 173) (Value.str (S "/claim/cut.py") 172)), (DictEntry.mk (PyData.keyHash P (S "__cached__")) (Value.str (S "__cached__") 174) Value.none), (DictEntry.mk (PyData.keyHash P (S "_sre")) (Value.str (S "_sre") 275) (Value.ref 12)), (DictEntry.mk (PyData.keyHash P (S "_wall")) (Value.str (S "_wall") 288) (Value.ref 38)), (DictEntry.mk (PyData.keyHash P (S "COMPILER_FLAG_NAMES")) (Value.str (S "COMPILER_FLAG_NAMES") 321) (Value.ref 39)), (DictEntry.mk (PyData.keyHash P (S "pretty_flags")) (Value.str (S "pretty_flags") 331) (Value.ref 46)), (DictEntry.mk (PyData.keyHash P (S "_Unknown")) (Value.str (S "_Unknown") 358) (Value.ref 63)), (DictEntry.mk (PyData.keyHash P (S "UNKNOWN")) (Value.str (S "UNKNOWN") 359) (Value.ref 69)), (DictEntry.mk (PyData.keyHash P (S "_get_name_info")) (Value.str (S "_get_name_info") 369) (Value.ref 76)), (DictEntry.mk (PyData.keyHash P (S "_NO_LINENO")) (Value.str (S "_NO_LINENO") 371) (Value.str (S "  --") 370)), (DictEntry.mk (PyData.keyHash P (S "_get_lineno_width")) (Value.str (S "_get_lineno_width") 380) (Value.ref 83)), (DictEntry.mk (PyData.keyHash P (S "EMPTYSTRING")) (Value.str (S "EMPTYSTRING") 384) (Value.str (S "") 383)), (DictEntry.mk (PyData.keyHash P (S "_Accumulator")) (Value.str (S "_Accumulator") 479) (Value.ref 163)), (DictEntry.mk (PyData.keyHash P (S "_name_disallowed_re")) (Value.str (S "_name_disallowed_re") 507) (Value.ref 172)), (DictEntry.mk (PyData.keyHash P (S "_value_disallowed_re")) (Value.str (S "_value_disallowed_re") 541) (Value.ref 177))]) 22) (List.toArray []))
noncomputable def o117 (P : Params) : Obj := (Obj.mk (Value.type "tuple") (Option.none) (Data.seq (List.toArray [(Value.int 14 0), (Value.int 10 0), (Value.int 4 0), (Value.int 1 0), (Value.int 1 0), (Value.int 22 0), (Value.int 0 0), (Value.int 31 0), (Value.int 16 0), (Value.int 127 0), (Value.int 0 0), (Value.int 13 0), (Value.int 7 0), (Value.int 22 0), (Value.int 0 0), (Value.int 31 0), (Value.int 16 0), (Value.int 127 0), (Value.int 0 0), (Value.int 1 0)]) 0) (List.toArray []))
noncomputable def o118 (P : Params) : Obj := (Obj.mk (Value.type "re.Pattern") (Option.none) (Data.fields (List.toArray [(Value.str (S "[\\x00-\\x08\\x0A-\\x1F\\x7F]") 509), (Value.int 32 540), (Value.int 0 0), Value.none, Value.none, (Value.ref 176), (Value.int 0 0)])) (List.toArray []))
noncomputable def o119 (P : Params) : Obj := (Obj.mk (Value.type "list") (Option.none) (Data.seq (List.toArray [(Value.int 14 511), (Value.int 14 512), (Value.int 4 513), (Value.int 1 514), (Value.int 1 515), (Value.int 9 516), (Value.int 4294966783 517), (Value.int 0 518), (Value.int 0 519), (Value.int 2147483648 520), (Value.int 0 521), (Value.int 0 522), (Value.int 0 523), (Value.int 0 524), (Value.int 0 525), (Value.int 13 526), (Value.int 11 527), (Value.int 9 528), (Value.int 4294966783 529), (Value.int 0 530), (Value.int 0 531), (Value.int 2147483648 532), (Value.int 0 533), (Value.int 0 534), (Value.int 0 535), (Value.int 0 536), (Value.int 0 537), (Value.int 1 538)]) 0) (List.toArray []))
noncomputable def o120 (P : Params) : Obj := (Obj.mk (Value.type "tuple") (Option.none) (Data.seq (List.toArray [(Value.int 14 0), (Value.int 14 0), (Value.int 4 0), (Value.int 1 0), (Value.int 1 0), (Value.int 9 0), (Value.int 4294966783 0), (Value.int 0 0), (Value.int 0 0), (Value.int 2147483648 0), (Value.int 0 0), (Value.int 0 0), (Value.int 0 0), (Value.int 0 0), (Value.int 0 0), (Value.int 13 0), (Value.int 11 0), (Value.int 9 0), (Value.int 4294966783 0), (Value.int 0 0), (Value.int 0 0), (Value.int 2147483648 0), (Value.int 0 0), (Value.int 0 0), (Value.int 0 0), (Value.int 0 0), (Value.int 0 0), (Value.int 1 0)]) 0) (List.toArray []))
noncomputable def o121 (P : Params) : Obj := (Obj.mk (Value.type "list") (Option.none) (Data.seq (List.toArray [(Value.int 14 485), (Value.int 10 486), (Value.int 4 487), (Value.int 1 488), (Value.int 1 489), (Value.int 22 490), (Value.int 0 491), (Value.int 31 492), (Value.int 16 493), (Value.int 127 494), (Value.int 0 495), (Value.int 13 496), (Value.int 7 497), (Value.int 22 498), (Value.int 0 499), (Value.int 31 500), (Value.int 16 501), (Value.int 127 502), (Value.int 0 503), (Value.int 1 504)]) 0) (List.toArray []))
noncomputable def o122 (P : Params) : Obj := (Obj.mk (Value.type "re.Pattern") (Option.none) (Data.fields (List.toArray [(Value.str (S "[\\x00-\\x1F\\x7F]") 483), (Value.int 32 506), (Value.int 0 0), Value.none, Value.none, (Value.ref 171), (Value.int 0 0)])) (List.toArray []))
noncomputable def o123 (P : Params) : Obj := (Obj.mk (Value.type "dict") (Option.none) (Data.dict (List.toArray [(DictEntry.mk (PyData.keyHash P (S "__name__")) (Value.str (S "__name__") 165) (Value.str (S "cpy313.wsgiref.headers") 480)), (DictEntry.mk (PyData.keyHash P (S "__doc__")) (Value.str (S "__doc__") 166) Value.none), (DictEntry.mk (PyData.keyHash P (S "__package__")) (Value.str (S "__package__") 167) Value.none), (DictEntry.mk (PyData.keyHash P (S "__loader__")) (Value.str (S "__loader__") 168) (Value.builtin "__main__.__loader__#opaque")), (DictEntry.mk (PyData.keyHash P (S "__spec__")) (Value.str (S "__spec__") 169) Value.none), (DictEntry.mk (PyData.keyHash P (S "__annotations__")) (Value.str (S "__annotations__") 170) (Value.ref 6)), (DictEntry.mk (PyData.keyHash P (S "__builtins__")) (Value.str (S "__builtins__") 171) (Value.ref 4)), (DictEntry.mk (PyData.keyHash P (S "__file__")) (Value.str (S "__file__") 173) (Value.str (S "/claim/cut.py") 172)), (DictEntry.mk (PyData.keyHash P (S "__cached__")) (Value.str (S "__cached__") 174) Value.none), (DictEntry.mk (PyData.keyHash P (S "_sre")) (Value.str (S "_sre") 275) (Value.ref 12)), (DictEntry.mk (PyData.keyHash P (S "_wall")) (Value.str (S "_wall") 288) (Value.ref 38)), (DictEntry.mk (PyData.keyHash P (S "COMPILER_FLAG_NAMES")) (Value.str (S "COMPILER_FLAG_NAMES") 321) (Value.ref 39)), (DictEntry.mk (PyData.keyHash P (S "pretty_flags")) (Value.str (S "pretty_flags") 331) (Value.ref 46)), (DictEntry.mk (PyData.keyHash P (S "_Unknown")) (Value.str (S "_Unknown") 358) (Value.ref 63)), (DictEntry.mk (PyData.keyHash P (S "UNKNOWN")) (Value.str (S "UNKNOWN") 359) (Value.ref 69)), (DictEntry.mk (PyData.keyHash P (S "_get_name_info")) (Value.str (S "_get_name_info") 369) (Value.ref 76)), (DictEntry.mk (PyData.keyHash P (S "_NO_LINENO")) (Value.str (S "_NO_LINENO") 371) (Value.str (S "  --") 370)), (DictEntry.mk (PyData.keyHash P (S "_get_lineno_width")) (Value.str (S "_get_lineno_width") 380) (Value.ref 83)), (DictEntry.mk (PyData.keyHash P (S "EMPTYSTRING")) (Value.str (S "EMPTYSTRING") 384) (Value.str (S "") 383)), (DictEntry.mk (PyData.keyHash P (S "_Accumulator")) (Value.str (S "_Accumulator") 479) (Value.ref 163)), (DictEntry.mk (PyData.keyHash P (S "_name_disallowed_re")) (Value.str (S "_name_disallowed_re") 507) (Value.ref 172)), (DictEntry.mk (PyData.keyHash P (S "_value_disallowed_re")) (Value.str (S "_value_disallowed_re") 541) (Value.ref 177)), (DictEntry.mk (PyData.keyHash P (S "Headers")) (Value.str (S "Headers") 698) (Value.ref 300))]) 23) (List.toArray []))
noncomputable def o124 (P : Params) : Obj := (Obj.mk Value.none (Option.none) (Data.func (fnd F_Headers_values (S "Headers.values") 0 [] Value.none Value.none Value.none Value.none (Option.none) Value.none Value.none 0)) (List.toArray []))
noncomputable def o125 (P : Params) : Obj := (Obj.mk (Value.type "code") (Option.none) (Data.fields (List.toArray [(Value.str (S "__init__") 554), (Value.str (S "Headers.__init__") 555), (Value.str (S "/claim/cut.py") 556), (Value.int 79 0), (Value.int 2 0), (Value.int 0 0), (Value.int 0 0), (Value.int 3 0), (Value.ref 186), (Value.bool true), (Value.int 276 0), (Value.ref 187), Value.none, (Value.ref 188), (Value.ref 189), (Value.ref 190), (Value.int 561 0), (Value.int 79 0), (Value.str (S "/claim/cut.py") 562)])) (List.toArray []))
noncomputable def o126 (P : Params) : Obj := (Obj.mk Value.none (Option.none) (Data.func (fnd F_Headers___getitem__ (S "Headers.__getitem__") 0 [] Value.none Value.none Value.none Value.none (Option.none) Value.none Value.none 0)) (List.toArray []))
noncomputable def o127 (P : Params) : Obj := (Obj.mk (Value.type "function") (Option.none) (Data.func (fnd F_Headers___repr__ (S "Headers.__repr__") 3 [] Value.none Value.none Value.none (Value.str (S "cpy313.wsgiref.headers") 480) (Option.none) (Value.ref 270) Value.none 0)) (List.toArray []))
noncomputable def o128 (P : Params) : Obj := (Obj.mk (Value.type "super") (Option.none) (Data.fields (List.toArray [(Value.ref 300), (Value.ref 300), (Value.ref 300)])) (List.toArray []))
noncomputable def o129 (P : Params) : Obj := (Obj.mk (Value.type "function") (Option.none) (Data.func (fnd F_Headers_get_all (S "Headers.get_all") 3 [] Value.none Value.none Value.none (Value.str (S "cpy313.wsgiref.headers") 480) (Option.none) (Value.ref 238) Value.none 0)) (List.toArray []))
noncomputable def o130 (P : Params) : Obj := (Obj.mk (Value.type "code") (Option.none) (Data.fields (List.toArray [(Value.str (S "items") 643), (Value.str (S "Headers.items") 644), (Value.str (S "/claim/cut.py") 645), (Value.int 130 0), (Value.int 1 0), (Value.int 0 0), (Value.int 0 0), (Value.int 3 0), (Value.ref 258), (Value.bool true), (Value.int 276 0), (Value.ref 259), Value.none, (Value.ref 260), (Value.ref 261), (Value.ref 262), (Value.int 647 0), (Value.int 130 0), (Value.str (S "/claim/cut.py") 648)])) (List.toArray []))
noncomputable def o131 (P : Params) : Obj := (Obj.mk (Value.type "function") (Option.none) (Data.func (fnd F_Headers__convert_string_type (S "Headers._convert_string_type") 3 [] Value.none Value.none Value.none (Value.str (S "cpy313.wsgiref.headers") 480) (Option.none) (Value.ref 198) Value.none 0)) (List.toArray []))
noncomputable def o132 (P : Params) : Obj := (Obj.mk Value.none (Option.none) (Data.func (fnd F_Headers_add_header (S "Headers.add_header") 0 [] Value.none Value.none Value.none Value.none (Option.none) Value.none Value.none 0)) (List.toArray []))
noncomputable def o133 (P : Params) : Obj := (Obj.mk (Value.type "code") (Option.none) (Data.fields (List.toArray [(Value.str (S "__contains__") 604), (Value.str (S "Headers.__contains__") 605), (Value.str (S "/claim/cut.py") 606), (Value.int 111 0), (Value.int 2 0), (Value.int 0 0), (Value.int 0 0), (Value.int 3 0), (Value.ref 226), (Value.bool true), (Value.int 276 0), (Value.ref 227), Value.none, (Value.ref 228), (Value.ref 229), (Value.ref 230), (Value.int 609 0), (Value.int 111 0), (Value.str (S "/claim/cut.py") 610)])) (List.toArray []))
noncomputable def o134 (P : Params) : Obj := (Obj.mk (Value.type "tuple") (Option.none) (Data.seq (List.toArray [(Value.str (S "self") 666)]) 0) (List.toArray []))
noncomputable def o135 (P : Params) : Obj := (Obj.mk (Value.type "code") (Option.none) (Data.fields (List.toArray [(Value.str (S "Headers") 544), (Value.str (S "Headers") 545), (Value.str (S "/claim/cut.py") 546), (Value.int 77 0), (Value.int 0 0), (Value.int 0 0), (Value.int 0 0), (Value.int 0 0), (Value.ref 181), (Value.bool false), (Value.int 276 0), (Value.ref 182), Value.none, Value.none, Value.none, Value.none, (Value.int 547 0), (Value.int 77 0), (Value.str (S "/claim/cut.py") 548)])) (List.toArray []))
noncomputable def o136 (P : Params) : Obj := (Obj.mk (Value.type "function") (Option.none) (Data.func (fnd F_Headers_get (S "Headers.get") 3 [] (Value.ref 240) Value.none Value.none (Value.str (S "cpy313.wsgiref.headers") 480) (Option.none) (Value.ref 246) Value.none 0)) (List.toArray []))
noncomputable def o137 (P : Params) : Obj := (Obj.mk (Value.type "tuple") (Option.none) (Data.seq (List.toArray [(Value.str (S "self") 567), (Value.str (S "value") 568), (Value.str (S "name") 569), (Value.str (S "regex") 570)]) 0) (List.toArray []))
noncomputable def o138 (P : Params) : Obj := (Obj.mk (Value.type "code") (Option.none) (Data.fields (List.toArray [(Value.str (S "__str__") 657), (Value.str (S "Headers.__str__") 658), (Value.str (S "/claim/cut.py") 659), (Value.int 136 0), (Value.int 1 0), (Value.int 0 0), (Value.int 0 0), (Value.int 3 0), (Value.ref 272), (Value.bool true), (Value.int 276 0), (Value.ref 273), Value.none, Value.none, Value.none, (Value.ref 274), (Value.int 660 0), (Value.int 136 0), (Value.str (S "/claim/cut.py") 661)])) (List.toArray []))
noncomputable def o139 (P : Params) : Obj := (Obj.mk Value.none (Option.none) (Data.func (fnd F_Headers___setitem__ (S "Headers.__setitem__") 0 [] Value.none Value.none Value.none Value.none (Option.none) Value.none Value.none 0)) (List.toArray []))
noncomputable def o140 (P : Params) : Obj := (Obj.mk (Value.type "tuple") (Option.none) (Data.seq (List.toArray [(Value.str (S "self") 623), (Value.str (S "name") 624), (Value.str (S "default") 625), (Value.str (S "k") 626), (Value.str (S "v") 627)]) 0) (List.toArray []))
noncomputable def o141 (P : Params) : Obj := (Obj.mk (Value.type "tuple") (Option.none) (Data.seq (List.toArray [(Value.str (S "self") 653)]) 0) (List.toArray []))
noncomputable def o142 (P : Params) : Obj := (Obj.mk (Value.type "dict") (Option.none) (Data.dict (List.toArray [(DictEntry.mk (PyData.keyHash P (S "__module__")) (Value.str (S "__module__") 549) (Value.str (S "cpy313.wsgiref.headers") 480)), (DictEntry.mk (PyData.keyHash P (S "__firstlineno__")) (Value.str (S "__firstlineno__") 553) (Value.int 77 552)), (DictEntry.mk (PyData.keyHash P (S "__init__")) (Value.str (S "__init__") 563) (Value.ref 192)), (DictEntry.mk (PyData.keyHash P (S "_convert_string_type")) (Value.str (S "_convert_string_type") 573) (Value.ref 199)), (DictEntry.mk (PyData.keyHash P (S "__len__")) (Value.str (S "__len__") 580) (Value.ref 206)), (DictEntry.mk (PyData.keyHash P (S "__setitem__")) (Value.str (S "__setitem__") 589) (Value.ref 213)), (DictEntry.mk (PyData.keyHash P (S "__delitem__")) (Value.str (S "__delitem__") 595) (Value.ref 218)), (DictEntry.mk (PyData.keyHash P (S "__getitem__")) (Value.str (S "__getitem__") 603) (Value.ref 225)), (DictEntry.mk (PyData.keyHash P (S "__contains__")) (Value.str (S "__contains__") 611) (Value.ref 232)), (DictEntry.mk (PyData.keyHash P (S "get_all")) (Value.str (S "get_all") 619) (Value.ref 239)), (DictEntry.mk (PyData.keyHash P (S "get")) (Value.str (S "get") 630) (Value.ref 247)), (DictEntry.mk (PyData.keyHash P (S "keys")) (Value.str (S "keys") 636) (Value.ref 252)), (DictEntry.mk (PyData.keyHash P (S "values")) (Value.str (S "values") 642) (Value.ref 257)), (DictEntry.mk (PyData.keyHash P (S "items")) (Value.str (S "items") 649) (Value.ref 264)), (DictEntry.mk (PyData.keyHash P (S "__repr__")) (Value.str (S "__repr__") 656) (Value.ref 271)), (DictEntry.mk (PyData.keyHash P (S "__str__")) (Value.str (S "__str__") 662) (Value.ref 276)), (DictEntry.mk (PyData.keyHash P (S "__bytes__")) (Value.str (S "__bytes__") 669) (Value.ref 283)), (DictEntry.mk (PyData.keyHash P (S "setdefault")) (Value.str (S "setdefault") 679) (Value.ref 290)), (DictEntry.mk (PyData.keyHash P (S "add_header")) (Value.str (S "add_header") 689) (Value.ref 297)), (DictEntry.mk (PyData.keyHash P (S "__static_attributes__")) (Value.str (S "__static_attributes__") 691) (Value.ref 298)), (DictEntry.mk (PyData.keyHash P (S "__dict__")) (Value.str (S "__dict__") 693) (Value.ref 301)), (DictEntry.mk (PyData.keyHash P (S "__weakref__")) (Value.str (S "__weakref__") 695) (Value.ref 302)), (DictEntry.mk (PyData.keyHash P (S "__doc__")) (Value.str (S "__doc__") 696) Value.none)]) 4) (List.toArray []))
noncomputable def o143 (P : Params) : Obj := (Obj.mk (Value.type "tuple") (Option.none) (Data.seq (List.toArray [(Value.str (S "self") 615), (Value.str (S "name") 616)]) 0) (List.toArray []))
noncomputable def o144 (P : Params) : Obj := (Obj.mk (Value.type "function") (Option.none) (Data.func (fnd F_Headers___bytes__ (S "Headers.__bytes__") 3 [] Value.none Value.none Value.none (Value.str (S "cpy313.wsgiref.headers") 480) (Option.none) (Value.ref 282) Value.none 0)) (List.toArray []))
noncomputable def o145 (P : Params) : Obj := (Obj.mk (Value.type "code") (Option.none) (Data.fields (List.toArray [(Value.str (S "keys") 631), (Value.str (S "Headers.keys") 632), (Value.str (S "/claim/cut.py") 633), (Value.int 124 0), (Value.int 1 0), (Value.int 0 0), (Value.int 0 0), (Value.int 3 0), (Value.ref 248), (Value.bool true), (Value.int 276 0), (Value.ref 249), Value.none, Value.none, Value.none, (Value.ref 250), (Value.int 634 0), (Value.int 124 0), (Value.str (S "/claim/cut.py") 635)])) (List.toArray []))
noncomputable def o146 (P : Params) : Obj := (Obj.mk (Value.type "function") (Option.none) (Data.func (fnd F_Headers_values (S "Headers.values") 3 [] Value.none Value.none Value.none (Value.str (S "cpy313.wsgiref.headers") 480) (Option.none) (Value.ref 256) Value.none 0)) (List.toArray []))
noncomputable def o147 (P : Params) : Obj := (Obj.mk (Value.type "code") (Option.none) (Data.fields (List.toArray [(Value.str (S "setdefault") 670), (Value.str (S "Headers.setdefault") 671), (Value.str (S "/claim/cut.py") 672), (Value.int 142 0), (Value.int 3 0), (Value.int 0 0), (Value.int 0 0), (Value.int 3 0), (Value.ref 284), (Value.bool true), (Value.int 276 0), (Value.ref 285), Value.none, (Value.ref 286), (Value.ref 287), (Value.ref 288), (Value.int 677 0), (Value.int 142 0), (Value.str (S "/claim/cut.py") 678)])) (List.toArray []))
noncomputable def o148 (P : Params) : Obj := (Obj.mk (Value.type "function") (Option.none) (Data.func (fnd F_Headers___getitem__ (S "Headers.__getitem__") 3 [] Value.none Value.none Value.none (Value.str (S "cpy313.wsgiref.headers") 480) (Option.none) (Value.ref 224) Value.none 0)) (List.toArray []))
noncomputable def o149 (P : Params) : Obj := (Obj.mk (Value.type "tuple") (Option.none) (Data.seq (List.toArray [(Value.str (S "self") 584), (Value.str (S "name") 585), (Value.str (S "val") 586)]) 0) (List.toArray []))
noncomputable def o150 (P : Params) : Obj := (Obj.mk (Value.type "function") (Option.none) (Data.func (fnd F_Headers_add_header (S "Headers.add_header") 3 [] Value.none Value.none Value.none (Value.str (S "cpy313.wsgiref.headers") 480) (Option.none) (Value.ref 296) Value.none 0)) (List.toArray []))
noncomputable def o151 (P : Params) : Obj := (Obj.mk Value.none (Option.none) (Data.func (fnd F_Headers___bytes__ (S "Headers.__bytes__") 0 [] Value.none Value.none Value.none Value.none (Option.none) Value.none Value.none 0)) (List.toArray []))
noncomputable def o152 (P : Params) : Obj := (Obj.mk (Value.type "code") (Option.none) (Data.fields (List.toArray [(Value.str (S "__delitem__") 590), (Value.str (S "Headers.__delitem__") 591), (Value.str (S "/claim/cut.py") 592), (Value.int 104 0), (Value.int 2 0), (Value.int 0 0), (Value.int 0 0), (Value.int 3 0), (Value.ref 214), (Value.bool true), (Value.int 276 0), (Value.ref 215), Value.none, Value.none, Value.none, (Value.ref 216), (Value.int 593 0), (Value.int 104 0), (Value.str (S "/claim/cut.py") 594)])) (List.toArray []))
noncomputable def o153 (P : Params) : Obj := (Obj.mk Value.none (Option.none) (Data.func (fnd F_Headers__convert_string_type (S "Headers._convert_string_type") 0 [] Value.none Value.none Value.none Value.none (Option.none) Value.none Value.none 0)) (List.toArray []))
noncomputable def o154 (P : Params) : Obj := (Obj.mk (Value.type "tuple") (Option.none) (Data.seq (List.toArray [(Value.str (S "self") 683), (Value.str (S "_name") 684), (Value.str (S "_value") 685), (Value.str (S "_params") 686)]) 0) (List.toArray []))
noncomputable def o155 (P : Params) : Obj := (Obj.mk (Value.type "function") (Option.none) (Data.func (fnd F_Headers___setitem__ (S "Headers.__setitem__") 3 [] Value.none Value.none Value.none (Value.str (S "cpy313.wsgiref.headers") 480) (Option.none) (Value.ref 212) Value.none 0)) (List.toArray []))
noncomputable def o156 (P : Params) : Obj := (Obj.mk Value.none (Option.none) (Data.func (fnd F_Headers_get (S "Headers.get") 0 [] Value.none Value.none Value.none Value.none (Option.none) Value.none Value.none 0)) (List.toArray []))
noncomputable def o157 (P : Params) : Obj := (Obj.mk Value.none (Option.none) (Data.fields (List.toArray [(Value.int 2 0), (Value.int 0 0), (Value.ref 37), (Value.int 7 0), (Value.int 0 0), (Value.ref 45), (Value.int 19 0), (Value.int 0 0), (Value.ref 52), (Value.int 24 0), (Value.int 0 0), (Value.ref 75), (Value.int 31 0), (Value.int 0 0), (Value.ref 82), (Value.int 43 0), (Value.int 0 0), (Value.ref 90), (Value.int 77 0), (Value.int 0 0), (Value.ref 183)])) (List.toArray []))
noncomputable def o158 (P : Params) : Obj := (Obj.mk Value.none (Option.none) (Data.func (fnd F_Headers___repr__ (S "Headers.__repr__") 0 [] Value.none Value.none Value.none Value.none (Option.none) Value.none Value.none 0)) (List.toArray []))
noncomputable def o159 (P : Params) : Obj := (Obj.mk (Value.type "code") (Option.none) (Data.fields (List.toArray [(Value.str (S "__len__") 574), (Value.str (S "Headers.__len__") 575), (Value.str (S "/claim/cut.py") 576), (Value.int 97 0), (Value.int 1 0), (Value.int 0 0), (Value.int 0 0), (Value.int 3 0), (Value.ref 200), (Value.bool true), (Value.int 276 0), (Value.ref 201), Value.none, (Value.ref 202), (Value.ref 203), (Value.ref 204), (Value.int 578 0), (Value.int 97 0), (Value.str (S "/claim/cut.py") 579)])) (List.toArray []))
noncomputable def o160 (P : Params) : Obj := (Obj.mk (Value.type "getset_descriptor") (Option.none) (Data.fields (List.toArray [(Value.str (S "__dict__") 692), (Value.ref 300), (Value.builtin "function.__dict__"), (Value.builtin "function.__dict__#set")])) (List.toArray []))
noncomputable def o161 (P : Params) : Obj := (Obj.mk Value.none (Option.none) (Data.func (fnd F_Headers_get_all (S "Headers.get_all") 0 [] Value.none Value.none Value.none Value.none (Option.none) Value.none Value.none 0)) (List.toArray []))
noncomputable def o162 (P : Params) : Obj := (Obj.mk (Value.type "tuple") (Option.none) (Data.seq (List.toArray [(Value.str (S "self") 599), (Value.str (S "name") 600)]) 0) (List.toArray []))
noncomputable def o163 (P : Params) : Obj := (Obj.mk (Value.type "code") (Option.none) (Data.fields (List.toArray [(Value.str (S "values") 637), (Value.str (S "Headers.values") 638), (Value.str (S "/claim/cut.py") 639), (Value.int 127 0), (Value.int 1 0), (Value.int 0 0), (Value.int 0 0), (Value.int 3 0), (Value.ref 253), (Value.bool true), (Value.int 276 0), (Value.ref 254), Value.none, Value.none, Value.none, (Value.ref 255), (Value.int 640 0), (Value.int 127 0), (Value.str (S "/claim/cut.py") 641)])) (List.toArray []))
noncomputable def o164 (P : Params) : Obj := (Obj.mk (Value.type "function") (Option.none) (Data.func (fnd F_Headers___init__ (S "Headers.__init__") 3 [] (Value.ref 185) Value.none Value.none (Value.str (S "cpy313.wsgiref.headers") 480) (Option.none) (Value.ref 191) Value.none 0)) (List.toArray []))
noncomputable def o165 (P : Params) : Obj := (Obj.mk Value.none (Option.none) (Data.func (fnd F_Headers_setdefault (S "Headers.setdefault") 0 [] Value.none Value.none Value.none Value.none (Option.none) Value.none Value.none 0)) (List.toArray []))
noncomputable def o166 (P : Params) : Obj := (Obj.mk (Value.type "code") (Option.none) (Data.fields (List.toArray [(Value.str (S "__getitem__") 596), (Value.str (S "Headers.__getitem__") 597), (Value.str (S "/claim/cut.py") 598), (Value.int 108 0), (Value.int 2 0), (Value.int 0 0), (Value.int 0 0), (Value.int 3 0), (Value.ref 219), (Value.bool true), (Value.int 276 0), (Value.ref 220), Value.none, (Value.ref 221), (Value.ref 222), (Value.ref 223), (Value.int 601 0), (Value.int 108 0), (Value.str (S "/claim/cut.py") 602)])) (List.toArray []))
noncomputable def o167 (P : Params) : Obj := (Obj.mk (Value.type "builtin_function_or_method") (Option.none) (Data.fields (List.toArray [(Value.builtin "object.__init_subclass__"), (Value.ref 300)])) (List.toArray []))
noncomputable def o168 (P : Params) : Obj := (Obj.mk (Value.type "function") (Option.none) (Data.func (fnd F_Headers_items (S "Headers.items") 3 [] Value.none Value.none Value.none (Value.str (S "cpy313.wsgiref.headers") 480) (Option.none) (Value.ref 263) Value.none 0)) (List.toArray []))
noncomputable def o169 (P : Params) : Obj := (Obj.mk (Value.type "code") (Option.none) (Data.fields (List.toArray [(Value.str (S "add_header") 680), (Value.str (S "Headers.add_header") 681), (Value.str (S "/claim/cut.py") 682), (Value.int 150 0), (Value.int 3 0), (Value.int 0 0), (Value.int 0 0), (Value.int 11 0), (Value.ref 291), (Value.bool true), (Value.int 276 0), (Value.ref 292), Value.none, (Value.ref 293), (Value.ref 294), (Value.ref 295), (Value.int 687 0), (Value.int 150 0), (Value.str (S "/claim/cut.py") 688)])) (List.toArray []))
noncomputable def o170 (P : Params) : Obj := (Obj.mk (Value.type "function") (Option.none) (Data.func (fnd F_Headers___contains__ (S "Headers.__contains__") 3 [] Value.none Value.none Value.none (Value.str (S "cpy313.wsgiref.headers") 480) (Option.none) (Value.ref 231) Value.none 0)) (List.toArray []))
noncomputable def o171 (P : Params) : Obj := (Obj.mk Value.none (Option.none) (Data.func (fnd F_Headers___delitem__ (S "Headers.__delitem__") 0 [] Value.none Value.none Value.none Value.none (Option.none) Value.none Value.none 0)) (List.toArray []))
noncomputable def o172 (P : Params) : Obj := (Obj.mk (Value.type "frame") (Option.none) Data.plain (List.toArray [(Option.some (Value.ref 183)), (Option.some (Value.ref 3)), (Option.some (Value.ref 180)), (Option.none), (Option.some (Value.str (S "cpy313.wsgiref.headers") 480)), (Option.none), (Option.some (Value.ref 0))]))
noncomputable def o173 (P : Params) : Obj := (Obj.mk (Value.type "tuple") (Option.none) (Data.seq (List.toArray [(Value.str (S "self") 646)]) 0) (List.toArray []))
noncomputable def o174 (P : Params) : Obj := (Obj.mk (Value.type "tuple") (Option.none) (Data.seq (List.toArray [(Value.str (S "self") 607), (Value.str (S "name") 608)]) 0) (List.toArray []))
noncomputable def o175 (P : Params) : Obj := (Obj.mk (Value.type "function") (Option.none) (Data.func (fnd F_Headers___str__ (S "Headers.__str__") 3 [] Value.none Value.none Value.none (Value.str (S "cpy313.wsgiref.headers") 480) (Option.none) (Value.ref 275) Value.none 0)) (List.toArray []))
noncomputable def o176 (P : Params) : Obj := (Obj.mk (Value.type "code") (Option.none) (Data.fields (List.toArray [(Value.str (S "__setitem__") 581), (Value.str (S "Headers.__setitem__") 582), (Value.str (S "/claim/cut.py") 583), (Value.int 100 0), (Value.int 3 0), (Value.int 0 0), (Value.int 0 0), (Value.int 3 0), (Value.ref 207), (Value.bool true), (Value.int 276 0), (Value.ref 208), Value.none, (Value.ref 209), (Value.ref 210), (Value.ref 211), (Value.int 587 0), (Value.int 100 0), (Value.str (S "/claim/cut.py") 588)])) (List.toArray []))
noncomputable def o177 (P : Params) : Obj := (Obj.mk (Value.type "dict") (Option.none) (Data.dict (List.toArray [(DictEntry.mk (PyData.keyHash P (S "__module__")) (Value.str (S "__module__") 549) (Value.str (S "cpy313.wsgiref.headers") 480)), (DictEntry.mk (PyData.keyHash P (S "__qualname__")) (Value.str (S "__qualname__") 551) (Value.str (S "Headers") 550)), (DictEntry.mk (PyData.keyHash P (S "__firstlineno__")) (Value.str (S "__firstlineno__") 553) (Value.int 77 552)), (DictEntry.mk (PyData.keyHash P (S "__init__")) (Value.str (S "__init__") 563) (Value.ref 192)), (DictEntry.mk (PyData.keyHash P (S "_convert_string_type")) (Value.str (S "_convert_string_type") 573) (Value.ref 199)), (DictEntry.mk (PyData.keyHash P (S "__len__")) (Value.str (S "__len__") 580) (Value.ref 206)), (DictEntry.mk (PyData.keyHash P (S "__setitem__")) (Value.str (S "__setitem__") 589) (Value.ref 213)), (DictEntry.mk (PyData.keyHash P (S "__delitem__")) (Value.str (S "__delitem__") 595) (Value.ref 218)), (DictEntry.mk (PyData.keyHash P (S "__getitem__")) (Value.str (S "__getitem__") 603) (Value.ref 225)), (DictEntry.mk (PyData.keyHash P (S "__contains__")) (Value.str (S "__contains__") 611) (Value.ref 232)), (DictEntry.mk (PyData.keyHash P (S "get_all")) (Value.str (S "get_all") 619) (Value.ref 239)), (DictEntry.mk (PyData.keyHash P (S "get")) (Value.str (S "get") 630) (Value.ref 247)), (DictEntry.mk (PyData.keyHash P (S "keys")) (Value.str (S "keys") 636) (Value.ref 252)), (DictEntry.mk (PyData.keyHash P (S "values")) (Value.str (S "values") 642) (Value.ref 257)), (DictEntry.mk (PyData.keyHash P (S "items")) (Value.str (S "items") 649) (Value.ref 264)), (DictEntry.mk (PyData.keyHash P (S "__repr__")) (Value.str (S "__repr__") 656) (Value.ref 271)), (DictEntry.mk (PyData.keyHash P (S "__str__")) (Value.str (S "__str__") 662) (Value.ref 276)), (DictEntry.mk (PyData.keyHash P (S "__bytes__")) (Value.str (S "__bytes__") 669) (Value.ref 283)), (DictEntry.mk (PyData.keyHash P (S "setdefault")) (Value.str (S "setdefault") 679) (Value.ref 290)), (DictEntry.mk (PyData.keyHash P (S "add_header")) (Value.str (S "add_header") 689) (Value.ref 297)), (DictEntry.mk (PyData.keyHash P (S "__static_attributes__")) (Value.str (S "__static_attributes__") 691) (Value.ref 298))]) 21) (List.toArray []))
noncomputable def o178 (P : Params) : Obj := (Obj.mk Value.none (Option.none) (Data.func (fnd F_Headers___len__ (S "Headers.__len__") 0 [] Value.none Value.none Value.none Value.none (Option.none) Value.none Value.none 0)) (List.toArray []))
noncomputable def o179 (P : Params) : Obj := (Obj.mk (Value.type "type") (Option.none) (Data.cls (ClassData.mk (S "Headers") [(Value.type "object")] [(Value.ref 300), (Value.type "object")] 299 (S "Headers") true [] [] false (Option.none) false)) (List.toArray [(Option.none), (Option.none), (Option.some (Value.str (S "Headers") 542)), (Option.some (Value.str (S "Headers") 550)), (Option.some (Value.builtin "object.__new__")), (Option.some (Value.bool true))]))
noncomputable def o180 (P : Params) : Obj := (Obj.mk (Value.type "tuple") (Option.none) (Data.seq (List.toArray [(Value.str (S "self") 557), (Value.str (S "headers") 558), (Value.str (S "k") 559), (Value.str (S "v") 560)]) 0) (List.toArray []))
noncomputable def o181 (P : Params) : Obj := (Obj.mk (Value.type "function") (Option.none) (Data.func (fnd F_Headers_keys (S "Headers.keys") 3 [] Value.none Value.none Value.none (Value.str (S "cpy313.wsgiref.headers") 480) (Option.none) (Value.ref 251) Value.none 0)) (List.toArray []))
noncomputable def o182 (P : Params) : Obj := (Obj.mk (Value.type "function") (Option.none) (Data.func (fnd F_Headers_setdefault (S "Headers.setdefault") 3 [] Value.none Value.none Value.none (Value.str (S "cpy313.wsgiref.headers") 480) (Option.none) (Value.ref 289) Value.none 0)) (List.toArray []))
noncomputable def o183 (P : Params) : Obj := (Obj.mk Value.none (Option.none) (Data.func (fnd F_Headers___str__ (S "Headers.__str__") 0 [] Value.none Value.none Value.none Value.none (Option.none) Value.none Value.none 0)) (List.toArray []))
noncomputable def o184 (P : Params) : Obj := (Obj.mk (Value.type "tuple") (Option.none) (Data.seq (List.toArray [(Value.str (S "self") 577)]) 0) (List.toArray []))
noncomputable def o185 (P : Params) : Obj := (Obj.mk (Value.type "tuple") (Option.none) (Data.seq (List.toArray [(Value.str (S "_headers") 690)]) 0) (List.toArray []))
noncomputable def o186 (P : Params) : Obj := (Obj.mk (Value.type "code") (Option.none) (Data.fields (List.toArray [(Value.str (S "__bytes__") 663), (Value.str (S "Headers.__bytes__") 664), (Value.str (S "/claim/cut.py") 665), (Value.int 139 0), (Value.int 1 0), (Value.int 0 0), (Value.int 0 0), (Value.int 3 0), (Value.ref 277), (Value.bool true), (Value.int 276 0), (Value.ref 278), Value.none, (Value.ref 279), (Value.ref 280), (Value.ref 281), (Value.int 667 0), (Value.int 139 0), (Value.str (S "/claim/cut.py") 668)])) (List.toArray []))
noncomputable def o187 (P : Params) : Obj := (Obj.mk (Value.type "function") (Option.none) (Data.func (fnd F_Headers___delitem__ (S "Headers.__delitem__") 3 [] Value.none Value.none Value.none (Value.str (S "cpy313.wsgiref.headers") 480) (Option.none) (Value.ref 217) Value.none 0)) (List.toArray []))
noncomputable def o188 (P : Params) : Obj := (Obj.mk Value.none (Option.none) (Data.func (fnd F_Headers_keys (S "Headers.keys") 0 [] Value.none Value.none Value.none Value.none (Option.none) Value.none Value.none 0)) (List.toArray []))
noncomputable def o189 (P : Params) : Obj := (Obj.mk Value.none (Option.none) (Data.func (fnd F_Headers_items (S "Headers.items") 0 [] Value.none Value.none Value.none Value.none (Option.none) Value.none Value.none 0)) (List.toArray []))
noncomputable def o190 (P : Params) : Obj := (Obj.mk (Value.type "code") (Option.none) (Data.fields (List.toArray [(Value.str (S "_convert_string_type") 564), (Value.str (S "Headers._convert_string_type") 565), (Value.str (S "/claim/cut.py") 566), (Value.int 89 0), (Value.int 2 0), (Value.int 0 0), (Value.int 1 0), (Value.int 3 0), (Value.ref 193), (Value.bool true), (Value.int 276 0), (Value.ref 194), Value.none, (Value.ref 195), (Value.ref 196), (Value.ref 197), (Value.int 571 0), (Value.int 89 0), (Value.str (S "/claim/cut.py") 572)])) (List.toArray []))
noncomputable def o191 (P : Params) : Obj := (Obj.mk Value.none (Option.none) (Data.func (fnd F_Headers___contains__ (S "Headers.__contains__") 0 [] Value.none Value.none Value.none Value.none (Option.none) Value.none Value.none 0)) (List.toArray []))
noncomputable def o192 (P : Params) : Obj := (Obj.mk Value.none (Option.none) (Data.fields (List.toArray [(Value.int 79 0), (Value.int 4 0), (Value.ref 191), (Value.int 89 0), (Value.int 4 0), (Value.ref 198), (Value.int 97 0), (Value.int 4 0), (Value.ref 205), (Value.int 100 0), (Value.int 4 0), (Value.ref 212), (Value.int 104 0), (Value.int 4 0), (Value.ref 217), (Value.int 108 0), (Value.int 4 0), (Value.ref 224), (Value.int 111 0), (Value.int 4 0), (Value.ref 231), (Value.int 114 0), (Value.int 4 0), (Value.ref 238), (Value.int 117 0), (Value.int 4 0), (Value.ref 246), (Value.int 124 0), (Value.int 4 0), (Value.ref 251), (Value.int 127 0), (Value.int 4 0), (Value.ref 256), (Value.int 130 0), (Value.int 4 0), (Value.ref 263), (Value.int 133 0), (Value.int 4 0), (Value.ref 270), (Value.int 136 0), (Value.int 4 0), (Value.ref 275), (Value.int 139 0), (Value.int 4 0), (Value.ref 282), (Value.int 142 0), (Value.int 4 0), (Value.ref 289), (Value.int 150 0), (Value.int 4 0), (Value.ref 296)])) (List.toArray []))
noncomputable def o193 (P : Params) : Obj := (Obj.mk (Value.type "code") (Option.none) (Data.fields (List.toArray [(Value.str (S "get") 620), (Value.str (S "Headers.get") 621), (Value.str (S "/claim/cut.py") 622), (Value.int 117 0), (Value.int 3 0), (Value.int 0 0), (Value.int 0 0), (Value.int 3 0), (Value.ref 241), (Value.bool true), (Value.int 276 0), (Value.ref 242), Value.none, (Value.ref 243), (Value.ref 244), (Value.ref 245), (Value.int 628 0), (Value.int 117 0), (Value.str (S "/claim/cut.py") 629)])) (List.toArray []))
noncomputable def o194 (P : Params) : Obj := (Obj.mk (Value.type "code") (Option.none) (Data.fields (List.toArray [(Value.str (S "__repr__") 650), (Value.str (S "Headers.__repr__") 651), (Value.str (S "/claim/cut.py") 652), (Value.int 133 0), (Value.int 1 0), (Value.int 0 0), (Value.int 0 0), (Value.int 3 0), (Value.ref 265), (Value.bool true), (Value.int 276 0), (Value.ref 266), Value.none, (Value.ref 267), (Value.ref 268), (Value.ref 269), (Value.int 654 0), (Value.int 133 0), (Value.str (S "/claim/cut.py") 655)])) (List.toArray []))
noncomputable def o195 (P : Params) : Obj := (Obj.mk (Value.type "function") (Option.none) (Data.func (fnd F_Headers___len__ (S "Headers.__len__") 3 [] Value.none Value.none Value.none (Value.str (S "cpy313.wsgiref.headers") 480) (Option.none) (Value.ref 205) Value.none 0)) (List.toArray []))
noncomputable def o196 (P : Params) : Obj := (Obj.mk (Value.type "getset_descriptor") (Option.none) (Data.fields (List.toArray [(Value.str (S "__weakref__") 694), (Value.ref 300), (Value.builtin "ExceptionGroup.__weakref__"), Value.none])) (List.toArray []))
noncomputable def o197 (P : Params) : Obj := (Obj.mk (Value.type "code") (Option.none) (Data.fields (List.toArray [(Value.str (S "get_all") 612), (Value.str (S "Headers.get_all") 613), (Value.str (S "/claim/cut.py") 614), (Value.int 114 0), (Value.int 2 0), (Value.int 0 0), (Value.int 0 0), (Value.int 3 0), (Value.ref 233), (Value.bool true), (Value.int 276 0), (Value.ref 234), Value.none, (Value.ref 235), (Value.ref 236), (Value.ref 237), (Value.int 617 0), (Value.int 114 0), (Value.str (S "/claim/cut.py") 618)])) (List.toArray []))
noncomputable def o198 (P : Params) : Obj := (Obj.mk (Value.type "tuple") (Option.none) (Data.seq (List.toArray [(Value.str (S "self") 673), (Value.str (S "name") 674), (Value.str (S "value") 675), (Value.str (S "result") 676)]) 0) (List.toArray []))
noncomputable def o199 (P : Params) : Obj := (Obj.mk Value.none (Option.none) (Data.func (fnd F_Headers___init__ (S "Headers.__init__") 0 [] Value.none Value.none Value.none Value.none (Option.none) Value.none Value.none 0)) (List.toArray []))
noncomputable def o200 (P : Params) : Obj := (Obj.mk (Value.type "dict") (Option.none) (Data.dict (List.toArray [(DictEntry.mk (PyData.keyHash P (S "__name__")) (Value.str (S "__name__") 165) (Value.str (S "law_wk0041_01") 699)), (DictEntry.mk (PyData.keyHash P (S "__doc__")) (Value.str (S "__doc__") 166) Value.none), (DictEntry.mk (PyData.keyHash P (S "__package__")) (Value.str (S "__package__") 167) Value.none), (DictEntry.mk (PyData.keyHash P (S "__loader__")) (Value.str (S "__loader__") 168) (Value.builtin "__main__.__loader__#opaque")), (DictEntry.mk (PyData.keyHash P (S "__spec__")) (Value.str (S "__spec__") 169) Value.none), (DictEntry.mk (PyData.keyHash P (S "__annotations__")) (Value.str (S "__annotations__") 170) (Value.ref 6)), (DictEntry.mk (PyData.keyHash P (S "__builtins__")) (Value.str (S "__builtins__") 171) (Value.ref 4)), (DictEntry.mk (PyData.keyHash P (S "__file__")) (Value.str (S "__file__") 173) (Value.str (S "/claim/cut.py") 172)), (DictEntry.mk (PyData.keyHash P (S "__cached__")) (Value.str (S "__cached__") 174) Value.none), (DictEntry.mk (PyData.keyHash P (S "_sre")) (Value.str (S "_sre") 275) (Value.ref 12)), (DictEntry.mk (PyData.keyHash P (S "_wall")) (Value.str (S "_wall") 288) (Value.ref 38)), (DictEntry.mk (PyData.keyHash P (S "COMPILER_FLAG_NAMES")) (Value.str (S "COMPILER_FLAG_NAMES") 321) (Value.ref 39)), (DictEntry.mk (PyData.keyHash P (S "pretty_flags")) (Value.str (S "pretty_flags") 331) (Value.ref 46)), (DictEntry.mk (PyData.keyHash P (S "_Unknown")) (Value.str (S "_Unknown") 358) (Value.ref 63)), (DictEntry.mk (PyData.keyHash P (S "UNKNOWN")) (Value.str (S "UNKNOWN") 359) (Value.ref 69)), (DictEntry.mk (PyData.keyHash P (S "_get_name_info")) (Value.str (S "_get_name_info") 369) (Value.ref 76)), (DictEntry.mk (PyData.keyHash P (S "_NO_LINENO")) (Value.str (S "_NO_LINENO") 371) (Value.str (S "  --") 370)), (DictEntry.mk (PyData.keyHash P (S "_get_lineno_width")) (Value.str (S "_get_lineno_width") 380) (Value.ref 83)), (DictEntry.mk (PyData.keyHash P (S "EMPTYSTRING")) (Value.str (S "EMPTYSTRING") 384) (Value.str (S "") 383)), (DictEntry.mk (PyData.keyHash P (S "_Accumulator")) (Value.str (S "_Accumulator") 479) (Value.ref 163)), (DictEntry.mk (PyData.keyHash P (S "_name_disallowed_re")) (Value.str (S "_name_disallowed_re") 507) (Value.ref 172)), (DictEntry.mk (PyData.keyHash P (S "_value_disallowed_re")) (Value.str (S "_value_disallowed_re") 541) (Value.ref 177)), (DictEntry.mk (PyData.keyHash P (S "Headers")) (Value.str (S "Headers") 698) (Value.ref 300)), (DictEntry.mk (PyData.keyHash P (S "_law_sums")) (Value.str (S "_law_sums") 709) (Value.ref 311)), (DictEntry.mk (PyData.keyHash P (S "_law_words")) (Value.str (S "_law_words") 715) (Value.ref 316)), (DictEntry.mk (PyData.keyHash P (S "_law_told")) (Value.str (S "_law_told") 728) (Value.ref 323)), (DictEntry.mk (PyData.keyHash P (S "_law_plain")) (Value.str (S "_law_plain") 734) (Value.ref 328)), (DictEntry.mk (PyData.keyHash P (S "_law_walk")) (Value.str (S "_law_walk") 740) (Value.ref 333)), (DictEntry.mk (PyData.keyHash P (S "_law_far")) (Value.str (S "_law_far") 751) (Value.ref 340)), (DictEntry.mk (PyData.keyHash P (S "_law_holds")) (Value.str (S "_law_holds") 759) (Value.ref 347)), (DictEntry.mk (PyData.keyHash P (S "_law_undone")) (Value.str (S "_law_undone") 771) (Value.ref 354)), (DictEntry.mk (PyData.keyHash P (S "law")) (Value.str (S "law") 777) (Value.ref 359))]) 32) (List.toArray []))
noncomputable def o201 (P : Params) : Obj := (Obj.mk (Value.type "tuple") (Option.none) (Data.seq (List.toArray [(Value.str (S "first") 719), (Value.str (S "second") 720), (Value.str (S "here") 721), (Value.str (S "crew") 722), (Value.str (S "lines") 723), (Value.str (S "i") 724), (Value.str (S "j") 725)]) 0) (List.toArray []))
noncomputable def o202 (P : Params) : Obj := (Obj.mk (Value.type "code") (Option.none) (Data.fields (List.toArray [(Value.str (S "_law_plain") 729), (Value.str (S "_law_plain") 730), (Value.str (S "/claim/cut.py") 731), (Value.int 169 0), (Value.int 3 0), (Value.int 0 0), (Value.int 0 0), (Value.int 3 0), (Value.ref 324), (Value.bool true), (Value.int 276 0), (Value.ref 325), Value.none, Value.none, Value.none, (Value.ref 326), (Value.int 732 0), (Value.int 169 0), (Value.str (S "/claim/cut.py") 733)])) (List.toArray []))
noncomputable def o203 (P : Params) : Obj := (Obj.mk (Value.type "function") (Option.none) (Data.func (fnd F_law (S "law") 3 [] Value.none Value.none Value.none (Value.str (S "law_wk0041_01") 699) (Option.none) (Value.ref 358) Value.none 0)) (List.toArray []))
noncomputable def o204 (P : Params) : Obj := (Obj.mk (Value.type "tuple") (Option.none) (Data.seq (List.toArray [(Value.str (S "desk") 755), (Value.str (S "mask") 756)]) 0) (List.toArray []))
noncomputable def o205 (P : Params) : Obj := (Obj.mk (Value.type "function") (Option.none) (Data.func (fnd F__law_sums (S "_law_sums") 3 [] Value.none Value.none Value.none (Value.str (S "law_wk0041_01") 699) (Option.none) (Value.ref 310) Value.none 0)) (List.toArray []))
noncomputable def o206 (P : Params) : Obj := (Obj.mk (Value.type "function") (Option.none) (Data.func (fnd F__law_told (S "_law_told") 3 [] Value.none Value.none Value.none (Value.str (S "law_wk0041_01") 699) (Option.none) (Value.ref 322) Value.none 0)) (List.toArray []))
noncomputable def o207 (P : Params) : Obj := (Obj.mk (Value.type "code") (Option.none) (Data.fields (List.toArray [(Value.str (S "_law_far") 741), (Value.str (S "_law_far") 742), (Value.str (S "/claim/cut.py") 743), (Value.int 198 0), (Value.int 2 0), (Value.int 0 0), (Value.int 0 0), (Value.int 3 0), (Value.ref 334), (Value.bool true), (Value.int 276 0), (Value.ref 335), Value.none, (Value.ref 336), (Value.ref 337), (Value.ref 338), (Value.int 749 0), (Value.int 198 0), (Value.str (S "/claim/cut.py") 750)])) (List.toArray []))
noncomputable def o208 (P : Params) : Obj := (Obj.mk (Value.type "tuple") (Option.none) (Data.seq (List.toArray [(Value.str (S "script") 704), (Value.str (S "sums") 705), (Value.str (S "k") 706)]) 0) (List.toArray []))
noncomputable def o209 (P : Params) : Obj := (Obj.mk Value.none (Option.none) (Data.func (fnd F__law_walk (S "_law_walk") 0 [] Value.none Value.none Value.none Value.none (Option.none) Value.none Value.none 0)) (List.toArray []))
noncomputable def o210 (P : Params) : Obj := (Obj.mk (Value.type "function") (Option.none) (Data.func (fnd F__law_holds (S "_law_holds") 3 [] Value.none Value.none Value.none (Value.str (S "law_wk0041_01") 699) (Option.none) (Value.ref 346) Value.none 0)) (List.toArray []))
noncomputable def o211 (P : Params) : Obj := (Obj.mk (Value.type "code") (Option.none) (Data.fields (List.toArray [(Value.str (S "_law_words") 710), (Value.str (S "_law_words") 711), (Value.str (S "/claim/cut.py") 712), (Value.int 158 0), (Value.int 1 0), (Value.int 0 0), (Value.int 0 0), (Value.int 3 0), (Value.ref 312), (Value.bool true), (Value.int 276 0), (Value.ref 313), Value.none, Value.none, Value.none, (Value.ref 314), (Value.int 713 0), (Value.int 158 0), (Value.str (S "/claim/cut.py") 714)])) (List.toArray []))
noncomputable def o212 (P : Params) : Obj := (Obj.mk Value.none (Option.none) (Data.func (fnd F__law_told (S "_law_told") 0 [] Value.none Value.none Value.none Value.none (Option.none) Value.none Value.none 0)) (List.toArray []))
noncomputable def o213 (P : Params) : Obj := (Obj.mk (Value.type "code") (Option.none) (Data.fields (List.toArray [(Value.str (S "_law_undone") 760), (Value.str (S "_law_undone") 761), (Value.str (S "/claim/cut.py") 762), (Value.int 207 0), (Value.int 2 0), (Value.int 0 0), (Value.int 0 0), (Value.int 3 0), (Value.ref 348), (Value.bool true), (Value.int 276 0), (Value.ref 349), Value.none, (Value.ref 350), (Value.ref 351), (Value.ref 352), (Value.int 769 0), (Value.int 207 0), (Value.str (S "/claim/cut.py") 770)])) (List.toArray []))
noncomputable def o214 (P : Params) : Obj := (Obj.mk Value.none (Option.none) (Data.func (fnd F__law_holds (S "_law_holds") 0 [] Value.none Value.none Value.none Value.none (Option.none) Value.none Value.none 0)) (List.toArray []))
noncomputable def o215 (P : Params) : Obj := (Obj.mk Value.none (Option.none) (Data.func (fnd F_law (S "law") 0 [] Value.none Value.none Value.none Value.none (Option.none) Value.none Value.none 0)) (List.toArray []))
noncomputable def o216 (P : Params) : Obj := (Obj.mk Value.none (Option.none) (Data.func (fnd F__law_sums (S "_law_sums") 0 [] Value.none Value.none Value.none Value.none (Option.none) Value.none Value.none 0)) (List.toArray []))
noncomputable def o217 (P : Params) : Obj := (Obj.mk Value.none (Option.none) (Data.fields (List.toArray [(Value.int 2 0), (Value.int 0 0), (Value.ref 37), (Value.int 7 0), (Value.int 0 0), (Value.ref 45), (Value.int 19 0), (Value.int 0 0), (Value.ref 52), (Value.int 24 0), (Value.int 0 0), (Value.ref 75), (Value.int 31 0), (Value.int 0 0), (Value.ref 82), (Value.int 43 0), (Value.int 0 0), (Value.ref 90), (Value.int 77 0), (Value.int 0 0), (Value.ref 183), (Value.int 153 0), (Value.int 0 0), (Value.ref 310), (Value.int 158 0), (Value.int 0 0), (Value.ref 315), (Value.int 161 0), (Value.int 0 0), (Value.ref 322), (Value.int 169 0), (Value.int 0 0), (Value.ref 327), (Value.int 176 0), (Value.int 0 0), (Value.ref 332), (Value.int 198 0), (Value.int 0 0), (Value.ref 339), (Value.int 205 0), (Value.int 0 0), (Value.ref 346), (Value.int 207 0), (Value.int 0 0), (Value.ref 353), (Value.int 219 0), (Value.int 0 0), (Value.ref 358)])) (List.toArray []))
noncomputable def o218 (P : Params) : Obj := (Obj.mk (Value.type "function") (Option.none) (Data.func (fnd F__law_walk (S "_law_walk") 3 [] Value.none Value.none Value.none (Value.str (S "law_wk0041_01") 699) (Option.none) (Value.ref 332) Value.none 0)) (List.toArray []))
noncomputable def o219 (P : Params) : Obj := (Obj.mk Value.none (Option.none) (Data.func (fnd F__law_undone (S "_law_undone") 0 [] Value.none Value.none Value.none Value.none (Option.none) Value.none Value.none 0)) (List.toArray []))
noncomputable def o220 (P : Params) : Obj := (Obj.mk (Value.type "tuple") (Option.none) (Data.seq (List.toArray [(Value.str (S "net") 744), (Value.str (S "mask") 745), (Value.str (S "top") 746), (Value.str (S "ways") 747), (Value.str (S "n") 748)]) 0) (List.toArray []))
noncomputable def o221 (P : Params) : Obj := (Obj.mk (Value.type "function") (Option.none) (Data.func (fnd F__law_plain (S "_law_plain") 3 [] Value.none Value.none Value.none (Value.str (S "law_wk0041_01") 699) (Option.none) (Value.ref 327) Value.none 0)) (List.toArray []))
noncomputable def o222 (P : Params) : Obj := (Obj.mk (Value.type "function") (Option.none) (Data.func (fnd F__law_far (S "_law_far") 3 [] Value.none Value.none Value.none (Value.str (S "law_wk0041_01") 699) (Option.none) (Value.ref 339) Value.none 0)) (List.toArray []))
noncomputable def o223 (P : Params) : Obj := (Obj.mk (Value.type "code") (Option.none) (Data.fields (List.toArray [(Value.str (S "_law_walk") 735), (Value.str (S "_law_walk") 736), (Value.str (S "/claim/cut.py") 737), (Value.int 176 0), (Value.int 4 0), (Value.int 0 0), (Value.int 0 0), (Value.int 3 0), (Value.ref 329), (Value.bool true), (Value.int 276 0), (Value.ref 330), Value.none, Value.none, Value.none, (Value.ref 331), (Value.int 738 0), (Value.int 176 0), (Value.str (S "/claim/cut.py") 739)])) (List.toArray []))
noncomputable def o224 (P : Params) : Obj := (Obj.mk (Value.type "function") (Option.none) (Data.func (fnd F__law_words (S "_law_words") 3 [] Value.none Value.none Value.none (Value.str (S "law_wk0041_01") 699) (Option.none) (Value.ref 315) Value.none 0)) (List.toArray []))
noncomputable def o225 (P : Params) : Obj := (Obj.mk (Value.type "code") (Option.none) (Data.fields (List.toArray [(Value.str (S "_law_told") 716), (Value.str (S "_law_told") 717), (Value.str (S "/claim/cut.py") 718), (Value.int 161 0), (Value.int 3 0), (Value.int 0 0), (Value.int 0 0), (Value.int 3 0), (Value.ref 317), (Value.bool true), (Value.int 276 0), (Value.ref 318), Value.none, (Value.ref 319), (Value.ref 320), (Value.ref 321), (Value.int 726 0), (Value.int 161 0), (Value.str (S "/claim/cut.py") 727)])) (List.toArray []))
noncomputable def o226 (P : Params) : Obj := (Obj.mk (Value.type "function") (Option.none) (Data.func (fnd F__law_undone (S "_law_undone") 3 [] Value.none Value.none Value.none (Value.str (S "law_wk0041_01") 699) (Option.none) (Value.ref 353) Value.none 0)) (List.toArray []))
noncomputable def o227 (P : Params) : Obj := (Obj.mk Value.none (Option.none) (Data.func (fnd F__law_far (S "_law_far") 0 [] Value.none Value.none Value.none Value.none (Option.none) Value.none Value.none 0)) (List.toArray []))
noncomputable def o228 (P : Params) : Obj := (Obj.mk (Value.type "code") (Option.none) (Data.fields (List.toArray [(Value.str (S "_law_holds") 752), (Value.str (S "_law_holds") 753), (Value.str (S "/claim/cut.py") 754), (Value.int 205 0), (Value.int 2 0), (Value.int 0 0), (Value.int 0 0), (Value.int 3 0), (Value.ref 341), (Value.bool true), (Value.int 276 0), (Value.ref 342), Value.none, (Value.ref 343), (Value.ref 344), (Value.ref 345), (Value.int 757 0), (Value.int 205 0), (Value.str (S "/claim/cut.py") 758)])) (List.toArray []))
noncomputable def o229 (P : Params) : Obj := (Obj.mk Value.none (Option.none) (Data.func (fnd F__law_words (S "_law_words") 0 [] Value.none Value.none Value.none Value.none (Option.none) Value.none Value.none 0)) (List.toArray []))
noncomputable def o230 (P : Params) : Obj := (Obj.mk Value.none (Option.none) (Data.func (fnd F__law_plain (S "_law_plain") 0 [] Value.none Value.none Value.none Value.none (Option.none) Value.none Value.none 0)) (List.toArray []))
noncomputable def o231 (P : Params) : Obj := (Obj.mk (Value.type "code") (Option.none) (Data.fields (List.toArray [(Value.str (S "law") 772), (Value.str (S "law") 773), (Value.str (S "/claim/cut.py") 774), (Value.int 219 0), (Value.int 1 0), (Value.int 0 0), (Value.int 0 0), (Value.int 3 0), (Value.ref 355), (Value.bool true), (Value.int 276 0), (Value.ref 356), Value.none, Value.none, Value.none, (Value.ref 357), (Value.int 775 0), (Value.int 219 0), (Value.str (S "/claim/cut.py") 776)])) (List.toArray []))
noncomputable def o232 (P : Params) : Obj := (Obj.mk (Value.type "code") (Option.none) (Data.fields (List.toArray [(Value.str (S "_law_sums") 701), (Value.str (S "_law_sums") 702), (Value.str (S "/claim/cut.py") 703), (Value.int 153 0), (Value.int 1 0), (Value.int 0 0), (Value.int 0 0), (Value.int 3 0), (Value.ref 305), (Value.bool true), (Value.int 276 0), (Value.ref 306), Value.none, (Value.ref 307), (Value.ref 308), (Value.ref 309), (Value.int 707 0), (Value.int 153 0), (Value.str (S "/claim/cut.py") 708)])) (List.toArray []))
noncomputable def o233 (P : Params) : Obj := (Obj.mk (Value.type "tuple") (Option.none) (Data.seq (List.toArray [(Value.str (S "desk") 763), (Value.str (S "pile") 764), (Value.str (S "gone") 765), (Value.str (S "turn") 766), (Value.str (S "goes") 767), (Value.str (S "comes") 768)]) 0) (List.toArray []))
noncomputable def o234 (P : Params) : Obj := (Obj.mk (Value.type "dict") (Option.none) (Data.dict (List.toArray [(DictEntry.mk (PyData.keyHash P (S "__name__")) (Value.str (S "__name__") 247) (Value.str (S "_sre") 246)), (DictEntry.mk (PyData.keyHash P (S "__doc__")) (Value.str (S "__doc__") 248) Value.none), (DictEntry.mk (PyData.keyHash P (S "__package__")) (Value.str (S "__package__") 250) (Value.str (S "") 249)), (DictEntry.mk (PyData.keyHash P (S "__loader__")) (Value.str (S "__loader__") 251) (Value.ref 14)), (DictEntry.mk (PyData.keyHash P (S "__spec__")) (Value.str (S "__spec__") 252) (Value.ref 26)), (DictEntry.mk (PyData.keyHash P (S "compile")) (Value.str (S "compile") 253) (Value.builtin "_sre.compile")), (DictEntry.mk (PyData.keyHash P (S "template")) (Value.str (S "template") 254) (Value.builtin "_sre.template")), (DictEntry.mk (PyData.keyHash P (S "getcodesize")) (Value.str (S "getcodesize") 255) (Value.builtin "_sre.getcodesize")), (DictEntry.mk (PyData.keyHash P (S "ascii_iscased")) (Value.str (S "ascii_iscased") 256) (Value.builtin "_sre.ascii_iscased")), (DictEntry.mk (PyData.keyHash P (S "unicode_iscased")) (Value.str (S "unicode_iscased") 257) (Value.builtin "_sre.unicode_iscased")), (DictEntry.mk (PyData.keyHash P (S "ascii_tolower")) (Value.str (S "ascii_tolower") 258) (Value.builtin "_sre.ascii_tolower")), (DictEntry.mk (PyData.keyHash P (S "unicode_tolower")) (Value.str (S "unicode_tolower") 259) (Value.builtin "_sre.unicode_tolower")), (DictEntry.mk (PyData.keyHash P (S "MAGIC")) (Value.str (S "MAGIC") 261) (Value.int 20230612 260)), (DictEntry.mk (PyData.keyHash P (S "CODESIZE")) (Value.str (S "CODESIZE") 263) (Value.int 4 262)), (DictEntry.mk (PyData.keyHash P (S "MAXREPEAT")) (Value.str (S "MAXREPEAT") 265) (Value.int 4294967295 264)), (DictEntry.mk (PyData.keyHash P (S "MAXGROUPS")) (Value.str (S "MAXGROUPS") 267) (Value.int 1073741823 266)), (DictEntry.mk (PyData.keyHash P (S "copyright")) (Value.str (S "copyright") 269) (Value.str (S " SRE 2.2.2 Copyright (c) 1997-2002 by Secret Labs AB ") 268))]) 17) (List.toArray []))
noncomputable def heap_68 (P : Params) : Heap := ⟨⟨[boot_o_0 P, o0 P, o1 P, o2 P, boot_o_4 P, boot_o_5 P, boot_o_6 P, boot_o_7 P, boot_o_8 P, boot_o_9 P, boot_o_10 P, o3 P, o4 P, o5 P, o6 P, boot_o_7 P, o7 P, o8 P, o9 P, o10 P, o11 P, o12 P, o13 P, o14 P, o15 P, o16 P, o17 P, o18 P]⟩, (Life.mk [] [] [] 0 [] [] false (List.toArray []) [] 0 false false false 0 [2000, 10, 10] false 0 true [] [] 0 false)⟩
noncomputable def heap_72 (P : Params) : Heap := ⟨⟨[boot_o_0 P, o0 P, o1 P, o2 P, boot_o_4 P, boot_o_5 P, boot_o_6 P, boot_o_7 P, boot_o_8 P, boot_o_9 P, boot_o_10 P, o3 P, o4 P, o5 P, o6 P, boot_o_7 P, o7 P, o8 P, o9 P, o10 P, o11 P, o12 P, o13 P, o14 P, o15 P, o16 P, o17 P, o18 P, boot_o_7 P, boot_o_8 P, o19 P, o20 P]⟩, (Life.mk [] [] [] 0 [] [] false (List.toArray []) [] 0 false false false 0 [2000, 10, 10] false 0 true [] [] 0 false)⟩
noncomputable def tree_73 (P : Params) : BT := (B (boot_o_0 P) (B (o0 P) (B (o2 P) (B (boot_o_7 P) (B (boot_o_7 P) (B (o20 P) N N) N) (B (o14 P) N N)) (B (o3 P) (B (o10 P) N N) (B (o18 P) N N))) (B (boot_o_5 P) (B (boot_o_9 P) (B (o8 P) N N) (B (o16 P) N N)) (B (o5 P) (B (o12 P) N N) (B (boot_o_8 P) N N)))) (B (o1 P) (B (boot_o_4 P) (B (boot_o_8 P) (B (o7 P) N N) (B (o15 P) N N)) (B (o4 P) (B (o11 P) N N) (B (boot_o_7 P) N N))) (B (boot_o_6 P) (B (boot_o_10 P) (B (o9 P) N N) (B (o17 P) N N)) (B (o6 P) (B (o13 P) N N) (B (o19 P) N N)))))
noncomputable def tree_91 (P : Params) : BT := (B (boot_o_0 P) (B (o0 P) (B (o21 P) (B (boot_o_7 P) (B (boot_o_7 P) (B (o20 P) N N) N) (B (o14 P) (B (o22 P) N N) N)) (B (o3 P) (B (o10 P) (B (boot_o_7 P) N N) N) (B (o18 P) (B (boot_o_7 P) N N) N))) (B (boot_o_5 P) (B (boot_o_9 P) (B (o8 P) (B (boot_o_8 P) N N) N) (B (o16 P) (B (boot_o_8 P) N N) N)) (B (o5 P) (B (o12 P) (B (o23 P) N N) N) (B (o24 P) (B (o25 P) N N) N)))) (B (o1 P) (B (boot_o_4 P) (B (boot_o_8 P) (B (o7 P) (B (boot_o_7 P) N N) N) (B (o15 P) (B (boot_o_7 P) N N) N)) (B (o4 P) (B (o11 P) (B (o26 P) N N) N) (B (boot_o_7 P) (B (o27 P) N N) N))) (B (boot_o_6 P) (B (boot_o_10 P) (B (o9 P) (B (o28 P) N N) N) (B (o17 P) (B (o29 P) N N) N)) (B (o6 P) (B (o13 P) (B (o30 P) N N) N) (B (o19 P) (B (o31 P) N N) N)))))
noncomputable def tree_132 (P : Params) : BT := (B (boot_o_0 P) (B (o0 P) (B (o32 P) (B (boot_o_7 P) (B (boot_o_7 P) (B (o20 P) (B (o33 P) N N) N) (B (boot_o_7 P) (B (o34 P) N N) N)) (B (o14 P) (B (o22 P) (B (boot_o_8 P) N N) N) (B (boot_o_8 P) N N))) (B (o3 P) (B (o10 P) (B (boot_o_7 P) (B (o35 P) N N) N) (B (o36 P) (B (o37 P) N N) N)) (B (o18 P) (B (boot_o_7 P) (B (o38 P) N N) N) (B (o39 P) N N)))) (B (boot_o_5 P) (B (boot_o_9 P) (B (o8 P) (B (boot_o_8 P) (B (o40 P) N N) N) (B (o41 P) (B (o42 P) N N) N)) (B (o16 P) (B (boot_o_8 P) (B (boot_o_7 P) N N) N) (B (boot_o_7 P) N N))) (B (o5 P) (B (o12 P) (B (o23 P) (B (o43 P) N N) N) (B (o44 P) N N)) (B (o45 P) (B (o25 P) (B (boot_o_7 P) N N) N) (B (boot_o_7 P) N N))))) (B (o1 P) (B (boot_o_4 P) (B (boot_o_8 P) (B (o7 P) (B (boot_o_7 P) (B (o46 P) N N) N) (B (o47 P) (B (boot_o_7 P) N N) N)) (B (o15 P) (B (boot_o_7 P) (B (o48 P) N N) N) (B (o49 P) N N))) (B (o4 P) (B (o11 P) (B (o26 P) (B (boot_o_6 P) N N) N) (B (o50 P) N N)) (B (boot_o_7 P) (B (o27 P) (B (o51 P) N N) N) (B (o52 P) N N)))) (B (boot_o_6 P) (B (boot_o_10 P) (B (o9 P) (B (o28 P) (B (o53 P) N N) N) (B (boot_o_7 P) (B (o54 P) N N) N)) (B (o17 P) (B (o29 P) (B (o55 P) N N) N) (B (o56 P) N N))) (B (o6 P) (B (o13 P) (B (o30 P) (B (boot_o_7 P) N N) N) (B (boot_o_7 P) N N)) (B (o19 P) (B (o31 P) (B (boot_o_8 P) N N) N) (B (o57 P) N N))))))
noncomputable def tree_218 (P : Params) : BT := (B (boot_o_0 P) (B (o0 P) (B (o58 P) (B (boot_o_7 P) (B (boot_o_7 P) (B (o20 P) (B (o33 P) (B (boot_o_7 P) N N) N) (B (boot_o_8 P) (B (o59 P) N N) N)) (B (boot_o_7 P) (B (o34 P) (B (o60 P) N N) N) (B (o61 P) N N))) (B (o14 P) (B (o22 P) (B (boot_o_8 P) (B (o62 P) N N) N) (B (o63 P) (B (o64 P) N N) N)) (B (boot_o_8 P) (B (o65 P) (B (o66 P) N N) N) (B (o67 P) N N)))) (B (o3 P) (B (o10 P) (B (boot_o_7 P) (B (o35 P) (B (boot_o_7 P) N N) N) (B (o68 P) (B (o69 P) N N) N)) (B (o36 P) (B (o37 P) (B (boot_o_8 P) N N) N) (B (o70 P) N N))) (B (o18 P) (B (boot_o_7 P) (B (o38 P) (B (boot_o_7 P) N N) N) (B (o71 P) N N)) (B (o39 P) (B (o72 P) (B (boot_o_8 P) N N) N) (B (o73 P) N N))))) (B (boot_o_5 P) (B (boot_o_9 P) (B (o8 P) (B (boot_o_8 P) (B (o40 P) (B (o74 P) N N) N) (B (boot_o_7 P) (B (o75 P) N N) N)) (B (o41 P) (B (o42 P) (B (o76 P) N N) N) (B (o77 P) N N))) (B (o16 P) (B (boot_o_8 P) (B (boot_o_7 P) (B (o78 P) N N) N) (B (o79 P) N N)) (B (boot_o_7 P) (B (o80 P) (B (o81 P) N N) N) (B (o82 P) N N)))) (B (o5 P) (B (o12 P) (B (o23 P) (B (o43 P) (B (o83 P) N N) N) (B (boot_o_7 P) (B (o84 P) N N) N)) (B (o44 P) (B (o47 P) (B (boot_o_7 P) N N) N) (B (o85 P) N N))) (B (o86 P) (B (o25 P) (B (boot_o_7 P) (B (o87 P) N N) N) (B (boot_o_7 P) N N)) (B (boot_o_7 P) (B (o81 P) (B (boot_o_7 P) N N) N) (B (boot_o_8 P) N N)))))) (B (o1 P) (B (boot_o_4 P) (B (boot_o_8 P) (B (o7 P) (B (boot_o_7 P) (B (o46 P) (B (o88 P) N N) N) (B (o89 P) (B (o90 P) N N) N)) (B (o47 P) (B (boot_o_7 P) (B (o91 P) N N) N) (B (boot_o_7 P) N N))) (B (o15 P) (B (boot_o_7 P) (B (o48 P) (B (o92 P) N N) N) (B (boot_o_7 P) N N)) (B (o49 P) (B (boot_o_7 P) (B (o93 P) N N) N) (B (boot_o_7 P) N N)))) (B (o4 P) (B (o11 P) (B (o26 P) (B (boot_o_6 P) (B (boot_o_8 P) N N) N) (B (o94 P) (B (o95 P) N N) N)) (B (o50 P) (B (o96 P) (B (o97 P) N N) N) (B (o81 P) N N))) (B (boot_o_7 P) (B (o27 P) (B (o51 P) (B (boot_o_8 P) N N) N) (B (o98 P) N N)) (B (o52 P) (B (o99 P) (B (o100 P) N N) N) (B (boot_o_7 P) N N))))) (B (boot_o_6 P) (B (boot_o_10 P) (B (o9 P) (B (o28 P) (B (o53 P) (B (o101 P) N N) N) (B (o102 P) (B (o103 P) N N) N)) (B (boot_o_7 P) (B (o54 P) (B (boot_o_7 P) N N) N) (B (o104 P) N N))) (B (o17 P) (B (o29 P) (B (o55 P) (B (o105 P) N N) N) (B (o106 P) N N)) (B (o56 P) (B (o107 P) (B (o108 P) N N) N) (B (o109 P) N N)))) (B (o6 P) (B (o13 P) (B (o30 P) (B (boot_o_7 P) (B (boot_o_7 P) N N) N) (B (boot_o_8 P) (B (o110 P) N N) N)) (B (boot_o_7 P) (B (o111 P) (B (o112 P) N N) N) (B (boot_o_8 P) N N))) (B (o19 P) (B (o31 P) (B (boot_o_8 P) (B (boot_o_7 P) N N) N) (B (boot_o_8 P) N N)) (B (o57 P) (B (o113 P) (B (o114 P) N N) N) (B (o115 P) N N)))))))
noncomputable def tree_229 (P : Params) : BT := (B (boot_o_0 P) (B (o0 P) (B (o116 P) (B (boot_o_7 P) (B (boot_o_7 P) (B (o20 P) (B (o33 P) (B (boot_o_7 P) N N) N) (B (boot_o_8 P) (B (o59 P) N N) N)) (B (boot_o_7 P) (B (o34 P) (B (o60 P) N N) N) (B (o61 P) (B (o105 P) N N) N))) (B (o14 P) (B (o22 P) (B (boot_o_8 P) (B (o62 P) N N) N) (B (o63 P) (B (o64 P) N N) N)) (B (boot_o_8 P) (B (o65 P) (B (o66 P) N N) N) (B (o67 P) N N)))) (B (o3 P) (B (o10 P) (B (boot_o_7 P) (B (o35 P) (B (boot_o_7 P) N N) N) (B (o68 P) (B (o69 P) N N) N)) (B (o36 P) (B (o37 P) (B (boot_o_8 P) N N) N) (B (o70 P) N N))) (B (o18 P) (B (boot_o_7 P) (B (o38 P) (B (boot_o_7 P) N N) N) (B (o71 P) (B (o117 P) N N) N)) (B (o39 P) (B (o72 P) (B (boot_o_8 P) N N) N) (B (o73 P) N N))))) (B (boot_o_5 P) (B (boot_o_9 P) (B (o8 P) (B (boot_o_8 P) (B (o40 P) (B (o74 P) N N) N) (B (boot_o_7 P) (B (o75 P) N N) N)) (B (o41 P) (B (o42 P) (B (o76 P) N N) N) (B (o77 P) (B (o118 P) N N) N))) (B (o16 P) (B (boot_o_8 P) (B (boot_o_7 P) (B (o78 P) N N) N) (B (o79 P) (B (boot_o_6 P) N N) N)) (B (boot_o_7 P) (B (o80 P) (B (o81 P) N N) N) (B (o82 P) N N)))) (B (o5 P) (B (o12 P) (B (o23 P) (B (o43 P) (B (o83 P) N N) N) (B (boot_o_7 P) (B (o84 P) N N) N)) (B (o44 P) (B (o47 P) (B (boot_o_7 P) N N) N) (B (o85 P) N N))) (B (o86 P) (B (o25 P) (B (boot_o_7 P) (B (o87 P) N N) N) (B (boot_o_7 P) (B (o119 P) N N) N)) (B (boot_o_7 P) (B (o81 P) (B (boot_o_7 P) N N) N) (B (boot_o_8 P) N N)))))) (B (o1 P) (B (boot_o_4 P) (B (boot_o_8 P) (B (o7 P) (B (boot_o_7 P) (B (o46 P) (B (o88 P) N N) N) (B (o89 P) (B (o90 P) N N) N)) (B (o47 P) (B (boot_o_7 P) (B (o91 P) N N) N) (B (boot_o_7 P) (B (o120 P) N N) N))) (B (o15 P) (B (boot_o_7 P) (B (o48 P) (B (o92 P) N N) N) (B (boot_o_7 P) (B (o121 P) N N) N)) (B (o49 P) (B (boot_o_7 P) (B (o93 P) N N) N) (B (boot_o_7 P) N N)))) (B (o4 P) (B (o11 P) (B (o26 P) (B (boot_o_6 P) (B (boot_o_8 P) N N) N) (B (o94 P) (B (o95 P) N N) N)) (B (o50 P) (B (o96 P) (B (o97 P) N N) N) (B (o81 P) N N))) (B (boot_o_7 P) (B (o27 P) (B (o51 P) (B (boot_o_8 P) N N) N) (B (o98 P) (B (o122 P) N N) N)) (B (o52 P) (B (o99 P) (B (o100 P) N N) N) (B (boot_o_7 P) N N))))) (B (boot_o_6 P) (B (boot_o_10 P) (B (o9 P) (B (o28 P) (B (o53 P) (B (o101 P) N N) N) (B (o102 P) (B (o103 P) N N) N)) (B (boot_o_7 P) (B (o54 P) (B (boot_o_7 P) N N) N) (B (o104 P) N N))) (B (o17 P) (B (o29 P) (B (o55 P) (B (o105 P) N N) N) (B (o106 P) (B (o105 P) N N) N)) (B (o56 P) (B (o107 P) (B (o108 P) N N) N) (B (o109 P) N N)))) (B (o6 P) (B (o13 P) (B (o30 P) (B (boot_o_7 P) (B (boot_o_7 P) N N) N) (B (boot_o_8 P) (B (o110 P) N N) N)) (B (boot_o_7 P) (B (o111 P) (B (o112 P) N N) N) (B (boot_o_8 P) N N))) (B (o19 P) (B (o31 P) (B (boot_o_8 P) (B (boot_o_7 P) N N) N) (B (boot_o_8 P) (B (boot_o_6 P) N N) N)) (B (o57 P) (B (o113 P) (B (o114 P) N N) N) (B (o115 P) N N)))))))
noncomputable def tree_358 (P : Params) : BT := (B (boot_o_0 P) (B (o0 P) (B (o123 P) (B (boot_o_7 P) (B (boot_o_7 P) (B (o20 P) (B (o33 P) (B (boot_o_7 P) (B (o124 P) N N) N) (B (o125 P) N N)) (B (boot_o_8 P) (B (o59 P) (B (boot_o_7 P) N N) N) (B (o126 P) N N))) (B (boot_o_7 P) (B (o34 P) (B (o60 P) (B (o127 P) N N) N) (B (boot_o_7 P) N N)) (B (o61 P) (B (o105 P) (B (o128 P) N N) N) (B (o129 P) N N)))) (B (o14 P) (B (o22 P) (B (boot_o_8 P) (B (o62 P) (B (o130 P) N N) N) (B (o131 P) N N)) (B (o63 P) (B (o64 P) (B (o132 P) N N) N) (B (o133 P) N N))) (B (boot_o_8 P) (B (o65 P) (B (o66 P) (B (o134 P) N N) N) (B (boot_o_8 P) N N)) (B (o67 P) (B (o135 P) N N) (B (o136 P) N N))))) (B (o3 P) (B (o10 P) (B (boot_o_7 P) (B (o35 P) (B (boot_o_7 P) (B (boot_o_8 P) N N) N) (B (o137 P) N N)) (B (o68 P) (B (o69 P) (B (boot_o_7 P) N N) N) (B (boot_o_8 P) N N))) (B (o36 P) (B (o37 P) (B (boot_o_8 P) (B (o138 P) N N) N) (B (o139 P) N N)) (B (o70 P) (B (o47 P) N N) (B (o140 P) N N)))) (B (o18 P) (B (boot_o_7 P) (B (o38 P) (B (boot_o_7 P) (B (o141 P) N N) N) (B (boot_o_7 P) N N)) (B (o71 P) (B (o117 P) (B (o142 P) N N) N) (B (o143 P) N N))) (B (o39 P) (B (o72 P) (B (boot_o_8 P) (B (o144 P) N N) N) (B (boot_o_7 P) N N)) (B (o73 P) (B (boot_o_8 P) N N) (B (o145 P) N N)))))) (B (boot_o_5 P) (B (boot_o_9 P) (B (o8 P) (B (boot_o_8 P) (B (o40 P) (B (o74 P) (B (o146 P) N N) N) (B (boot_o_7 P) N N)) (B (boot_o_7 P) (B (o75 P) (B (o147 P) N N) N) (B (o148 P) N N))) (B (o41 P) (B (o42 P) (B (o76 P) (B (boot_o_8 P) N N) N) (B (o149 P) N N)) (B (o77 P) (B (o118 P) N N) (B (boot_o_7 P) N N)))) (B (o16 P) (B (boot_o_8 P) (B (boot_o_7 P) (B (o78 P) (B (boot_o_7 P) N N) N) (B (boot_o_8 P) N N)) (B (o79 P) (B (boot_o_6 P) (B (o150 P) N N) N) (B (boot_o_7 P) N N))) (B (boot_o_7 P) (B (o80 P) (B (o81 P) (B (o151 P) N N) N) (B (o152 P) N N)) (B (o82 P) (B (o105 P) N N) (B (boot_o_8 P) N N))))) (B (o5 P) (B (o12 P) (B (o23 P) (B (o43 P) (B (o83 P) (B (boot_o_7 P) N N) N) (B (o153 P) N N)) (B (boot_o_7 P) (B (o84 P) (B (o154 P) N N) N) (B (boot_o_7 P) N N))) (B (o44 P) (B (o47 P) (B (boot_o_7 P) (B (boot_o_7 P) N N) N) (B (o155 P) N N)) (B (o85 P) (B (boot_o_7 P) N N) (B (o156 P) N N)))) (B (o157 P) (B (o25 P) (B (boot_o_7 P) (B (o87 P) (B (o158 P) N N) N) (B (o159 P) N N)) (B (boot_o_7 P) (B (o119 P) (B (o160 P) N N) N) (B (o161 P) N N))) (B (boot_o_7 P) (B (o81 P) (B (boot_o_7 P) (B (boot_o_8 P) N N) N) (B (o162 P) N N)) (B (boot_o_8 P) (B (boot_o_7 P) N N) (B (boot_o_7 P) N N))))))) (B (o1 P) (B (boot_o_4 P) (B (boot_o_8 P) (B (o7 P) (B (boot_o_7 P) (B (o46 P) (B (o88 P) (B (o163 P) N N) N) (B (o164 P) N N)) (B (o89 P) (B (o90 P) (B (o165 P) N N) N) (B (o166 P) N N))) (B (o47 P) (B (boot_o_7 P) (B (o91 P) (B (boot_o_7 P) N N) N) (B (boot_o_8 P) N N)) (B (boot_o_7 P) (B (o120 P) (B (o167 P) N N) N) (B (o105 P) N N)))) (B (o15 P) (B (boot_o_7 P) (B (o48 P) (B (o92 P) (B (o168 P) N N) N) (B (boot_o_7 P) N N)) (B (boot_o_7 P) (B (o121 P) (B (o169 P) N N) N) (B (o170 P) N N))) (B (o49 P) (B (boot_o_7 P) (B (o93 P) (B (boot_o_7 P) N N) N) (B (o171 P) N N)) (B (boot_o_7 P) (B (o172 P) N N) (B (boot_o_7 P) N N))))) (B (o4 P) (B (o11 P) (B (o26 P) (B (boot_o_6 P) (B (boot_o_8 P) (B (o173 P) N N) N) (B (boot_o_7 P) N N)) (B (o94 P) (B (o95 P) (B (boot_o_8 P) N N) N) (B (o174 P) N N))) (B (o50 P) (B (o96 P) (B (o97 P) (B (o175 P) N N) N) (B (o176 P) N N)) (B (o81 P) (B (o177 P) N N) (B (boot_o_7 P) N N)))) (B (boot_o_7 P) (B (o27 P) (B (o51 P) (B (boot_o_8 P) (B (boot_o_7 P) N N) N) (B (o178 P) N N)) (B (o98 P) (B (o122 P) (B (o179 P) N N) N) (B (boot_o_7 P) N N))) (B (o52 P) (B (o99 P) (B (o100 P) (B (boot_o_7 P) N N) N) (B (boot_o_8 P) N N)) (B (boot_o_7 P) (B (o180 P) N N) (B (o181 P) N N)))))) (B (boot_o_6 P) (B (boot_o_10 P) (B (o9 P) (B (o28 P) (B (o53 P) (B (o101 P) (B (boot_o_7 P) N N) N) (B (boot_o_8 P) N N)) (B (o102 P) (B (o103 P) (B (o182 P) N N) N) (B (boot_o_7 P) N N))) (B (boot_o_7 P) (B (o54 P) (B (boot_o_7 P) (B (o183 P) N N) N) (B (boot_o_7 P) N N)) (B (o104 P) (B (boot_o_7 P) N N) (B (boot_o_8 P) N N)))) (B (o17 P) (B (o29 P) (B (o55 P) (B (o105 P) (B (boot_o_8 P) N N) N) (B (o184 P) N N)) (B (o106 P) (B (o105 P) (B (o185 P) N N) N) (B (boot_o_8 P) N N))) (B (o56 P) (B (o107 P) (B (o108 P) (B (o186 P) N N) N) (B (o187 P) N N)) (B (o109 P) (B (boot_o_7 P) N N) (B (o188 P) N N))))) (B (o6 P) (B (o13 P) (B (o30 P) (B (boot_o_7 P) (B (boot_o_7 P) (B (o189 P) N N) N) (B (o190 P) N N)) (B (boot_o_8 P) (B (o110 P) (B (boot_o_7 P) N N) N) (B (o191 P) N N))) (B (boot_o_7 P) (B (o111 P) (B (o112 P) (B (boot_o_8 P) N N) N) (B (boot_o_7 P) N N)) (B (boot_o_8 P) (B (o192 P) N N) (B (o193 P) N N)))) (B (o19 P) (B (o31 P) (B (boot_o_8 P) (B (boot_o_7 P) (B (o194 P) N N) N) (B (o195 P) N N)) (B (boot_o_8 P) (B (boot_o_6 P) (B (o196 P) N N) N) (B (o197 P) N N))) (B (o57 P) (B (o113 P) (B (o114 P) (B (o198 P) N N) N) (B (boot_o_7 P) N N)) (B (o115 P) (B (o199 P) N N) (B (boot_o_8 P) N N))))))))
noncomputable def tree_499 (P : Params) : BT := (B (boot_o_0 P) (B (o0 P) (B (o200 P) (B (boot_o_7 P) (B (boot_o_7 P) (B (o20 P) (B (o33 P) (B (boot_o_7 P) (B (o124 P) N N) N) (B (o125 P) (B (o201 P) N N) N)) (B (boot_o_8 P) (B (o59 P) (B (boot_o_7 P) N N) N) (B (o126 P) (B (boot_o_7 P) N N) N))) (B (boot_o_7 P) (B (o34 P) (B (o60 P) (B (o127 P) N N) N) (B (boot_o_7 P) (B (boot_o_8 P) N N) N)) (B (o61 P) (B (o105 P) (B (o128 P) N N) N) (B (o129 P) N N)))) (B (o14 P) (B (o22 P) (B (boot_o_8 P) (B (o62 P) (B (o130 P) N N) N) (B (o131 P) (B (o202 P) N N) N)) (B (o63 P) (B (o64 P) (B (o132 P) N N) N) (B (o133 P) (B (o203 P) N N) N))) (B (boot_o_8 P) (B (o65 P) (B (o66 P) (B (o134 P) N N) N) (B (boot_o_8 P) (B (o204 P) N N) N)) (B (o67 P) (B (o135 P) (B (o205 P) N N) N) (B (o136 P) N N))))) (B (o3 P) (B (o10 P) (B (boot_o_7 P) (B (o35 P) (B (boot_o_7 P) (B (boot_o_8 P) N N) N) (B (o137 P) (B (o206 P) N N) N)) (B (o68 P) (B (o69 P) (B (boot_o_7 P) N N) N) (B (boot_o_8 P) (B (boot_o_7 P) N N) N))) (B (o36 P) (B (o37 P) (B (boot_o_8 P) (B (o138 P) N N) N) (B (o139 P) (B (o207 P) N N) N)) (B (o70 P) (B (o47 P) (B (o208 P) N N) N) (B (o140 P) N N)))) (B (o18 P) (B (boot_o_7 P) (B (o38 P) (B (boot_o_7 P) (B (o141 P) N N) N) (B (boot_o_7 P) (B (o209 P) N N) N)) (B (o71 P) (B (o117 P) (B (o142 P) N N) N) (B (o143 P) N N))) (B (o39 P) (B (o72 P) (B (boot_o_8 P) (B (o144 P) N N) N) (B (boot_o_7 P) (B (o210 P) N N) N)) (B (o73 P) (B (boot_o_8 P) (B (o211 P) N N) N) (B (o145 P) N N)))))) (B (boot_o_5 P) (B (boot_o_9 P) (B (o8 P) (B (boot_o_8 P) (B (o40 P) (B (o74 P) (B (o146 P) N N) N) (B (boot_o_7 P) (B (o212 P) N N) N)) (B (boot_o_7 P) (B (o75 P) (B (o147 P) N N) N) (B (o148 P) (B (o213 P) N N) N))) (B (o41 P) (B (o42 P) (B (o76 P) (B (boot_o_8 P) N N) N) (B (o149 P) (B (boot_o_7 P) N N) N)) (B (o77 P) (B (o118 P) (B (boot_o_7 P) N N) N) (B (boot_o_7 P) N N)))) (B (o16 P) (B (boot_o_8 P) (B (boot_o_7 P) (B (o78 P) (B (boot_o_7 P) N N) N) (B (boot_o_8 P) (B (boot_o_7 P) N N) N)) (B (o79 P) (B (boot_o_6 P) (B (o150 P) N N) N) (B (boot_o_7 P) N N))) (B (boot_o_7 P) (B (o80 P) (B (o81 P) (B (o151 P) N N) N) (B (o152 P) (B (o214 P) N N) N)) (B (o82 P) (B (o105 P) (B (boot_o_8 P) N N) N) (B (boot_o_8 P) N N))))) (B (o5 P) (B (o12 P) (B (o23 P) (B (o43 P) (B (o83 P) (B (boot_o_7 P) N N) N) (B (o153 P) (B (boot_o_8 P) N N) N)) (B (boot_o_7 P) (B (o84 P) (B (o154 P) N N) N) (B (boot_o_7 P) (B (o215 P) N N) N))) (B (o44 P) (B (o47 P) (B (boot_o_7 P) (B (boot_o_7 P) N N) N) (B (o155 P) (B (boot_o_7 P) N N) N)) (B (o85 P) (B (boot_o_7 P) (B (o216 P) N N) N) (B (o156 P) N N)))) (B (o217 P) (B (o25 P) (B (boot_o_7 P) (B (o87 P) (B (o158 P) N N) N) (B (o159 P) (B (o218 P) N N) N)) (B (boot_o_7 P) (B (o119 P) (B (o160 P) N N) N) (B (o161 P) N N))) (B (boot_o_7 P) (B (o81 P) (B (boot_o_7 P) (B (boot_o_8 P) N N) N) (B (o162 P) (B (boot_o_8 P) N N) N)) (B (boot_o_8 P) (B (boot_o_7 P) (B (boot_o_7 P) N N) N) (B (boot_o_7 P) N N))))))) (B (o1 P) (B (boot_o_4 P) (B (boot_o_8 P) (B (o7 P) (B (boot_o_7 P) (B (o46 P) (B (o88 P) (B (o163 P) N N) N) (B (o164 P) (B (boot_o_7 P) N N) N)) (B (o89 P) (B (o90 P) (B (o165 P) N N) N) (B (o166 P) (B (o219 P) N N) N))) (B (o47 P) (B (boot_o_7 P) (B (o91 P) (B (boot_o_7 P) N N) N) (B (boot_o_8 P) (B (o220 P) N N) N)) (B (boot_o_7 P) (B (o120 P) (B (o167 P) N N) N) (B (o105 P) N N)))) (B (o15 P) (B (boot_o_7 P) (B (o48 P) (B (o92 P) (B (o168 P) N N) N) (B (boot_o_7 P) (B (o221 P) N N) N)) (B (boot_o_7 P) (B (o121 P) (B (o169 P) N N) N) (B (o170 P) N N))) (B (o49 P) (B (boot_o_7 P) (B (o93 P) (B (boot_o_7 P) N N) N) (B (o171 P) (B (boot_o_7 P) N N) N)) (B (boot_o_7 P) (B (o172 P) (B (boot_o_7 P) N N) N) (B (boot_o_7 P) N N))))) (B (o4 P) (B (o11 P) (B (o26 P) (B (boot_o_6 P) (B (boot_o_8 P) (B (o173 P) N N) N) (B (boot_o_7 P) (B (boot_o_7 P) N N) N)) (B (o94 P) (B (o95 P) (B (boot_o_8 P) N N) N) (B (o174 P) (B (boot_o_8 P) N N) N))) (B (o50 P) (B (o96 P) (B (o97 P) (B (o175 P) N N) N) (B (o176 P) (B (o222 P) N N) N)) (B (o81 P) (B (o177 P) (B (boot_o_7 P) N N) N) (B (boot_o_7 P) N N)))) (B (boot_o_7 P) (B (o27 P) (B (o51 P) (B (boot_o_8 P) (B (boot_o_7 P) N N) N) (B (o178 P) (B (o223 P) N N) N)) (B (o98 P) (B (o122 P) (B (o179 P) N N) N) (B (boot_o_7 P) N N))) (B (o52 P) (B (o99 P) (B (o100 P) (B (boot_o_7 P) N N) N) (B (boot_o_8 P) (B (boot_o_7 P) N N) N)) (B (boot_o_7 P) (B (o180 P) (B (o224 P) N N) N) (B (o181 P) N N)))))) (B (boot_o_6 P) (B (boot_o_10 P) (B (o9 P) (B (o28 P) (B (o53 P) (B (o101 P) (B (boot_o_7 P) N N) N) (B (boot_o_8 P) (B (o225 P) N N) N)) (B (o102 P) (B (o103 P) (B (o182 P) N N) N) (B (boot_o_7 P) (B (o226 P) N N) N))) (B (boot_o_7 P) (B (o54 P) (B (boot_o_7 P) (B (o183 P) N N) N) (B (boot_o_7 P) (B (o227 P) N N) N)) (B (o104 P) (B (boot_o_7 P) (B (boot_o_8 P) N N) N) (B (boot_o_8 P) N N)))) (B (o17 P) (B (o29 P) (B (o55 P) (B (o105 P) (B (boot_o_8 P) N N) N) (B (o184 P) (B (boot_o_8 P) N N) N)) (B (o106 P) (B (o105 P) (B (o185 P) N N) N) (B (boot_o_8 P) N N))) (B (o56 P) (B (o107 P) (B (o108 P) (B (o186 P) N N) N) (B (o187 P) (B (o228 P) N N) N)) (B (o109 P) (B (boot_o_7 P) (B (o229 P) N N) N) (B (o188 P) N N))))) (B (o6 P) (B (o13 P) (B (o30 P) (B (boot_o_7 P) (B (boot_o_7 P) (B (o189 P) N N) N) (B (o190 P) (B (o230 P) N N) N)) (B (boot_o_8 P) (B (o110 P) (B (boot_o_7 P) N N) N) (B (o191 P) (B (o231 P) N N) N))) (B (boot_o_7 P) (B (o111 P) (B (o112 P) (B (boot_o_8 P) N N) N) (B (boot_o_7 P) (B (boot_o_8 P) N N) N)) (B (boot_o_8 P) (B (o192 P) (B (o232 P) N N) N) (B (o193 P) N N)))) (B (o19 P) (B (o31 P) (B (boot_o_8 P) (B (boot_o_7 P) (B (o194 P) N N) N) (B (o195 P) (B (boot_o_7 P) N N) N)) (B (boot_o_8 P) (B (boot_o_6 P) (B (o196 P) N N) N) (B (o197 P) N N))) (B (o57 P) (B (o113 P) (B (o114 P) (B (o198 P) N N) N) (B (boot_o_7 P) (B (o233 P) N N) N)) (B (o115 P) (B (o199 P) (B (boot_o_8 P) N N) N) (B (boot_o_8 P) N N))))))))
noncomputable def heap_500 (P : Params) : Heap := ⟨⟨[boot_o_0 P, o0 P, o1 P, o200 P, boot_o_4 P, boot_o_5 P, boot_o_6 P, boot_o_7 P, boot_o_8 P, boot_o_9 P, boot_o_10 P, o3 P, o4 P, o5 P, o6 P, boot_o_7 P, o7 P, o8 P, o9 P, o10 P, o11 P, o12 P, o13 P, o14 P, o15 P, o16 P, o17 P, o18 P, boot_o_7 P, o217 P, o19 P, o20 P, boot_o_7 P, boot_o_8 P, o28 P, boot_o_7 P, o26 P, o23 P, o30 P, o22 P, boot_o_7 P, boot_o_8 P, o29 P, boot_o_7 P, o27 P, o25 P, o31 P, boot_o_7 P, o47 P, o41 P, boot_o_7 P, o36 P, o50 P, o44 P, boot_o_7 P, boot_o_8 P, o49 P, boot_o_7 P, o56 P, o39 P, o52 P, boot_o_7 P, o57 P, o33 P, o46 P, o40 P, o53 P, o35 P, boot_o_6 P, o43 P, boot_o_7 P, boot_o_8 P, o48 P, boot_o_7 P, o55 P, o38 P, o51 P, boot_o_7 P, boot_o_8 P, o34 P, boot_o_7 P, o42 P, o54 P, o37 P, o96 P, o47 P, o111 P, o65 P, boot_o_7 P, o80 P, o107 P, o72 P, o99 P, o81 P, o113 P, boot_o_8 P, o89 P, boot_o_7 P, o102 P, o68 P, o94 P, boot_o_7 P, boot_o_8 P, o63 P, boot_o_7 P, o79 P, o106 P, o71 P, o98 P, boot_o_7 P, boot_o_8 P, o61 P, boot_o_7 P, o77 P, o104 P, o70 P, o81 P, o85 P, boot_o_8 P, o67 P, boot_o_7 P, o82 P, o109 P, o73 P, boot_o_7 P, boot_o_8 P, o115 P, boot_o_7 P, o88 P, o74 P, o101 P, boot_o_7 P, boot_o_8 P, o83 P, boot_o_7 P, o62 P, o92 P, o78 P, o105 P, boot_o_7 P, boot_o_8 P, o87 P, boot_o_7 P, o60 P, o91 P, o76 P, boot_o_7 P, boot_o_8 P, o97 P, boot_o_7 P, o112 P, o66 P, o93 P, o81 P, o108 P, boot_o_8 P, o100 P, boot_o_7 P, o114 P, o59 P, o90 P, o75 P, o103 P, o69 P, o95 P, o84 P, o110 P, o64 P, o121 P, boot_o_6 P, o105 P, o117 P, o122 P, o119 P, boot_o_6 P, o105 P, o120 P, o118 P, boot_o_7 P, o47 P, o177 P, boot_o_7 P, o192 P, o135 P, o172 P, o105 P, boot_o_7 P, boot_o_8 P, o180 P, boot_o_7 P, o199 P, o125 P, o164 P, boot_o_7 P, boot_o_8 P, o137 P, boot_o_7 P, o153 P, o190 P, o131 P, boot_o_7 P, boot_o_8 P, o184 P, boot_o_7 P, o178 P, o159 P, o195 P, boot_o_7 P, boot_o_8 P, o149 P, boot_o_7 P, o139 P, o176 P, o155 P, boot_o_7 P, boot_o_8 P, o171 P, o152 P, o187 P, boot_o_7 P, boot_o_8 P, o162 P, boot_o_7 P, o126 P, o166 P, o148 P, boot_o_7 P, boot_o_8 P, o174 P, boot_o_7 P, o191 P, o133 P, o170 P, boot_o_7 P, boot_o_8 P, o143 P, boot_o_7 P, o161 P, o197 P, o129 P, o105 P, boot_o_7 P, boot_o_8 P, o140 P, boot_o_7 P, o156 P, o193 P, o136 P, boot_o_7 P, boot_o_8 P, o188 P, o145 P, o181 P, boot_o_7 P, boot_o_8 P, o124 P, o163 P, o146 P, boot_o_7 P, boot_o_8 P, o173 P, boot_o_7 P, o189 P, o130 P, o168 P, boot_o_7 P, boot_o_8 P, o141 P, boot_o_7 P, o158 P, o194 P, o127 P, boot_o_7 P, boot_o_8 P, o183 P, o138 P, o175 P, boot_o_7 P, boot_o_8 P, o134 P, boot_o_7 P, o151 P, o186 P, o144 P, boot_o_7 P, boot_o_8 P, o198 P, boot_o_7 P, o165 P, o147 P, o182 P, boot_o_7 P, boot_o_8 P, o154 P, boot_o_7 P, o132 P, o169 P, o150 P, o185 P, o142 P, o179 P, o160 P, o196 P, o128 P, o167 P, boot_o_7 P, boot_o_8 P, o208 P, boot_o_7 P, o216 P, o232 P, o205 P, boot_o_7 P, boot_o_8 P, o229 P, o211 P, o224 P, boot_o_7 P, boot_o_8 P, o201 P, boot_o_7 P, o212 P, o225 P, o206 P, boot_o_7 P, boot_o_8 P, o230 P, o202 P, o221 P, boot_o_7 P, boot_o_8 P, o209 P, o223 P, o218 P, boot_o_7 P, boot_o_8 P, o220 P, boot_o_7 P, o227 P, o207 P, o222 P, boot_o_7 P, boot_o_8 P, o204 P, boot_o_7 P, o214 P, o228 P, o210 P, boot_o_7 P, boot_o_8 P, o233 P, boot_o_7 P, o219 P, o213 P, o226 P, boot_o_7 P, boot_o_8 P, o215 P, o231 P, o203 P]⟩, (Life.mk [] [] [] 0 [] [] false (List.toArray []) [] 0 false false false 0 [2000, 10, 10] false 0 true [] [] 0 false)⟩
noncomputable def heap_28 (P : Params) : Heap := ⟨⟨[boot_o_0 P, o0 P, o1 P, o2 P, boot_o_4 P, boot_o_5 P, boot_o_6 P, boot_o_7 P, boot_o_8 P, boot_o_9 P, boot_o_10 P, o234 P, o4 P, o5 P, o6 P, boot_o_7 P, o7 P, o8 P, o9 P, o10 P, o11 P, o12 P, o13 P, o14 P, o15 P, o16 P, o17 P, o18 P]⟩, (Life.mk [] [] [] 0 [] [] false (List.toArray []) [] 0 false false false 0 [2000, 10, 10] false 0 true [] [] 0 false)⟩
noncomputable def q : Program := by
  refine' (?f : ∀ x : Program, view pw [0, 1, 3, 4, 5, 6, 7, 8, 9, 11, 12, 14, 15, 16, 18, 19, 20, 21, 22, 23, 24, 25, 26] = x → Program) (Program.mk (Module.mk [_, _, _, _, _, _, _, _, _, _, _, _, _, _, _, _, _, _, _, _, _, _, _] _ _ _ _) _ _ _ _ _) ?h
  case f => exact fun x _ => x
  case h => rfl
noncomputable abbrev lo : List Str := [Str.ofString "COMPILER_FLAG_NAMES", Str.ofString "UNKNOWN", Str.ofString "_Accumulator", Str.ofString "_name_disallowed_re", Str.ofString "_value_disallowed_re"]
noncomputable def env : Env := { scope := pw.main.scope, locals := mainNs, globals := mainNs, cells := [], code := Value.ref 30, frame := some 31 }
noncomputable abbrev bE : List Stmt := behindTheImports pw
noncomputable abbrev cE : Code := Code.body bE env
noncomputable abbrev ann : Option Value := some (Value.ref 6)
noncomputable abbrev p0 : Pos := ⟨0, 0, 0, 0⟩
noncomputable abbrev p1 : Pos := ⟨7, 0, 18, 27⟩
noncomputable abbrev p2 : Pos := ⟨42, 0, 42, 11⟩
noncomputable abbrev p3 : Pos := ⟨43, 0, 73, 32⟩
noncomputable abbrev p4 : Pos := ⟨76, 0, 76, 20⟩
noncomputable abbrev p5 : Pos := ⟨77, 0, 151, 16⟩
noncomputable abbrev p6 : Pos := ⟨219, 0, 254, 34⟩
noncomputable abbrev fr : List Frame := [topFrame p0]
noncomputable def sts1 : List Stmt := [tp 1, tp 2, tp 3, tp 4]
noncomputable def sts2 : List Stmt := [tp 5, tp 6, tp 7, tp 8, tp 9, tp 10, tp 11]
noncomputable def sts3 : List Stmt := [tp 12]
noncomputable def sts4 : List Stmt := [tp 13, tp 14, tp 15]
noncomputable def sts5 : List Stmt := [tp 16]
noncomputable def sts6 : List Stmt := [tp 17, tp 18, tp 19, tp 20, tp 21, tp 22, tp 23, tp 24, tp 25, tp 26]
theorem split : behindTheImports pw = sts1 ++ (sts2 ++ (sts3 ++ (sts4 ++ (sts5 ++ (sts6 ++ []))))) := by kernel_rfl
noncomputable abbrev sh (h : Params → Heap) (k : Nat) (w : World) (os : OsState) : Shared := ⟨h w.params, ⟨[]⟩, {}, k, os⟩
noncomputable abbrev tr (t : Params → BT) (n k : Nat) (w : World) (os : OsState) : SharedT := ⟨t w.params, n, {}, ⟨[]⟩, {}, k, os⟩
noncomputable abbrev th0 : Thread := ⟨denote treeTable cE, cE, p0, fr⟩
open PySem.W.Fast
theorem pre_t (w : World) : (fun os => tw15667345088766844465 tw14364793385576792824 pw w 28 ann 12 (sh heap_68 276 w os) (topStub pw)) = fun os => some (sh heap_72 282 w os, (⟨tw11892475500146522536 tw14364793385576792824 cE, cE, p0, fr⟩ : Thread)) := by kernel_rfl
theorem pre (w : World) : (fun os => topGo treeTable pw w 28 ann 12 (sh heap_68 276 w os) (topStub pw)) = fun os => some (sh heap_72 282 w os, th0) := by
  have h := pre_t w
  rw [← te15667345088766844465, ← te14364793385576792824, ← te11892475500146522536] at h
  exact h
theorem block_t (w : World) : (fun os => tw14374325043358763698 tw14364793385576792824 pw w 28 ann 1 1 (sh heap_72 282 w os) (blockOf bE env cE p0 fr)) = fun os => some (Flow.next, (tr tree_73 32 282 w os).abs, cE, p0) := by kernel_rfl
theorem block (w : World) : (fun os => segRun treeTable pw w 28 ann 1 1 (sh heap_72 282 w os) (blockOf bE env cE p0 fr)) = fun os => some (Flow.next, (tr tree_73 32 282 w os).abs, cE, p0) := by
  have h := block_t w
  rw [← te14374325043358763698, ← te14364793385576792824] at h
  exact h
theorem g1_false (w : World) : (fun os => tw10110043849684766642 tw14364793385576792824 pw (w.withFollow "special-get-raises" false) 28 ann 1 211 (tr tree_73 32 282 (w.withFollow "special-get-raises" false) os) (piecesOf sts1 env cE p0 fr)) = fun os => some (Flow.next, tr tree_91 47 332 (w.withFollow "special-get-raises" false) os, cE, p1) := by kernel_rfl
theorem g1_true (w : World) : (fun os => tw10110043849684766642 tw14364793385576792824 pw (w.withFollow "special-get-raises" true) 28 ann 1 211 (tr tree_73 32 282 (w.withFollow "special-get-raises" true) os) (piecesOf sts1 env cE p0 fr)) = fun os => some (Flow.next, tr tree_91 47 332 (w.withFollow "special-get-raises" true) os, cE, p1) := by kernel_rfl
theorem g1_t : ∀ w : World, (fun os => tw10110043849684766642 tw14364793385576792824 pw w 28 ann 1 211 (tr tree_73 32 282 w os) (piecesOf sts1 env cE p0 fr)) = fun os => some (Flow.next, tr tree_91 47 332 w os, cE, p1) := byRow2 "special-get-raises" g1_false g1_true
theorem g1 (w : World) (os : OsState) : segRun treeTable pw w 28 ann 1 211 (tr tree_73 32 282 w os).abs (piecesOf sts1 env cE p0 fr) = some (Flow.next, (tr tree_91 47 332 w os).abs, cE, p1) := by
  have h := congrFun (g1_t w) os
  rw [← te10110043849684766642, ← te14364793385576792824] at h
  exact segRun_of h
theorem g2_t (w : World) : (fun os => tw10110043849684766642 tw14364793385576792824 pw w 28 ann 1 366 (tr tree_91 47 332 w os) (piecesOf sts2 env cE p1 fr)) = fun os => some (Flow.next, tr tree_132 84 385 w os, cE, p2) := by kernel_rfl
theorem g2 (w : World) (os : OsState) : segRun treeTable pw w 28 ann 1 366 (tr tree_91 47 332 w os).abs (piecesOf sts2 env cE p1 fr) = some (Flow.next, (tr tree_132 84 385 w os).abs, cE, p2) := by
  have h := congrFun (g2_t w) os
  rw [← te10110043849684766642, ← te14364793385576792824] at h
  exact segRun_of h
theorem g3_t (w : World) : (fun os => tw10110043849684766642 tw14364793385576792824 pw w 28 ann 1 504 (tr tree_132 84 385 w os) (piecesOf sts3 env cE p2 fr)) = fun os => some (Flow.next, tr tree_218 168 480 w os, cE, p3) := by kernel_rfl
theorem g3 (w : World) (os : OsState) : segRun treeTable pw w 28 ann 1 504 (tr tree_132 84 385 w os).abs (piecesOf sts3 env cE p2 fr) = some (Flow.next, (tr tree_218 168 480 w os).abs, cE, p3) := by
  have h := congrFun (g3_t w) os
  rw [← te10110043849684766642, ← te14364793385576792824] at h
  exact segRun_of h
theorem g4_t (w : World) : (fun os => tw10110043849684766642 tw14364793385576792824 pw w 28 ann 1 156 (tr tree_218 168 480 w os) (piecesOf sts4 env cE p3 fr)) = fun os => some (Flow.next, tr tree_229 178 542 w os, cE, p4) := by kernel_rfl
theorem g4 (w : World) (os : OsState) : segRun treeTable pw w 28 ann 1 156 (tr tree_218 168 480 w os).abs (piecesOf sts4 env cE p3 fr) = some (Flow.next, (tr tree_229 178 542 w os).abs, cE, p4) := by
  have h := congrFun (g4_t w) os
  rw [← te10110043849684766642, ← te14364793385576792824] at h
  exact segRun_of h
theorem g5_t (w : World) : (fun os => tw10110043849684766642 tw14364793385576792824 pw w 28 ann 1 729 (tr tree_229 178 542 w os) (piecesOf sts5 env cE p4 fr)) = fun os => some (Flow.next, tr tree_358 305 699 w os, cE, p5) := by kernel_rfl
theorem g5 (w : World) (os : OsState) : segRun treeTable pw w 28 ann 1 729 (tr tree_229 178 542 w os).abs (piecesOf sts5 env cE p4 fr) = some (Flow.next, (tr tree_358 305 699 w os).abs, cE, p5) := by
  have h := congrFun (g5_t w) os
  rw [← te10110043849684766642, ← te14364793385576792824] at h
  exact segRun_of h
theorem g6_t (w : World) : (fun os => tw10110043849684766642 tw14364793385576792824 pw w 28 ann 1 277 (tr tree_358 305 699 w os) (piecesOf sts6 env cE p5 fr)) = fun os => some (Flow.next, tr tree_499 360 778 w os, cE, p6) := by kernel_rfl
theorem g6 (w : World) (os : OsState) : segRun treeTable pw w 28 ann 1 277 (tr tree_358 305 699 w os).abs (piecesOf sts6 env cE p5 fr) = some (Flow.next, (tr tree_499 360 778 w os).abs, cE, p6) := by
  have h := congrFun (g6_t w) os
  rw [← te10110043849684766642, ← te14364793385576792824] at h
  exact segRun_of h
theorem fin_t (w : World) : (fun os => tw14082659384304107361 tw14364793385576792824 pw w 28 ann 2 (tr tree_499 360 778 w os).abs (⟨doneF Flow.next, cE, p6, fr⟩ : Thread)) = fun os => some (sh heap_500 778 w os) := by kernel_rfl
theorem fin (w : World) (os : OsState) : topRun treeTable pw w 28 ann 2 (tr tree_499 360 778 w os).abs (restOf [] env cE p6 fr) = some (sh heap_500 778 w os) := by
  have h := congrFun (fin_t w) os
  rw [← te14082659384304107361, ← te14364793385576792824] at h
  exact piece_nil h
theorem run (w : World) (os : OsState) : topRun treeTable pw w 28 ann (12 + (1 + (211 + (366 + (504 + (156 + (729 + (277 + 2)))))))) (sh heap_68 276 w os) (topStub pw) = some (sh heap_500 778 w os) :=
  go_top (congrFun (pre w) os) (piece_block (congrFun (block w) os) ((congrArg (fun l => topRun treeTable pw w 28 ann (211 + (366 + (504 + (156 + (729 + (277 + 2)))))) (tr tree_73 32 282 w os).abs (restOf l env cE p0 fr)) split).trans
    (piece_app (g1 w os) (piece_app (g2 w os) (piece_app (g3 w os) (piece_app (g4 w os) (piece_app (g5 w os) (piece_app (g6 w os) (fin w os)))))))))
theorem imp_t (w : World) : tw10274390034422433532 tw14364793385576792824 (opening pw) w 2000 (start (opening pw)).1 (start (opening pw)).2 = some ⟨heap_28 w.params, ⟨[]⟩, {}, 276, (start (opening pw)).1.os⟩ := by kernel_rfl
theorem imp (w : World) : importEnds treeTable (opening pw) w 2000 (start (opening pw)).1 (start (opening pw)).2 = some ⟨heap_28 w.params, ⟨[]⟩, {}, 276, (start (opening pw)).1.os⟩ := by
  have h := imp_t w
  rw [← te10274390034422433532, ← te14364793385576792824] at h
  exact h
theorem fence_t (w : World) : (fun os => (tw14289696077712309145 pw (sh heap_28 276 w os)).map (fun s => (s.heap, s.gens, s.drawn, s.toks))) = fun _ => some (heap_68 w.params, (⟨[]⟩ : Array GenState), ({} : Drawn), 276) := by kernel_rfl
theorem fence (w : World) : (fun os => (fenceModules? pw (sh heap_28 276 w os)).map (fun s => (s.heap, s.gens, s.drawn, s.toks))) = fun _ => some (heap_68 w.params, (⟨[]⟩ : Array GenState), ({} : Drawn), 276) := by
  have h := fence_t w
  rw [← te14289696077712309145] at h
  exact h
theorem opens : ∀ w : World, (fencedOpening treeTable pw w 4600).map (fun s => (s.heap, s.gens, s.drawn, s.toks)) = some (heap_68 w.params, (⟨[]⟩ : Array GenState), ({} : Drawn), 276) :=
  open_cut (M := 2000) (N := 4600) imp (by decide) fence
theorem size (w : World) : ((heap_68 w.params).isNs mainGlobals && (⟨[]⟩ : Array GenState).size == 0, (heap_68 w.params).objs.size, (heap_68 w.params).nsMap mainGlobals "__annotations__") = (true, 28, ann) := by kernel_rfl
noncomputable def Xt (s : Shared) : Bool := xlAt q [] s && recOk (RowW.records PySem.Challenge.rw_wk0041_01.row.toRowW) s
theorem k0 (w : World) : (fun os => staticsOk (importedModules pw.main.body) (heap_68 w.params) (heap_500 w.params) && namesBound pw (heap_500 w.params) && gensDone (sh heap_500 778 w os) && laidKept (heap_68 w.params) (heap_500 w.params)) = fun (_ : OsState) => true := by rw [te5923862056798008813]; kernel_rfl
theorem k1 (w : World) : (fun os => seen ((recsOf q).map (·.name)) (ownsOf q) [] { (sh heap_500 778 w os) with gens := #[] }) = fun (_ : OsState) => expectedOf q := by rw [te5160383126252970620, PySem.W.R.mapR_eq, te3399658132070893891, te5991557255702980513]; kernel_rfl
theorem k2 (w : World) : (fun os => (sh heap_500 778 w os).heap.bltView) = fun (_ : OsState) => bltViewBooted := by kernel_rfl
theorem k3 (w : World) : (fun os => (sh heap_500 778 w os).heap.keysOk (looseW q lo) ((recsOf q).map (·.name)) ((litsOf q).map (·.1)) ((clssOf q (looseW q lo)).map (·.name)) && (sh heap_500 778 w os).heap.accountedOkI (importedModules pw.main.body) && (sh heap_500 778 w os).heap.isNs mainGlobals && (sh heap_500 778 w os).heap.isNs builtinsNs && tablesOk q (sh heap_500 778 w os).heap && Xt (sh heap_500 778 w os) && (if true then (sh heap_500 778 w os).gens.size == 0 else !leftWithCleanup (sh heap_500 778 w os).gens)) = fun (_ : OsState) => true := by rw [te10880121769531294198, te821141287760084731, PySem.W.R.mapR_eq, te3399658132070893891, te7409074990110511671, te13664370479719496447, te14722251495701143533, te5923862056798008813, te10994771534591457954]; kernel_rfl
theorem k4 (w : World) : (fun os => tabsOk q (sh heap_500 778 w os)) = fun (_ : OsState) => true := by rw [te479339242167458305]; kernel_rfl
theorem k5 (w : World) : (fun os => pinSeenD q (drecsOf q) (sh heap_500 778 w os)) = fun (_ : OsState) => pinGoodD (drecsOf q) := by rw [te16090120013241838585, te3247288618530077131]; kernel_rfl
theorem k6 (w : World) : (fun os => plainSeenE q (looseW q lo) (sh heap_500 778 w os)) = fun (_ : OsState) => plainGoodE q (looseW q lo) := by rw [te2386780881361962483, te821141287760084731]; kernel_rfl
theorem k7 (w : World) : (fun os => plainSeenD q lo (sh heap_500 778 w os)) = fun (_ : OsState) => plainGoodD q lo := by rw [te11698064438423848299]; kernel_rfl
theorem k8 (w : World) : (fun os => wideSeen q (sh heap_500 778 w os)) = fun (_ : OsState) => wideGood q := by rw [te7317090234206586261]; kernel_rfl
theorem k9 (w : World) : (fun os => clsSeenW q lo (sh heap_500 778 w os)) = fun (_ : OsState) => clsGoodW q lo := by rw [te7369524293546568484]; kernel_rfl
theorem left {α : Type} {Yf : Shared → α} {Ya : World → α} (y : ∀ w : World, (fun os => Yf (sh heap_500 778 w os)) = fun _ => Ya w) : LeftO pw q lo Xt Yf Ya 4600 :=
  LeftO.of_pieces (H₀ := heap_68) (H₁ := heap_500) (gs₀ := ⟨[]⟩) (gs₁ := ⟨[]⟩) (d₀ := {}) (d₁ := {}) (k₀ := 276) (k₁ := 778) (m₀ := 28) (ann := ann) (M := 12 + (1 + (211 + (366 + (504 + (156 + (729 + (277 + 2)))))))) opens size run (by decide)
    fun w => funext fun os => looks_pair (congrFun (k0 w) os) (looks_pair (looks_pair (congrFun (k1 w) os) (looks_pair (congrFun (k2 w) os) (looks_pair (congrFun (k3 w) os) (looks_pair (congrFun (k4 w) os) (looks_pair (congrFun (k5 w) os) (looks_pair (congrFun (k6 w) os) (looks_pair (congrFun (k7 w) os) (looks_pair (congrFun (k8 w) os) (congrFun (k9 w) os))))))))) (congrFun (y w) os))
theorem s0 : sreFenced PySem.Challenge.rw_wk0041_01.row.prog.main = true := by rw [te11788848310118352699]; kernel_rfl
theorem s1 : ((moduleNames PySem.Challenge.rw_wk0041_01.row.prog.main.body).isEmpty || lookedIntoSs (moduleNames PySem.Challenge.rw_wk0041_01.row.prog.main.body) PySem.Challenge.rw_wk0041_01.row.prog.main.body) = true := by rw [te9807087744658564304, te12862048085361865435]; kernel_rfl
theorem s2 : namesResolve PySem.Challenge.rw_wk0041_01.row.prog = true := by rw [te8377067652309620493]; kernel_rfl
theorem s3 : (PySem.Challenge.rw_wk0041_01.row.prog.boundNames.all fun n => !worldNames.contains n) = true := by kernel_rfl
theorem s4a : (!(importedModules PySem.Challenge.rw_wk0041_01.row.prog.main.body).all cThrough.contains) = false := by kernel_rfl
theorem s4v : readsOut PySem.Challenge.rw_wk0041_01.row.prog PySem.Challenge.rw_wk0041_01.row.prog.main.body "vars" = false := by rw [te13343964577679436407]; kernel_rfl
theorem s4d : readsOut PySem.Challenge.rw_wk0041_01.row.prog PySem.Challenge.rw_wk0041_01.row.prog.main.body "dir" = false := by rw [te13343964577679436407]; kernel_rfl
theorem s4l : readsOut PySem.Challenge.rw_wk0041_01.row.prog PySem.Challenge.rw_wk0041_01.row.prog.main.body "locals" = false := by rw [te13343964577679436407]; kernel_rfl
theorem s4b : (["vars", "dir", "locals"] : List Str).filter (readsOut PySem.Challenge.rw_wk0041_01.row.prog PySem.Challenge.rw_wk0041_01.row.prog.main.body) = [] := by rw [List.filter_cons_of_neg (by rw [s4v]; exact Bool.false_ne_true), List.filter_cons_of_neg (by rw [s4d]; exact Bool.false_ne_true), List.filter_cons_of_neg (by rw [s4l]; exact Bool.false_ne_true)]; rfl
theorem s4c : noRoadLSs { strict := false, foot := none, bare := [] } PySem.Challenge.rw_wk0041_01.row.prog.main.body = true := by rw [te8326940854005059898]; kernel_rfl
theorem s4 : noRoadLSs { strict := !(importedModules PySem.Challenge.rw_wk0041_01.row.prog.main.body).all cThrough.contains, foot := none, bare := (["vars", "dir", "locals"] : List Str).filter (readsOut PySem.Challenge.rw_wk0041_01.row.prog PySem.Challenge.rw_wk0041_01.row.prog.main.body) } PySem.Challenge.rw_wk0041_01.row.prog.main.body = true := by rw [s4a, s4b]; exact s4c
theorem s5 : (namesMeet PySem.Challenge.rw_wk0041_01.row.prog PySem.Challenge.rw_wk0041_01.row.prog.main.body fun _ n => attrL n) = true := by rw [te17119622794617984870, te17868728402115742887]; kernel_rfl
theorem s23 : noClassBlock PySem.Challenge.rw_wk0041_01.prog PySem.Challenge.rw_wk0041_01.footing = true := by rw [te8179353310426384613]; kernel_rfl
theorem s26 : noRoadLSs { strict := true, foot := some PySem.Challenge.rw_wk0041_01.bound', writes := PySem.Challenge.rw_wk0041_01.writes, may := PySem.Challenge.rw_wk0041_01.may } PySem.Challenge.rw_wk0041_01.footing = true := by rw [te8326940854005059898, te797321630700447069, te9572597257264208301]; kernel_rfl
theorem s28 : PySem.Challenge.rw_wk0041_01.namesIt = true := by rw [te16286561074155671207]; kernel_rfl
theorem s30 : (PySem.Challenge.rw_wk0041_01.bound'.all (fun n => !builtinNamed n || PySem.Challenge.rw_wk0041_01.about == [n] || !PySem.Challenge.rw_wk0041_01.reads n)) = true := by rw [te797321630700447069, named_eq, te6984425678791042302]; kernel_rfl
theorem s32 : ((PySem.Challenge.rw_wk0041_01.prog.main.body.flatMap importedNames).all (fun n => !PySem.Challenge.rw_wk0041_01.reads n || (drawsOf n PySem.Challenge.rw_wk0041_01.prog.main.body).all fun mn => mn.2 != ("attrgetter" : Str) && mn.2 != ("methodcaller" : Str))) = true := by rw [te6984425678791042302, te482687673346738481]; kernel_rfl
theorem s33 : (namesMeet PySem.Challenge.rw_wk0041_01.prog PySem.Challenge.rw_wk0041_01.footing (fun sc n => (!(["type", "isinstance", "issubclass", "getattr", "hasattr"] : List Str).contains n || sc.names.lookup n == some .globalImplicit) &&
    (PySem.Challenge.rw_wk0041_01.may != some n || sc.kind == .module || sc.names.lookup n == some .globalImplicit))) = true := by rw [te17119622794617984870, te9572597257264208301]; kernel_rfl
theorem s37 : (namesMeet PySem.Challenge.rw_wk0041_01.prog PySem.Challenge.rw_wk0041_01.above (fun _ n => !PySem.Challenge.rw_wk0041_01.own.contains n)) = true := by rw [te17119622794617984870, te10792542408131684335]; kernel_rfl
theorem s38 : (namesMeet PySem.Challenge.rw_wk0041_01.prog PySem.Challenge.rw_wk0041_01.footing fun sc n => sc.kind == .module || sc.names.lookup n != some .globalExplicit) = true := by rw [te17119622794617984870]; kernel_rfl
theorem s36 : (PySem.Challenge.rw_wk0041_01.own.all (fun n => !builtinNamed n)) = true := by rw [te10792542408131684335, named_eq]; kernel_rfl
theorem said : PySem.Challenge.rw_wk0041_01.wellSaid = true := by
  unfold OpenLaw.wellSaid OpenRow.wellSaid OpenRow.partSaid looksOpen
  repeat' (with_reducible refine look_both ?_ ?_)
  all_goals first | with_reducible exact s0 | with_reducible exact s1 | with_reducible exact s2 | with_reducible exact s3 | with_reducible exact s4 | with_reducible exact s5 | with_reducible exact s23 | with_reducible exact s26 | with_reducible exact s28 | with_reducible exact s30 | with_reducible exact s32 | with_reducible exact s33 | with_reducible exact s36 | with_reducible exact s37 | with_reducible exact s38 | kernel_rfl
end Mine.H
local macro_rules | `(tactic| o_law) => `(tactic| refine holds_law Mine.H.said fun said => ?_)
local macro_rules | `(tactic| o_head $h) => `(tactic| refine holds_open (q := Mine.H.q) (loose := Mine.H.lo) (Xt := Mine.H.Xt) (XP := XL Mine.H.q []) (Yf := Hook.obs $h) (Ya := Hook.val $h) (YP := Hook.says $h) (N := 4600) (Mine.H.left (fun w => by kernel_rfl)) (Hook.of $h) (Hook.keeps $h) (fun s e => xl_of s (Bool.and_eq_true_iff.mp e).1) XL.keeps (by rfl) (by rfl) (by rfl) (fun s e => recFacts_of (Bool.and_eq_true_iff.mp e).2) (by rfl) (by assumption) (by decide +kernel) ⟨rfl, rfl, rfl, rfl, rfl, by decide +kernel⟩ ?hw ?hc)
open_top hd for PySem.Challenge.rw_wk0041_01
open PySem.Spec PySem.Calls
set_option maxHeartbeats 4000000
namespace Mine
noncomputable abbrev PW := PySem.Challenge.pw_wk0041_01

noncomputable abbrev lo0 : List Str := looseW Mine.H.q [Str.ofString "COMPILER_FLAG_NAMES", Str.ofString "UNKNOWN", Str.ofString "_Accumulator", Str.ofString "_name_disallowed_re", Str.ofString "_value_disallowed_re"]
noncomputable abbrev around (dp un : Nat) (gd : Option (List Code)) (fr : List Env) : Around := { handled := none, depth := dp, frames := some fr, guards := gd, units := un }

/-- what grew: all of h stands in h' but the touched -/
noncomputable def Grow (h h' : Heap) (as : List Addr) : Prop := ∀ b o, h.get? b = some o → b ∉ as → h'.get? b = some o

theorem cellsNil {cm : Str → Option Value} {cells : List (Addr × Obj)} (h : CellsAre cm [] cells) : cells = [] := by cases h; rfl
section
variable {prog : Program} {w : World} {A : Around} {s : Shared} {R : Result → Shared → Prop} {name qual : Str} {params : Arguments} {body : List Stmt} {scope : Scope} {dV kV doc pm cdv ct : Value} {an : Option Addr} {fo : Obj} {f : Addr} {args : Args} {binds : List (Str × Value)}
theorem enterC (touched : List (Addr × Obj)) (hroom : A.depth < recursionLimit)
    (ho : s.heap.get? f = some fo) (hd : fo.data = .func (fnX name qual params body scope [] dV kV doc pm an cdv ct)) (hcd : s.heap.CodeRec cdv qual) (hlim : s.heap.NoLimit)
    (hbind : BindsTo s (fnX name qual params body scope [] dV kV doc pm an cdv ct) args binds)
    (hkind : (binds.all fun y => scope.names.lookup y.1 == some .local || scope.names.lookup y.1 == some .cell) = true)
    (hnd : ((cellsFrom 0 scope.names []).map (·.1)).Nodup)
    (ht : ∀ p ∈ touched, s.heap.get? p.1 = some p.2)
    (h : ∀ L' h₁ tk cells, L' = s.heap.objs.size → Fr (hideAll s.heap (touched.map (·.1))) L' h₁ (bindL (envOfC qual scope L' f cdv).kindOf binds fun _ => none) →
      News (hideAll s.heap (touched.map (·.1))) L' h₁ (cells ++ touched) →
      CellsAre (bindC (envOfC qual scope L' f cdv).kindOf binds fun _ => none) (cellsFrom (L' + 1) scope.names []) cells → (∀ p ∈ touched, p.1 < L') →
      wpAny (model prog w) (A.deeper (envOfC qual scope L' f cdv)) (execs body (envOfC qual scope L' f cdv))
        (fun fl s' => R (.ok (.ret (match fl with | .ret v => v | _ => .none))) s') (fun _ _ => False)
        { s with heap := h₁, toks := tk })
    (hco : scope.isCoroutine = false := by rfl) (hgen : scope.isGenerator = false := by rfl) (hk : scope.kind = .function := by rfl) : codeAny (model prog w) A (.call (.ref f) args) R s := by
  refine codeAny_call_function hroom ho hd hco hgen rfl hcd (hbind _ _ _ _ ?_)
  refine wpAny_newFunctionEnv_cells hk (kindsX hkind _) fun env' he s' x => ?_
  subst he
  refine ⟨hlim.keeps x.toInCall.keep, codeAny_func ?_⟩
  obtain ⟨h₁, tk, rfl, _⟩ := x.done
  have hk₁ := x.toInCall.keep
  obtain ⟨cells, NC, Y⟩ := Cl.news (h₀ := s.heap) (Nat.le_refl _) fun n c hm => ⟨x.cell n c (lookup_of_mem_nodup (cellsFrom_names scope.names 0 (s.heap.objs.size + 1) [] [] rfl ▸ hnd) hm), x.above n c hm⟩
  refine wpAny_mono (h s.heap.objs.size h₁ tk cells rfl ⟨x.toInCall.ns, fun b o e => hk₁ b o (of_hideAll _ e), Nat.le_of_eq (hideAll_size _ _)⟩ (fun p hp => ?_) Y (fun p hp => Heap.lt_size (ht p hp))) (fun fl s' hl => hl) fun _ _ y => y.elim
  rcases List.mem_append.mp hp with hp | hp
  · refine ⟨(NC p hp).1, (NC p hp).2.1, ?_⟩
    cases q : (hideAll s.heap (touched.map (·.1))).get? p.1 with
    | none => rfl
    | some o => have := of_hideAll _ q; rw [(NC p hp).2.2] at this; cases this
  · exact ⟨hk₁ _ _ (ht p hp), Nat.ne_of_lt (Heap.lt_size (ht p hp)), hideAll_none _ (List.mem_map_of_mem hp)⟩

theorem enterK {K : Frag} {oc : Value} {od : Option Addr} {osl : Array (Option Value)} {H₀ : Heap} {Q E : Value → Shared → Prop} {vals : List Value} {kws : List (Str × Value)} (touched : List (Addr × Obj)) (X : K.In H₀) (st : H₀.StaysIn s.heap) (hlim : H₀.NoLimit)
    (ho : K.lookup f = some ⟨oc, od, .func (fnOf name qual params body scope dV kV doc pm an cdv ct), osl⟩) (hcd : codeIn K cdv qual = true) (hroom : A.depth < recursionLimit)
    (hbind : BindsTo s (fnOf name qual params body scope dV kV doc pm an cdv ct) ⟨vals, kws⟩ binds)
    (hkind : (binds.all fun y => scope.names.lookup y.1 == some .local || scope.names.lookup y.1 == some .cell) = true)
    (hnd : ((cellsFrom 0 scope.names []).map (·.1)).Nodup)
    (ht : ∀ p ∈ touched, s.heap.get? p.1 = some p.2) (h0 : ∀ p ∈ touched, H₀.get? p.1 = none)
    (h : ∀ g L' h₁ tk cells, L' = s.heap.objs.size → g = hideAll s.heap (touched.map (·.1)) → H₀.StaysIn g → K.In g → Fr g L' h₁ (bindL (envOfC qual scope L' f cdv).kindOf binds fun _ => none) →
      News g L' h₁ (cells ++ touched) →
      CellsAre (bindC (envOfC qual scope L' f cdv).kindOf binds fun _ => none) (cellsFrom (L' + 1) scope.names []) cells → (∀ p ∈ touched, p.1 < L') →
      wpAny (model prog w) (A.deeper (envOfC qual scope L' f cdv)) (execs body (envOfC qual scope L' f cdv))
        (fun fl s' => Q (match fl with | .ret v => v | _ => .none) s') (fun _ _ => False)
        { s with heap := h₁, toks := tk })
    (hco : scope.isCoroutine = false := by rfl) (hgen : scope.isGenerator = false := by rfl) (hk : scope.kind = .function := by rfl) : wpAny (model prog w) A (call (.ref f) vals kws) Q E s := by
  refine wpAny_call (enterC touched hroom ((X.keeps st) _ _ ho) rfl (codeRec_of (X.keeps st) hcd) (hlim.keeps st) hbind hkind hnd ht ?_ hco hgen hk)
  intro L' h₁ tk cells eL F N Y lt
  have st' : H₀.StaysIn (hideAll s.heap (touched.map (·.1))) := fun b o e => hideAll_get _ (st b o e) fun q => by
    obtain ⟨p, hp, rfl⟩ := List.mem_map.mp q
    rw [h0 p hp] at e; cases e
  exact h _ L' h₁ tk cells eL rfl st' (X.keeps st') F N Y lt
end
theorem fr_grow {h₀ h h' : Heap} {L : Addr} {m : Str → Option Value} (F : Fr h₀ L h m) (G : Grow h h' []) : Fr h₀ L h' m :=
  F.keeps fun b o e => G b o e (List.not_mem_nil)
theorem news_grow {h₀ h h' : Heap} {L : Addr} {news : List (Addr × Obj)} (N : News h₀ L h news) (G : Grow h h' []) : News h₀ L h' news :=
  N.grown fun b o e => G b o e (List.not_mem_nil)
theorem grow_back {h g h' : Heap} {L : Addr} {m : Str → Option Value} {news : List (Addr × Obj)} {as bs : List Addr} (eg : g = hideAll h as) (F : Fr g L h' m) (N : News g L h' news)
    (hs : ∀ a ∈ as, a ∉ bs → ∀ o, h.get? a = some o → (a, o) ∈ news) : Grow h h' bs := fun b o e hb => by
  by_cases hm : b ∈ as
  · exact (N _ (hs b hm hb o e)).1
  · exact F.keep b o (eg ▸ hideAll_get _ e hm)
theorem fresh_back {h g h' : Heap} {L a : Addr} {o : Obj} {news : List (Addr × Obj)} {as : List Addr} (eg : g = hideAll h as) (N : News g L h' news) (hm : (a, o) ∈ news) (ha : a ∉ as) : h.get? a = none := by
  cases e : h.get? a with
  | none => rfl
  | some o' =>
    have := hideAll_get as e ha
    rw [← eg, (N _ hm).2.2] at this
    cases this
/-! comprehensions: a turn shown once -/
section
open LCg LCt
inductive Sel (P : Nat → Value → Prop) (tst : Nat → Value → Bool) (R : Nat → Value → Value → Prop) : Nat → Nat → List Value → Prop
  | nil {i : Nat} : Sel P tst R 0 i []
  | yes {k i : Nat} {v y : Value} {ys : List Value} : P i v → tst i v = true → R i v y → Sel P tst R k (i + 1) ys → Sel P tst R (k + 1) i (y :: ys)
  | no {k i : Nat} {v : Value} {ys : List Value} : P i v → tst i v = false → Sel P tst R k (i + 1) ys → Sel P tst R (k + 1) i ys
/-- the ledger and the frame stand as they stood -/
noncomputable def Same (h₀ : Heap) (L : Addr) (m : Str → Option Value) (news : List (Addr × Obj)) (s s' : Shared) : Prop :=
  ∃ h' tk', s' = { s with heap := h', toks := tk' } ∧ Fr h₀ L h' m ∧ News h₀ L h' news
variable {prog : Program} {w : World} {A : Around} {s : Shared} {h₀ : Heap} {L : Addr} {m : Str → Option Value} {env : Env} {ct elt : Expr} {x : Str} {scope : Scope} {cl : List (Str × Addr)} {S : List (Addr × Obj) → Prop} {P : Nat → Value → Prop}
  {Fin : List Value → List (Addr × Obj) → Prop} {news : List (Addr × Obj)} {tst : Nat → Value → Bool} {R : Nat → Value → Value → Prop}
theorem restT_aux (n : Nat) (hS : S news)
    (turn : ∀ i v I oI C oC D m₂ h tk ys, i < n → P i v → NsObj oC m₂ → m₂ x = some v → Fr h₀ L h m → News h₀ L h ((I, oI) :: (C, oC) :: (D, lst ys) :: news) → Off3 I C D news → ((@Ne Nat I C) ∧ (@Ne Nat I D) ∧ (@Ne Nat C D)) →
      wpAny (model prog w) A (isTrue ct (compEnvC scope cl C env) (eval ct (compEnvC scope cl C env))) (fun ok s' => ok = tst i v ∧ Same h₀ L m ((I, oI) :: (C, oC) :: (D, lst ys) :: news) { s with heap := h, toks := tk } s') (fun _ _ => False) { s with heap := h, toks := tk })
    (eltT : ∀ i v I oI C oC D m₂ h tk ys, i < n → P i v → tst i v = true → NsObj oC m₂ → m₂ x = some v → Fr h₀ L h m → News h₀ L h ((I, oI) :: (C, oC) :: (D, lst ys) :: news) → Off3 I C D news → ((@Ne Nat I C) ∧ (@Ne Nat I D) ∧ (@Ne Nat C D)) →
      wpAny (model prog w) A (eval elt (compEnvC scope cl C env)) (fun y s' => R i v y ∧ Same h₀ L m ((I, oI) :: (C, oC) :: (D, lst ys) :: news) { s with heap := h, toks := tk } s') (fun _ _ => False) { s with heap := h, toks := tk }) :
    ∀ k i ys, i + k = n → (∀ rs, Sel P tst R k i rs → Fin (ys ++ rs) news) → CompRestT prog w A h₀ L m env ct elt x scope cl s S P Fin k i ys news := by
  intro k
  induction k with
  | zero => intro i ys _ fin; exact CompRestT.zero (by simpa using fin [] .nil)
  | succ k ih =>
    intro i ys hk fin
    refine CompRestT.succ fun v I oI C oC D m₂ h tk E' hv hC hx F N off ne => ?_
    refine wpAny_mono (turn i v I oI C oC D m₂ h tk ys (by omega) hv hC hx F N off ne) (fun ok s' hok => ?_) fun _ _ e => e.elim
    obtain ⟨rfl, h', tk', rfl, F', N'⟩ := hok
    cases ht : tst i v with
    | true =>
      simp only [if_true]
      refine wpAny_mono (eltT i v I oI C oC D m₂ h' tk' ys (by omega) hv ht hC hx F' N' off ne) (fun y s₂ hy => ?_) fun _ _ e => e.elim
      obtain ⟨hR, h₂, tk₂, rfl, F₂, N₂⟩ := hy
      refine ⟨h₂, tk₂, news, rfl, F₂, N₂, off, hS, ih (i + 1) (ys ++ [y]) (by omega) fun rs hrs => ?_⟩
      rw [List.append_assoc]
      exact fin (y :: rs) (.yes hv ht hR hrs)
    | false =>
      simp only [Bool.false_eq_true, if_false]
      exact ⟨h', tk', news, rfl, F', N', off, hS, ih (i + 1) ys (by omega) fun rs hrs => fin rs (.no hv ht hrs)⟩
theorem restT (tst : Nat → Value → Bool) (R : Nat → Value → Value → Prop) {n : Nat} (hS : S news)
    (turn : ∀ i v I oI C oC D m₂ h tk ys, i < n → P i v → NsObj oC m₂ → m₂ x = some v → Fr h₀ L h m → News h₀ L h ((I, oI) :: (C, oC) :: (D, lst ys) :: news) → Off3 I C D news → ((@Ne Nat I C) ∧ (@Ne Nat I D) ∧ (@Ne Nat C D)) →
      wpAny (model prog w) A (isTrue ct (compEnvC scope cl C env) (eval ct (compEnvC scope cl C env))) (fun ok s' => ok = tst i v ∧ Same h₀ L m ((I, oI) :: (C, oC) :: (D, lst ys) :: news) { s with heap := h, toks := tk } s') (fun _ _ => False) { s with heap := h, toks := tk })
    (eltT : ∀ i v I oI C oC D m₂ h tk ys, i < n → P i v → tst i v = true → NsObj oC m₂ → m₂ x = some v → Fr h₀ L h m → News h₀ L h ((I, oI) :: (C, oC) :: (D, lst ys) :: news) → Off3 I C D news → ((@Ne Nat I C) ∧ (@Ne Nat I D) ∧ (@Ne Nat C D)) →
      wpAny (model prog w) A (eval elt (compEnvC scope cl C env)) (fun y s' => R i v y ∧ Same h₀ L m ((I, oI) :: (C, oC) :: (D, lst ys) :: news) { s with heap := h, toks := tk } s') (fun _ _ => False) { s with heap := h, toks := tk })
    (fin : ∀ rs, Sel P tst R n 0 rs → Fin rs news) : CompRestT prog w A h₀ L m env ct elt x scope cl s S P Fin n 0 [] news :=
  restT_aux n hS turn eltT n 0 [] (by omega) (by simpa using fin)
theorem restU_aux (n : Nat) (hS : S news)
    (eltT : ∀ i v I oI C oC D m₂ h tk ys, i < n → P i v → NsObj oC m₂ → m₂ x = some v → Fr h₀ L h m → News h₀ L h ((I, oI) :: (C, oC) :: (D, lst ys) :: news) → Off3 I C D news → ((@Ne Nat I C) ∧ (@Ne Nat I D) ∧ (@Ne Nat C D)) →
      wpAny (model prog w) A (eval elt (compEnvC scope cl C env)) (fun y s' => R i v y ∧ Same h₀ L m ((I, oI) :: (C, oC) :: (D, lst ys) :: news) { s with heap := h, toks := tk } s') (fun _ _ => False) { s with heap := h, toks := tk }) :
    ∀ k i ys, i + k = n → (∀ rs, Sel P (fun _ _ => true) R k i rs → Fin (ys ++ rs) news) → CompRest prog w A h₀ L m env elt x scope cl s S P Fin k i ys news := by
  intro k
  induction k with
  | zero => intro i ys _ fin; exact CompRest.zero (by simpa using fin [] .nil)
  | succ k ih =>
    intro i ys hk fin
    refine CompRest.succ fun v I oI C oC D m₂ h tk E' hv hC hx F N off ne => ?_
    refine wpAny_mono (eltT i v I oI C oC D m₂ h tk ys (by omega) hv hC hx F N off ne) (fun y s₂ hy => ?_) fun _ _ e => e.elim
    obtain ⟨hR, h₂, tk₂, rfl, F₂, N₂⟩ := hy
    refine ⟨h₂, tk₂, news, rfl, F₂, N₂, off, hS, ih (i + 1) (ys ++ [y]) (by omega) fun rs hrs => ?_⟩
    rw [List.append_assoc]
    exact fin (y :: rs) (.yes hv rfl hR hrs)
theorem restU (R : Nat → Value → Value → Prop) {n : Nat} (hS : S news)
    (eltT : ∀ i v I oI C oC D m₂ h tk ys, i < n → P i v → NsObj oC m₂ → m₂ x = some v → Fr h₀ L h m → News h₀ L h ((I, oI) :: (C, oC) :: (D, lst ys) :: news) → Off3 I C D news → ((@Ne Nat I C) ∧ (@Ne Nat I D) ∧ (@Ne Nat C D)) →
      wpAny (model prog w) A (eval elt (compEnvC scope cl C env)) (fun y s' => R i v y ∧ Same h₀ L m ((I, oI) :: (C, oC) :: (D, lst ys) :: news) { s with heap := h, toks := tk } s') (fun _ _ => False) { s with heap := h, toks := tk })
    (fin : ∀ rs, Sel P (fun _ _ => true) R n 0 rs → Fin rs news) : CompRest prog w A h₀ L m env elt x scope cl s S P Fin n 0 [] news :=
  restU_aux n hS eltT n 0 [] (by omega) (by simpa using fin)
/-! the same, the post held in a letter -/
theorem restTQ (tst : Nat → Value → Bool) (R : Nat → Value → Value → Prop) {n : Nat} (hS : S news)
    (turn : ∀ i v I oI C oC D m₂ h tk ys (T : Bool → Shared → Prop), (∀ ok s', ok = tst i v → Same h₀ L m ((I, oI) :: (C, oC) :: (D, lst ys) :: news) { s with heap := h, toks := tk } s' → T ok s') → i < n → P i v → NsObj oC m₂ → m₂ x = some v → Fr h₀ L h m → News h₀ L h ((I, oI) :: (C, oC) :: (D, lst ys) :: news) → Off3 I C D news → ((@Ne Nat I C) ∧ (@Ne Nat I D) ∧ (@Ne Nat C D)) →
      wpAny (model prog w) A (isTrue ct (compEnvC scope cl C env) (eval ct (compEnvC scope cl C env))) T (fun _ _ => False) { s with heap := h, toks := tk })
    (eltT : ∀ i v I oI C oC D m₂ h tk ys (T : Value → Shared → Prop), (∀ y s', R i v y → Same h₀ L m ((I, oI) :: (C, oC) :: (D, lst ys) :: news) { s with heap := h, toks := tk } s' → T y s') → i < n → P i v → tst i v = true → NsObj oC m₂ → m₂ x = some v → Fr h₀ L h m → News h₀ L h ((I, oI) :: (C, oC) :: (D, lst ys) :: news) → Off3 I C D news → ((@Ne Nat I C) ∧ (@Ne Nat I D) ∧ (@Ne Nat C D)) →
      wpAny (model prog w) A (eval elt (compEnvC scope cl C env)) T (fun _ _ => False) { s with heap := h, toks := tk })
    (fin : ∀ rs, Sel P tst R n 0 rs → Fin rs news) : CompRestT prog w A h₀ L m env ct elt x scope cl s S P Fin n 0 [] news :=
  restT tst R hS (fun i v I oI C oC D m₂ h tk ys => turn i v I oI C oC D m₂ h tk ys _ fun _ _ a b => ⟨a, b⟩) (fun i v I oI C oC D m₂ h tk ys => eltT i v I oI C oC D m₂ h tk ys _ fun _ _ a b => ⟨a, b⟩) fin
theorem restUQ (R : Nat → Value → Value → Prop) {n : Nat} (hS : S news)
    (eltT : ∀ i v I oI C oC D m₂ h tk ys (T : Value → Shared → Prop), (∀ y s', R i v y → Same h₀ L m ((I, oI) :: (C, oC) :: (D, lst ys) :: news) { s with heap := h, toks := tk } s' → T y s') → i < n → P i v → NsObj oC m₂ → m₂ x = some v → Fr h₀ L h m → News h₀ L h ((I, oI) :: (C, oC) :: (D, lst ys) :: news) → Off3 I C D news → ((@Ne Nat I C) ∧ (@Ne Nat I D) ∧ (@Ne Nat C D)) →
      wpAny (model prog w) A (eval elt (compEnvC scope cl C env)) T (fun _ _ => False) { s with heap := h, toks := tk })
    (fin : ∀ rs, Sel P (fun _ _ => true) R n 0 rs → Fin rs news) : CompRest prog w A h₀ L m env elt x scope cl s S P Fin n 0 [] news :=
  restU R hS (fun i v I oI C oC D m₂ h tk ys => eltT i v I oI C oC D m₂ h tk ys _ fun _ _ a b => ⟨a, b⟩) fin
/-- two maps that agree at the names, and elsewhere -/
theorem maps_eq {m m' : Str → Option Value} (ns : List Str) (h : ∀ n ∈ ns, m n = m' n) (h' : ∀ y, (∀ n ∈ ns, ¬ (y = n)) → m y = m' y) : m = m' := by
  funext y
  by_cases e : y ∈ ns
  · exact h y e
  · exact h' y fun n hn q => e (q ▸ hn)
end
theorem ne_hi {a L : Nat} (h : a < L) (k : Nat) : L + k ≠ a := fun e => Nat.lt_irrefl _ (Nat.lt_of_lt_of_le h (e ▸ Nat.le_add_right L k))
theorem ne_lo {a L : Nat} (h : a < L) (k : Nat) : a ≠ L + k := fun e => ne_hi h k e.symm
theorem ne_off (L : Nat) {i j : Nat} (h : i ≠ j) : L + i ≠ L + j := fun e => h (Nat.add_left_cancel e)
/-- a fact that no `assumption` takes for another -/
structure HidP (p : Prop) : Prop where
  out : p
end Mine
namespace Mine
local macro_rules | `(tactic| k_qdec) => `(tactic| kernel_rfl)
local macro_rules | `(tactic| walk_at $s:str) => `(tactic| k_extra $s)
local macro_rules | `(tactic| k_ne) => `(tactic| k_extra "m:k_ne")
local macro_rules | `(tactic| k_all) => `(tactic| k_extra "m:k_all")
local macro_rules | `(tactic| k_inst) => `(tactic| k_extra "m:k_inst")
local macro_rules | `(tactic| x_close) => `(tactic| k_extra "m:x_close")
section LWordsS
noncomputable def wordN (i : Nat) : Str := ([Str.ofString "OPTIMIZED", Str.ofString "NEWLOCALS", Str.ofString "VARARGS", Str.ofString "VARKEYWORDS"] : List Str).getD i Str.empty
noncomputable def bitOf (mk : Int) (i : Nat) : Bool := Builtin.bitAnd (Int.fdiv mk (2 ^ (0 + (i : Int)).toNat)) 1 != 0
noncomputable def wordsFrom (mk : Int) (i k : Nat) : List Str := (List.range' i k).filterMap fun i => if bitOf mk i then some (wordN i) else none
noncomputable def wordsOf (mk : Int) : List Str := wordsFrom mk 0 4
theorem sel_strs {P : Nat → Value → Prop} {b : Nat → Bool} {f : Nat → Str} {k i : Nat} {ys : List Value} (h : Sel P (fun i _ => b i) (fun i _ y => ∃ t, y = .str (f i) t) k i ys) :
    StrsAre ys ((List.range' i k).filterMap fun i => if b i then some (f i) else none) := by
  induction h with
  | nil => exact .nil
  | yes _ ht hR _ ih =>
    obtain ⟨t, rfl⟩ := hR
    have ht' := ht
    rw [List.range'_succ, List.filterMap_cons, ht']
    exact .cons _ _ ih
  | no _ ht _ ih =>
    have ht' := ht
    rw [List.range'_succ, List.filterMap_cons, ht']
    exact ih
structure Cx (w : World) (mean : ExcName → Option Value) (mg mb : Str → Option Value) (H₀ : Heap) : Prop where
  X : (hd.heap_1 w.params).In H₀
  T : Top Mine.H.q lo0 mean mg mb H₀
section
variable {w : World} {mean : ExcName → Option Value} {mg mb : Str → Option Value} {dp un : Nat} {gd : Option (List Code)} {outer : List Env} {H₀ : Heap} {s : Shared} {Q E : Value → Shared → Prop}
theorem words_spec (C : Cx w mean mg mb H₀) (st : H₀.StaysIn s.heap) (hd1 : dp + 10 < recursionLimit) {mk : Int} {t : Tok} (hm : 0 ≤ mk ∧ mk < 16)
    (hret : ∀ l h' tk' vs, Grow s.heap h' [] → s.heap.get? l = none → h'.get? l = some (LCg.lst vs) → StrsAre vs (wordsOf mk) → Q (.ref l) { s with heap := h', toks := tk' }) :
    wpAny (model PW w) (around dp un gd outer) (call (.ref 316) [.int mk t]) Q E s := by
  k_with_none
  w_top off
  k_with "mine:fill" => (have _kf : (PySem.Challenge.rw_wk0041_01, _root_.hd.heap_1) = (PySem.Challenge.rw_wk0041_01, _root_.hd.heap_1) := by (k_fill; rfl))
  k_with "mine:room" => (first | assumption | (simp only [around, Around.deeper, Around.mark, Around.in1, recursionLimit] at *; omega))
  k_with "mine:entercases" => (
    (case ho => k_dflt k_is)
    (case hcd => k_dflt k_is)
    (case hroom => k_extra "mine:room")
    (case hbind => first | exact BindsTo.of_eq rfl | exact binds_K (by k_in) rfl (by k_is) rfl rfl rfl | exact kp_binds (Frag.In.keeps X st) fun _ => rfl)
    (case hkind => exact rfl)
    (case hnd => decide +kernel)
    (case ht => (first | exact List.forall_mem_nil _ | (simp only [List.forall_mem_cons]; simp_all)))
    (case h0 => (first | exact List.forall_mem_nil _ | (simp only [List.forall_mem_cons]; simp_all)))
    (case c1 => exact rfl)
    (case c2 => exact rfl)
    (case c3 => exact rfl))
  k_with "mine:cells" => (
    (first | (k_cells Y') | (have hY := cellsNil Y'; subst hY))
    (try simp only [List.cons_append, List.nil_append, List.append_nil] at N')
    (try dsimp only)
    (try k_fold))
  k_with "mine:go" => (
    (fail_if_success (with_reducible show LCt.CompRestT _ _ _ _ _ _ _ _ _ _ _ _ _ _ _ _ _ _ _ _))
    (fail_if_success (with_reducible show LCg.CompRest _ _ _ _ _ _ _ _ _ _ _ _ _ _ _ _ _ _ _))
    (fail_if_success (with_reducible show ForSrc _ _ _ _ _ _ _ _ _ _ _))
    (first | (k_unfold; (try dsimp only)) | (k_end; wrow_close) | walk1 | (dsimp only; walk1) | (leave1; walk_say "STEP leave1"; try dsimp only) | fail "no step"))
  k_with "mine:same" => exact ⟨_, _, rfl, by assumption, by assumption⟩
  k_with "mine:hdp" => ((try dsimp only [around, Around.deeper]); omega)
  k_with "mine:mapsA" => (repeat' (first | exact List.forall_mem_nil _ | refine List.forall_mem_cons.mpr ⟨by with_unfolding_all rfl, ?_⟩))
  k_with "mine:memS" => ((repeat (first | (with_reducible exact List.mem_cons_self) | refine List.mem_cons_of_mem _ ?_)); done)
  k_with "mine:mapsB" => (
    (intro y hy)
    (try dsimp only)
    (repeat refine (if_neg (hy _ (by k_extra "mine:memS"))).trans ?_)
    (refine Eq.symm ?_)
    (repeat refine (if_neg (hy _ (by k_extra "mine:memS"))).trans ?_)
    rfl)
  k_with "CompSrcT" => (k_here; k_dflt (refine LCt.CompSrcT.range (n := 4) (by rfl) (by k_asm) (by k_asm) (by assumption) (by first | decide | rfl) (by first | rfl | decide) (by first | size_fits | exact Nat.le_of_ble_eq_true rfl) ?_; intro _))
  k_with "eval ListComp" => (k_here; lct_look; k_dflt (refine LCt.ListComp_T (F₀ := by k_asm) (by with_unfolding_all rfl) (by decide) (by rfl) (by decide) (by rfl) ?_); k_dflt lct_toSrc)
  obtain ⟨X, T⟩ := C
  k_extra "mine:fill"
  refine' enterK [] X st T.nolimit ?ho ?hcd ?hroom ?hbind ?hkind ?hnd ?ht ?h0 ?_ ?c1 ?c2 ?c3
  k_extra "mine:entercases"
  intro g' L' h' tk' cells' eL eg stg X' F' N' Y' l1
  have T' := T.keeps stg
  k_extra "mine:cells"
  repeat' k_extra "mine:go"
  refine restT (fun i _ => bitOf mk i) (fun i _ y => ∃ t, y = .str (wordN i) t) (by trivial) ?turn ?elt ?fin
  case turn =>
    intro i v I' oI' C' oC' D' m' h9 tk9 ys hi hv hC' hx' F' N' off' ne'
    obtain ⟨t9', rfl⟩ := hv
    repeat' k_extra "mine:go"
    all_goals first | rfl | k_extra "mine:same"
  case elt =>
    intro i v I' oI' C' oC' D' m' h9 tk9 ys hi hv ht hC' hx' F' N' off' ne'
    obtain ⟨t9', rfl⟩ := hv
    have hi4 : i = 0 ∨ i = 1 ∨ i = 2 ∨ i = 3 := by omega
    rcases hi4 with rfl | rfl | rfl | rfl
    all_goals (repeat' k_extra "mine:go")
    all_goals first | rfl | k_extra "mine:same"
  case fin =>
    intro rs hrs D h9 tk9 F9 N9 off9
    have hD := N9 _ (List.Mem.head _)
    subst eg
    exact hret D h9 tk9 rs (fun b o e _ => F9.keep b o e) hD.2.2 hD.1 (sel_strs hrs)
end
end LWordsS
section LForS
section
open LCg
variable {prog : Program} {w : World} {A : Around} {s : Shared} {h₀ : Heap} {L : Addr} {env : Env} {target iter : Expr} {body orelse : List Stmt} {pos : Pos} {S : List (Addr × Obj) → Prop} {P : Nat → Value → Prop} {St : Nat → Heap → Prop} {Q : Flow → Shared → Prop} {E : Value → Shared → Prop}
/-- what a turn ends in -/
noncomputable def Turned (h₀ : Heap) (L I : Addr) (oI : Obj) (S : List (Addr × Obj) → Prop) (J : (Str → Option Value) → List (Addr × Obj) → Prop) (Q : Flow → Shared → Prop) (s : Shared) (f : Flow) (s₂ : Shared) : Prop :=
  match f with
  | .ret v => Q (.ret v) s₂
  | .brk => Q .next s₂
  | _ => ∃ h' tk' m' news', s₂ = { s with heap := h', toks := tk' } ∧ Fr h₀ L h' m' ∧ News h₀ L h' ((I, oI) :: news') ∧ (∀ p ∈ news', p.1 ≠ I) ∧ S news' ∧ J m' news'
theorem forW_code {I : Addr} {fp : List Addr} {n : Nat} {R : Result → Shared → Prop} {m : Str → Option Value} {news : List (Addr × Obj)} (J : Nat → (Str → Option Value) → List (Addr × Obj) → Prop)
    (W : Walks prog w A I fp [I] n P St) (hIo : ∀ i h, St i h → ∃ o, h.get? I = some o)
    (hSt : ∀ i h h' o nw, St i h → h.get? I = some o → h'.get? I = some o → (∀ b o, h₀.get? b = some o → h'.get? b = some o) → News h₀ L h' nw → S nw → St i h')
    (hgo : ∀ v i (s' : Shared) (Q' : Unit → Shared → Prop), St i s'.heap → Q' () s' → wpAny (model prog w) A (letOwnedTupleGo target (.ref I) v) Q' (fun _ _ => False) s')
    (hIL : L ≠ I) (hI₀ : h₀.get? I = none) (hst : St 0 s.heap) (F : Fr h₀ L s.heap m) (N : News h₀ L s.heap news) (off : ∀ p ∈ news, p.1 ≠ I) (hS : S news) (hJ : J 0 m news)
    (turn : ∀ i v m₁ news₁ oI h tk, i < n → P i v → J i m₁ news₁ → S news₁ → Fr h₀ L h m₁ → News h₀ L h ((I, oI) :: news₁) → (∀ p ∈ news₁, p.1 ≠ I) →
      wpAny (model prog w) A (assign target env v) (fun _ s' => wpAny (model prog w) A (execs body env) (Turned h₀ L I oI S (J (i + 1)) (fun f s' => R (.ok f) s') s) (fun _ _ => False) s') (fun _ _ => False) { s with heap := h, toks := tk })
    (done : ∀ m₁ news₁ h tk, J n m₁ news₁ → S news₁ → Fr h₀ L h m₁ → News h₀ L h news₁ → wpAny (model prog w) A (execs orelse env) (fun f s' => R (.ok f) s') (fun _ _ => False) { s with heap := h, toks := tk }) :
    codeAny (model prog w) A (.forLoop target (.ref I) body orelse env) R s := by
  refine codeAny_forLoop_any
    (fun k s' => ∃ h' tk m' news' i, s' = { s with heap := h', toks := tk } ∧ St i h' ∧ Fr h₀ L h' m' ∧ News h₀ L h' news' ∧ (∀ p ∈ news', p.1 ≠ I) ∧ S news' ∧ J i m' news' ∧ i ≤ n ∧ k = n + 1 - i) ?_ (n + 1)
    ⟨s.heap, s.toks, m, news, 0, rfl, hst, F, N, off, hS, hJ, Nat.zero_le _, rfl⟩
  rintro k s' ⟨h', tk, m', news', i, rfl, hst', F', N', off', hS', hJ', hi, rfl⟩
  by_cases hlt : i < n
  · refine W.item i _ _ _ hlt hst' fun v h₁ tk₁ hP hst₁ hk₁ => ?_
    have F₁ : Fr h₀ L h₁ m' := fr_but F' hk₁ hIL hI₀
    have N₁ : News h₀ L h₁ news' := news_but N' hk₁ off'
    obtain ⟨oI, heI⟩ := hIo _ _ hst₁
    have N₁' : News h₀ L h₁ ((I, oI) :: news') := fun p hp => by
      rcases List.mem_cons.mp hp with rfl | hp
      · exact ⟨heI, Ne.symm hIL, hI₀⟩
      · exact N₁ p hp
    refine wpAny_mono (hgo v (i + 1) { s with heap := h₁, toks := tk₁ } _ hst₁ ?_) (fun _ _ h => h) fun _ _ e => e.elim
    refine wpAny_mono (turn i v m' news' oI h₁ tk₁ hlt hP hJ' hS' F₁ N₁' off') (fun _ s₂ h₂ => wpAny_mono h₂ (fun f s₃ h₃ => ?_) fun _ _ e => e.elim) fun _ _ e => e.elim
    cases f with
    | ret v => exact h₃
    | brk => exact h₃
    | next =>
      obtain ⟨h₃', tk₃, m₂, news₂, rfl, F₃, N₃, off₃, hS₃, hJ₃⟩ := h₃
      have zI := (N₃ (I, oI) List.mem_cons_self).1
      have N₃' : News h₀ L h₃' news₂ := fun p hp => N₃ p (List.mem_cons_of_mem _ hp)
      exact ⟨n + 1 - (i + 1), by omega, h₃', tk₃, m₂, news₂, i + 1, rfl, hSt _ _ _ _ _ hst₁ heI zI F₃.keep N₃' hS₃, F₃, N₃', off₃, hS₃, hJ₃, hlt, rfl⟩
    | cont =>
      obtain ⟨h₃', tk₃, m₂, news₂, rfl, F₃, N₃, off₃, hS₃, hJ₃⟩ := h₃
      have zI := (N₃ (I, oI) List.mem_cons_self).1
      have N₃' : News h₀ L h₃' news₂ := fun p hp => N₃ p (List.mem_cons_of_mem _ hp)
      exact ⟨n + 1 - (i + 1), by omega, h₃', tk₃, m₂, news₂, i + 1, rfl, hSt _ _ _ _ _ hst₁ heI zI F₃.keep N₃' hS₃, F₃, N₃', off₃, hS₃, hJ₃, hlt, rfl⟩
  · obtain rfl : i = n := by omega
    refine W.done _ _ _ hst' fun h₂ tk₂ hk₂ => ?_
    exact wpAny_mono (done m' news' h₂ tk₂ hJ' hS' (fr_but F' hk₂ hIL hI₀) (news_but N' hk₂ off')) (fun _ _ h => h) fun _ _ e => e.elim
theorem go_list {t : Expr} {I ax : Addr} {i : Nat} {v : Value} {s' : Shared} {Q' : Unit → Shared → Prop} {E' : Value → Shared → Prop} (st : s'.heap.IsListIter I ax i) (h : Q' () s') : wpAny (model prog w) A (letOwnedTupleGo t (.ref I) v) Q' E' s' := by
  obtain ⟨o, ho, hc, hd⟩ := st
  unfold letOwnedTupleGo
  split
  all_goals first | exact wpAny_pure h | skip
  all_goals
    cases v with
    | ref a =>
      refine wpAny_bind (wpAny_load ho ?_)
      rw [hc, hd]
      exact wpAny_pure h
    | _ => exact wpAny_pure h
theorem go_range {t : Expr} {I : Addr} {a c d : Int} {v : Value} {s' : Shared} {Q' : Unit → Shared → Prop} {E' : Value → Shared → Prop} (st : IsRangeIter s'.heap I a c d) (h : Q' () s') : wpAny (model prog w) A (letOwnedTupleGo t (.ref I) v) Q' E' s' := by
  unfold letOwnedTupleGo
  split
  all_goals first | exact wpAny_pure h | skip
  all_goals
    cases v with
    | ref b =>
      refine wpAny_bind (wpAny_load st ?_)
      exact wpAny_pure h
    | _ => exact wpAny_pure h

/-- a for whose iterable's value is at hand -/
noncomputable def ForSrc (prog : Program) (w : World) (A : Around) (env : Env) (target : Expr) (body orelse : List Stmt) (Q : Flow → Shared → Prop) (E : Value → Shared → Prop) (xv : Value) (s₁ : Shared) : Prop :=
  wpAny (model prog w) A (pyIter xv) (fun it s₂ => codeAny (model prog w) A (.forLoop target it body orelse env) (fun r s' => match r with | .ok f => Q f s' | .error e => cameBackBy (model prog w) A env E e s') s₂) E s₁
theorem For_src (h : wpAny (model prog w) A (eval iter env) (ForSrc prog w A env target body orelse Q E) E s) (hs : ∀ x, foldedSetIterable iter env x = pure x := by intro _; rfl) :
    wpAny (model prog w) A (exec (.For target iter body orelse pos) env) Q E s := wpAny_For h hs
theorem ForSrc.range {r : Addr} {a b : Int} {t u v : Tok} {n : Nat} {m : Str → Option Value} {news : List (Addr × Obj)} (J : Nat → (Str → Option Value) → List (Addr × Obj) → Prop)
    (hh : A.handled = none) (F : Fr h₀ L s.heap m) (N : News h₀ L s.heap news) (hr : IsRange s.heap r a b 1 t u v) (hsm : Builtin.Range.small a b 1 = true) (hn : Builtin.Range.rangeSize a b 1 = ((n : Nat) : Int)) (hJ : J 0 m news)
    (turn : ∀ i m₁ news₁ I oI h tk t', i < n → J i m₁ news₁ → Fr h₀ L h m₁ → News h₀ L h ((I, oI) :: news₁) → (∀ p ∈ news₁, p.1 ≠ I) →
      wpAny (model prog w) A (assign target env (.int (a + (i : Int)) t')) (fun _ s' => wpAny (model prog w) A (execs body env) (Turned h₀ L I oI (fun _ => True) (J (i + 1)) Q s) (fun _ _ => False) s') (fun _ _ => False) { s with heap := h, toks := tk })
    (done : ∀ m₁ news₁ h tk, J n m₁ news₁ → Fr h₀ L h m₁ → News h₀ L h news₁ → wpAny (model prog w) A (execs orelse env) Q (fun _ _ => False) { s with heap := h, toks := tk }) :
    ForSrc prog w A env target body orelse Q E (.ref r) s := by
  refine wpAny_pyIter_range hr hsm ?_
  refine forW_code (S := fun _ => True) J (range_walks hh a n) (fun i h st => ⟨_, st⟩) range_st (fun v i s' Q' st h => go_range st h) (Nat.ne_of_lt F.ns.lt) (next_is_new F)
    (by show IsRangeIter _ _ _ _ _; rw [hn]; simpa using Heap.get?_push_size _ rfl) (F.keeps fun _ _ e => Heap.get?_push_of_some _ e) (N.grown fun _ _ e => Heap.get?_push_of_some _ e) (fun p hp => Nat.ne_of_lt (Heap.lt_size (N p hp).1)) trivial hJ ?_ ?_
  · rintro i v m₁ news₁ oI h tk hi ⟨t', rfl⟩ hJ' _ F' N' off'
    exact turn i m₁ news₁ _ oI h tk t' hi hJ' F' N' off'
  · intro m₁ news₁ h tk hJ' _ F' N'
    exact done m₁ news₁ h tk hJ' F' N'
theorem ForSrc.list {ax : Addr} {its : Array Value} {m : Str → Option Value} {news : List (Addr × Obj)} (J : Nat → (Str → Option Value) → List (Addr × Obj) → Prop)
    (hh : A.handled = none) (F : Fr h₀ L s.heap m) (N : News h₀ L s.heap news) (hs : SrcAt h₀ ax its news) (hJ : J 0 m news)
    (turn : ∀ i v m₁ news₁ I oI h tk, i < its.size → its[i]? = some v → J i m₁ news₁ → SrcAt h₀ ax its news₁ → Fr h₀ L h m₁ → News h₀ L h ((I, oI) :: news₁) → (∀ p ∈ news₁, p.1 ≠ I) →
      wpAny (model prog w) A (assign target env v) (fun _ s' => wpAny (model prog w) A (execs body env) (Turned h₀ L I oI (SrcAt h₀ ax its) (J (i + 1)) Q s) (fun _ _ => False) s') (fun _ _ => False) { s with heap := h, toks := tk })
    (done : ∀ m₁ news₁ h tk, J its.size m₁ news₁ → SrcAt h₀ ax its news₁ → Fr h₀ L h m₁ → News h₀ L h news₁ → wpAny (model prog w) A (execs orelse env) Q (fun _ _ => False) { s with heap := h, toks := tk }) :
    ForSrc prog w A env target body orelse Q E (.ref ax) s := by
  have hl := hs.list F.keep N
  have hlt : ax < s.heap.objs.size := by obtain ⟨_, e, _⟩ := hl; exact Heap.lt_size e
  refine wpAny_pyIter_list hl ?_
  have up : ∀ b o, s.heap.get? b = some o → (s.heap.push { cls := .type "list_iterator", data := .fields #[.ref ax, .int 0 0] }).get? b = some o := fun b o e => Heap.get?_push_of_some _ e
  exact forW_code (S := SrcAt h₀ ax its) J (Walks.list hh s.heap.objs.size ax (Nat.ne_of_lt hlt) its) (fun i h st => by obtain ⟨o, e, _⟩ := st.1; exact ⟨o, e⟩) list_st (fun v i s' Q' st h => go_list st.1 h) (Nat.ne_of_lt F.ns.lt) (next_is_new F)
    ⟨⟨_, Heap.get?_push_size _ rfl, rfl, rfl⟩, hl.push _⟩ (F.keeps up) (N.grown up) (fun p hp => Nat.ne_of_lt (Heap.lt_size (N p hp).1)) hs hJ (fun i v m₁ news₁ oI h tk hi hP hJ' hS' F' N' off' => turn i v m₁ news₁ _ oI h tk hi hP hJ' hS' F' N' off') done
theorem ForSrc.rangeQ {r : Addr} {a b : Int} {t u v : Tok} {n : Nat} {m : Str → Option Value} {news : List (Addr × Obj)} (J : Nat → (Str → Option Value) → List (Addr × Obj) → Prop)
    (hh : A.handled = none) (F : Fr h₀ L s.heap m) (N : News h₀ L s.heap news) (hr : IsRange s.heap r a b 1 t u v) (hsm : Builtin.Range.small a b 1 = true) (hn : Builtin.Range.rangeSize a b 1 = ((n : Nat) : Int)) (hJ : J 0 m news)
    (turn : ∀ i m₁ news₁ I oI h tk t' (T : Flow → Shared → Prop), (∀ f s₂, Turned h₀ L I oI (fun _ => True) (J (i + 1)) Q s f s₂ → T f s₂) → i < n → J i m₁ news₁ → Fr h₀ L h m₁ → News h₀ L h ((I, oI) :: news₁) → (∀ p ∈ news₁, p.1 ≠ I) →
      wpAny (model prog w) A (assign target env (.int (a + (i : Int)) t')) (fun _ s' => wpAny (model prog w) A (execs body env) T (fun _ _ => False) s') (fun _ _ => False) { s with heap := h, toks := tk })
    (done : ∀ m₁ news₁ h tk, J n m₁ news₁ → Fr h₀ L h m₁ → News h₀ L h news₁ → wpAny (model prog w) A (execs orelse env) Q (fun _ _ => False) { s with heap := h, toks := tk }) :
    ForSrc prog w A env target body orelse Q E (.ref r) s :=
  ForSrc.range J hh F N hr hsm hn hJ (fun i m₁ news₁ I oI h tk t' => turn i m₁ news₁ I oI h tk t' _ fun _ _ h => h) done
theorem ForSrc.listQ {ax : Addr} {its : Array Value} {m : Str → Option Value} {news : List (Addr × Obj)} (J : Nat → (Str → Option Value) → List (Addr × Obj) → Prop)
    (hh : A.handled = none) (F : Fr h₀ L s.heap m) (N : News h₀ L s.heap news) (hs : SrcAt h₀ ax its news) (hJ : J 0 m news)
    (turn : ∀ i v m₁ news₁ I oI h tk (T : Flow → Shared → Prop), (∀ f s₂, Turned h₀ L I oI (SrcAt h₀ ax its) (J (i + 1)) Q s f s₂ → T f s₂) → i < its.size → its[i]? = some v → J i m₁ news₁ → SrcAt h₀ ax its news₁ → Fr h₀ L h m₁ → News h₀ L h ((I, oI) :: news₁) → (∀ p ∈ news₁, p.1 ≠ I) →
      wpAny (model prog w) A (assign target env v) (fun _ s' => wpAny (model prog w) A (execs body env) T (fun _ _ => False) s') (fun _ _ => False) { s with heap := h, toks := tk })
    (done : ∀ m₁ news₁ h tk, J its.size m₁ news₁ → SrcAt h₀ ax its news₁ → Fr h₀ L h m₁ → News h₀ L h news₁ → wpAny (model prog w) A (execs orelse env) Q (fun _ _ => False) { s with heap := h, toks := tk }) :
    ForSrc prog w A env target body orelse Q E (.ref ax) s :=
  ForSrc.list J hh F N hs hJ (fun i v m₁ news₁ I oI h tk => turn i v m₁ news₁ I oI h tk _ fun _ _ h => h) done
theorem While_invQ {E : Value → Shared → Prop} {test : Expr} {m : Str → Option Value} {news : List (Addr × Obj)} (J : Nat → (Str → Option Value) → List (Addr × Obj) → Prop) {n₀ : Nat}
    (F : Fr h₀ L s.heap m) (N : News h₀ L s.heap news) (hJ : J n₀ m news)
    (turn : ∀ n m₁ news₁ h₁ tk₁ (T : Flow → Shared → Prop), (∀ f s₂, WhileStep2 h₀ L s J Q n f s₂ → T f s₂) → Fr h₀ L h₁ m₁ → News h₀ L h₁ news₁ → J n m₁ news₁ →
      wpAny (model prog w) A (isTrue test env (eval test env)) (fun b s₂ =>
        if b = true then wpAny (model prog w) A (execs body env) T E s₂ else Q .next s₂) E { s with heap := h₁, toks := tk₁ })
    (hE : PassesOwn (model prog w) A env E := by passes_own) :
    wpAny (model prog w) A (exec (.While test body [] pos) env) Q E s :=
  While_inv2 J F N hJ (fun n m₁ news₁ h₁ tk₁ => turn n m₁ news₁ h₁ tk₁ _ fun _ _ h => h) hE
end
end LForS
section LConvS
/-- the pattern finds nothing in the text -/
noncomputable def SrchNone (p : Addr) (x : Str) : Prop := ∀ (w : World) (dp un : Nat) (gd : Option (List Code)) (outer : List Env) (s : Shared) (Q E : Value → Shared → Prop) (t : Tok), (hd.heap_1 w.params).In s.heap → Q .none s →
  wpAny (model PW w) (around dp un gd outer) (call (.builtin "re.Pattern.search") [.ref p, .str x t] []) Q E s
section
theorem srch_01 : SrchNone 172 (Str.ofString "OPTIMIZED") := by
  k_with_none
  w_top off
  k_with "mine:fill" => (have _kf : (PySem.Challenge.rw_wk0041_01, _root_.hd.heap_1) = (PySem.Challenge.rw_wk0041_01, _root_.hd.heap_1) := by (k_fill; rfl))
  k_with "mine:room" => (first | assumption | (simp only [around, Around.deeper, Around.mark, Around.in1, recursionLimit] at *; omega))
  k_with "mine:entercases" => (
    (case ho => k_dflt k_is)
    (case hcd => k_dflt k_is)
    (case hroom => k_extra "mine:room")
    (case hbind => first | exact BindsTo.of_eq rfl | exact binds_K (by k_in) rfl (by k_is) rfl rfl rfl | exact kp_binds (Frag.In.keeps X st) fun _ => rfl)
    (case hkind => exact rfl)
    (case hnd => decide +kernel)
    (case ht => (first | exact List.forall_mem_nil _ | (simp only [List.forall_mem_cons]; simp_all)))
    (case h0 => (first | exact List.forall_mem_nil _ | (simp only [List.forall_mem_cons]; simp_all)))
    (case c1 => exact rfl)
    (case c2 => exact rfl)
    (case c3 => exact rfl))
  k_with "mine:cells" => (
    (first | (k_cells Y') | (have hY := cellsNil Y'; subst hY))
    (try simp only [List.cons_append, List.nil_append, List.append_nil] at N')
    (try dsimp only)
    (try k_fold))
  k_with "mine:go" => (
    (fail_if_success (with_reducible show LCt.CompRestT _ _ _ _ _ _ _ _ _ _ _ _ _ _ _ _ _ _ _ _))
    (fail_if_success (with_reducible show LCg.CompRest _ _ _ _ _ _ _ _ _ _ _ _ _ _ _ _ _ _ _))
    (fail_if_success (with_reducible show ForSrc _ _ _ _ _ _ _ _ _ _ _))
    (first | (k_unfold; (try dsimp only)) | (k_end; wrow_close) | walk1 | (dsimp only; walk1) | (leave1; walk_say "STEP leave1"; try dsimp only) | fail "no step"))
  k_with "mine:same" => exact ⟨_, _, rfl, by assumption, by assumption⟩
  k_with "mine:hdp" => ((try dsimp only [around, Around.deeper]); omega)
  k_with "mine:mapsA" => (repeat' (first | exact List.forall_mem_nil _ | refine List.forall_mem_cons.mpr ⟨by with_unfolding_all rfl, ?_⟩))
  k_with "mine:memS" => ((repeat (first | (with_reducible exact List.mem_cons_self) | refine List.mem_cons_of_mem _ ?_)); done)
  k_with "mine:mapsB" => (
    (intro y hy)
    (try dsimp only)
    (repeat refine (if_neg (hy _ (by k_extra "mine:memS"))).trans ?_)
    (refine Eq.symm ?_)
    (repeat refine (if_neg (hy _ (by k_extra "mine:memS"))).trans ?_)
    rfl)
  k_with "m:x_close" => assumption
  k_with "mine:srch" => (
    intro w dp un gd outer s Q E t KX hret
    k_extra "mine:fill"
    x_run)
  k_extra "mine:srch"
theorem srch_02 : SrchNone 172 (Str.ofString "NEWLOCALS") := by k_extra "mine:srch"
theorem srch_03 : SrchNone 172 (Str.ofString "VARARGS") := by k_extra "mine:srch"
theorem srch_04 : SrchNone 172 (Str.ofString "VARKEYWORDS") := by k_extra "mine:srch"
theorem srch_05 : SrchNone 172 (Str.ofString "optimized") := by k_extra "mine:srch"
theorem srch_06 : SrchNone 172 (Str.ofString "newlocals") := by k_extra "mine:srch"
theorem srch_07 : SrchNone 172 (Str.ofString "varargs") := by k_extra "mine:srch"
theorem srch_08 : SrchNone 172 (Str.ofString "varkeywords") := by k_extra "mine:srch"
theorem srch_09 : SrchNone 172 (Str.ofString "0x100000") := by k_extra "mine:srch"
theorem srch_10 : SrchNone 172 (Str.ofString "0x100000000") := by k_extra "mine:srch"
theorem srch_11 : SrchNone 177 (Str.ofString "in") := by k_extra "mine:srch"
end
section
variable {w : World} {mean : ExcName → Option Value} {mg mb : Str → Option Value} {dp un : Nat} {gd : Option (List Code)} {outer : List Env} {H₀ : Heap} {s : Shared} {Q E : Value → Shared → Prop}
theorem convT_spec (C : Cx w mean mg mb H₀) (st : H₀.StaysIn s.heap) (hd1 : dp + 10 < recursionLimit) (self : Value) {x : Str} {t : Tok} (hsr : SrchNone 172 x)
    (hret : ∀ h' tk', Grow s.heap h' [] → Q (.str x t) { s with heap := h', toks := tk' }) :
    wpAny (model PW w) (around dp un gd outer) (call (.ref 199) [self, .str x t] [(Str.ofString "name", .bool true)]) Q E s := by
  k_with_none
  w_top off
  k_with "mine:fill" => (have _kf : (PySem.Challenge.rw_wk0041_01, _root_.hd.heap_1) = (PySem.Challenge.rw_wk0041_01, _root_.hd.heap_1) := by (k_fill; rfl))
  k_with "mine:room" => (first | assumption | (simp only [around, Around.deeper, Around.mark, Around.in1, recursionLimit] at *; omega))
  k_with "mine:entercases" => (
    (case ho => k_dflt k_is)
    (case hcd => k_dflt k_is)
    (case hroom => k_extra "mine:room")
    (case hbind => first | exact BindsTo.of_eq rfl | exact binds_K (by k_in) rfl (by k_is) rfl rfl rfl | exact kp_binds (Frag.In.keeps X st) fun _ => rfl)
    (case hkind => exact rfl)
    (case hnd => decide +kernel)
    (case ht => (first | exact List.forall_mem_nil _ | (simp only [List.forall_mem_cons]; simp_all)))
    (case h0 => (first | exact List.forall_mem_nil _ | (simp only [List.forall_mem_cons]; simp_all)))
    (case c1 => exact rfl)
    (case c2 => exact rfl)
    (case c3 => exact rfl))
  k_with "mine:cells" => (
    (first | (k_cells Y') | (have hY := cellsNil Y'; subst hY))
    (try simp only [List.cons_append, List.nil_append, List.append_nil] at N')
    (try dsimp only)
    (try k_fold))
  k_with "mine:go" => (
    (fail_if_success (with_reducible show LCt.CompRestT _ _ _ _ _ _ _ _ _ _ _ _ _ _ _ _ _ _ _ _))
    (fail_if_success (with_reducible show LCg.CompRest _ _ _ _ _ _ _ _ _ _ _ _ _ _ _ _ _ _ _))
    (fail_if_success (with_reducible show ForSrc _ _ _ _ _ _ _ _ _ _ _))
    (first | (k_unfold; (try dsimp only)) | (k_end; wrow_close) | walk1 | (dsimp only; walk1) | (leave1; walk_say "STEP leave1"; try dsimp only) | fail "no step"))
  k_with "mine:same" => exact ⟨_, _, rfl, by assumption, by assumption⟩
  k_with "mine:hdp" => ((try dsimp only [around, Around.deeper]); omega)
  k_with "mine:mapsA" => (repeat' (first | exact List.forall_mem_nil _ | refine List.forall_mem_cons.mpr ⟨by with_unfolding_all rfl, ?_⟩))
  k_with "mine:memS" => ((repeat (first | (with_reducible exact List.mem_cons_self) | refine List.mem_cons_of_mem _ ?_)); done)
  k_with "mine:mapsB" => (
    (intro y hy)
    (try dsimp only)
    (repeat refine (if_neg (hy _ (by k_extra "mine:memS"))).trans ?_)
    (refine Eq.symm ?_)
    (repeat refine (if_neg (hy _ (by k_extra "mine:memS"))).trans ?_)
    rfl)
  k_with "getMethod ref" => (
    (with_reducible show wpAny _ _ (getMethod (Value.ref 172) _ _) _ _ _)
    (with_reducible rename Fr _ _ _ _ => F9)
    (with_unfolding_all refine Looks.here (Looks.of_peek (K := hd.heap_1 _) (Frag.In.keeps (by assumption) F9.keep) (r := (.builtin "re.Pattern.search", [.ref 172])) (by rw [PySem.W.Fast.te6042679816869820781]; kernel_rfl)) ?_))
  k_with "getMethod ref" => (
    (with_reducible show wpAny _ _ (getMethod (Value.ref 177) _ _) _ _ _)
    (with_reducible rename Fr _ _ _ _ => F9)
    (with_unfolding_all refine Looks.here (Looks.of_peek (K := hd.heap_1 _) (Frag.In.keeps (by assumption) F9.keep) (r := (.builtin "re.Pattern.search", [.ref 177])) (by rw [PySem.W.Fast.te6042679816869820781]; kernel_rfl)) ?_))
  k_with "call builtin:re.Pattern.search" => (
    (with_reducible rename Fr _ _ _ _ => F9)
    (with_unfolding_all refine hsr _ _ _ _ _ _ _ _ _ (Frag.In.keeps X' F9.keep) ?_))
  obtain ⟨X, T⟩ := C
  k_extra "mine:fill"
  refine' enterK [] X st T.nolimit ?ho ?hcd ?hroom ?hbind ?hkind ?hnd ?ht ?h0 ?_ ?c1 ?c2 ?c3
  k_extra "mine:entercases"
  intro g' L' h' tk' cells' eL eg stg X' F' N' Y' l1
  have T' := T.keeps stg
  have eg' : g' = s.heap := eg
  k_extra "mine:cells"
  clear Y'
  replace F' : Fr g' L' h' (fun y => if y = Str.ofString "name" then some (.bool true) else if y = Str.ofString "value" then some (.str x t) else if y = Str.ofString "self" then some self else none) := by with_unfolding_all exact F'
  repeat' k_extra "mine:go"
  rename Fr _ _ _ _ => F9
  exact hret _ _ fun b o e _ => F9.keep b o (eg' ▸ e)
theorem convF_spec (C : Cx w mean mg mb H₀) (st : H₀.StaysIn s.heap) (hd1 : dp + 10 < recursionLimit) (self : Value) {x : Str} {t : Tok} (hsr : SrchNone 177 x)
    (hret : ∀ h' tk', Grow s.heap h' [] → Q (.str x t) { s with heap := h', toks := tk' }) :
    wpAny (model PW w) (around dp un gd outer) (call (.ref 199) [self, .str x t] [(Str.ofString "name", .bool false)]) Q E s := by
  obtain ⟨X, T⟩ := C
  k_extra "mine:fill"
  refine' enterK [] X st T.nolimit ?ho ?hcd ?hroom ?hbind ?hkind ?hnd ?ht ?h0 ?_ ?c1 ?c2 ?c3
  k_extra "mine:entercases"
  intro g' L' h' tk' cells' eL eg stg X' F' N' Y' l1
  have T' := T.keeps stg
  have eg' : g' = s.heap := eg
  k_extra "mine:cells"
  clear Y'
  replace F' : Fr g' L' h' (fun y => if y = Str.ofString "name" then some (.bool false) else if y = Str.ofString "value" then some (.str x t) else if y = Str.ofString "self" then some self else none) := by with_unfolding_all exact F'
  repeat' k_extra "mine:go"
  rename Fr _ _ _ _ => F9
  exact hret _ _ fun b o e _ => F9.keep b o (eg' ▸ e)
end
end LConvS
section LLowS
noncomputable def LowIs (x y : Str) : Prop := ∀ (w : World) (dp un : Nat) (gd : Option (List Code)) (outer : List Env) (s : Shared) (Q E : Value → Shared → Prop) (t : Tok), (hd.heap_1 w.params).In s.heap → (∀ t' k, Q (.str y t') { s with toks := k }) →
  wpAny (model PW w) (around dp un gd outer) (call (.builtin "str.lower") [.str x t] []) Q E s
section
theorem low_01 : LowIs (Str.ofString "OPTIMIZED") (Str.ofString "optimized") := by
  k_with_none
  w_top off
  k_with "mine:fill" => (have _kf : (PySem.Challenge.rw_wk0041_01, _root_.hd.heap_1) = (PySem.Challenge.rw_wk0041_01, _root_.hd.heap_1) := by (k_fill; rfl))
  k_with "mine:room" => (first | assumption | (simp only [around, Around.deeper, Around.mark, Around.in1, recursionLimit] at *; omega))
  k_with "mine:entercases" => (
    (case ho => k_dflt k_is)
    (case hcd => k_dflt k_is)
    (case hroom => k_extra "mine:room")
    (case hbind => first | exact BindsTo.of_eq rfl | exact binds_K (by k_in) rfl (by k_is) rfl rfl rfl | exact kp_binds (Frag.In.keeps X st) fun _ => rfl)
    (case hkind => exact rfl)
    (case hnd => decide +kernel)
    (case ht => (first | exact List.forall_mem_nil _ | (simp only [List.forall_mem_cons]; simp_all)))
    (case h0 => (first | exact List.forall_mem_nil _ | (simp only [List.forall_mem_cons]; simp_all)))
    (case c1 => exact rfl)
    (case c2 => exact rfl)
    (case c3 => exact rfl))
  k_with "mine:cells" => (
    (first | (k_cells Y') | (have hY := cellsNil Y'; subst hY))
    (try simp only [List.cons_append, List.nil_append, List.append_nil] at N')
    (try dsimp only)
    (try k_fold))
  k_with "mine:go" => (
    (fail_if_success (with_reducible show LCt.CompRestT _ _ _ _ _ _ _ _ _ _ _ _ _ _ _ _ _ _ _ _))
    (fail_if_success (with_reducible show LCg.CompRest _ _ _ _ _ _ _ _ _ _ _ _ _ _ _ _ _ _ _))
    (fail_if_success (with_reducible show ForSrc _ _ _ _ _ _ _ _ _ _ _))
    (first | (k_unfold; (try dsimp only)) | (k_end; wrow_close) | walk1 | (dsimp only; walk1) | (leave1; walk_say "STEP leave1"; try dsimp only) | fail "no step"))
  k_with "mine:same" => exact ⟨_, _, rfl, by assumption, by assumption⟩
  k_with "mine:hdp" => ((try dsimp only [around, Around.deeper]); omega)
  k_with "mine:mapsA" => (repeat' (first | exact List.forall_mem_nil _ | refine List.forall_mem_cons.mpr ⟨by with_unfolding_all rfl, ?_⟩))
  k_with "mine:memS" => ((repeat (first | (with_reducible exact List.mem_cons_self) | refine List.mem_cons_of_mem _ ?_)); done)
  k_with "mine:mapsB" => (
    (intro y hy)
    (try dsimp only)
    (repeat refine (if_neg (hy _ (by k_extra "mine:memS"))).trans ?_)
    (refine Eq.symm ?_)
    (repeat refine (if_neg (hy _ (by k_extra "mine:memS"))).trans ?_)
    rfl)
  k_with "m:x_close" => exact hret _ _
  k_with "mine:low" => (
    intro w dp un gd outer s Q E t KX hret
    k_extra "mine:fill"
    x_run)
  k_extra "mine:low"
theorem low_02 : LowIs (Str.ofString "NEWLOCALS") (Str.ofString "newlocals") := by k_extra "mine:low"
theorem low_03 : LowIs (Str.ofString "VARARGS") (Str.ofString "varargs") := by k_extra "mine:low"
theorem low_04 : LowIs (Str.ofString "VARKEYWORDS") (Str.ofString "varkeywords") := by k_extra "mine:low"
theorem low_05 : LowIs (Str.ofString "optimized") (Str.ofString "optimized") := by k_extra "mine:low"
theorem low_06 : LowIs (Str.ofString "newlocals") (Str.ofString "newlocals") := by k_extra "mine:low"
theorem low_07 : LowIs (Str.ofString "varargs") (Str.ofString "varargs") := by k_extra "mine:low"
theorem low_08 : LowIs (Str.ofString "varkeywords") (Str.ofString "varkeywords") := by k_extra "mine:low"
theorem low_09 : LowIs (Str.ofString "0x100000") (Str.ofString "0x100000") := by k_extra "mine:low"
theorem low_10 : LowIs (Str.ofString "0x100000000") (Str.ofString "0x100000000") := by k_extra "mine:low"
end
/-- the six names as the desk bears them, then the four in small letters -/
noncomputable def W6 : List Str := [Str.ofString "OPTIMIZED", Str.ofString "NEWLOCALS", Str.ofString "VARARGS", Str.ofString "VARKEYWORDS", Str.ofString "0x100000", Str.ofString "0x100000000"]
noncomputable def W10 : List Str := W6 ++ [Str.ofString "optimized", Str.ofString "newlocals", Str.ofString "varargs", Str.ofString "varkeywords"]
noncomputable def low (x : Str) : Str := if x = Str.ofString "OPTIMIZED" then Str.ofString "optimized" else if x = Str.ofString "NEWLOCALS" then Str.ofString "newlocals" else if x = Str.ofString "VARARGS" then Str.ofString "varargs"
  else if x = Str.ofString "VARKEYWORDS" then Str.ofString "varkeywords" else x
theorem low_is {x : Str} (h : x ∈ W10) : LowIs x (low x) := by
  simp only [W10, W6, List.cons_append, List.nil_append, List.mem_cons, List.not_mem_nil, or_false] at h
  rcases h with rfl | rfl | rfl | rfl | rfl | rfl | rfl | rfl | rfl | rfl
  · exact low_01
  · exact low_02
  · exact low_03
  · exact low_04
  · exact low_09
  · exact low_10
  · exact low_05
  · exact low_06
  · exact low_07
  · exact low_08
theorem srch_is {x : Str} (h : x ∈ W10) : SrchNone 172 x := by
  simp only [W10, W6, List.cons_append, List.nil_append, List.mem_cons, List.not_mem_nil, or_false] at h
  rcases h with rfl | rfl | rfl | rfl | rfl | rfl | rfl | rfl | rfl | rfl
  · exact srch_01
  · exact srch_02
  · exact srch_03
  · exact srch_04
  · exact srch_09
  · exact srch_10
  · exact srch_05
  · exact srch_06
  · exact srch_07
  · exact srch_08
theorem low_mem : ∀ x ∈ W10, low x ∈ W10 := by decide +kernel
theorem W6_sub : ∀ x ∈ W6, x ∈ W10 := by decide +kernel
end LLowS
section LMakeS
section
variable {prog : Program} {w : World} {A : Around} {s : Shared} {R : Result → Shared → Prop} {name qual : Str} {params : Arguments} {body : List Stmt} {scope : Scope} {dV kV doc pm cdv ct : Value} {an : Option Addr} {fo : Obj} {f : Addr} {args : Args} {binds : List (Str × Value)}
theorem enterKR {K : Frag} {oc : Value} {od : Option Addr} {osl : Array (Option Value)} {H₀ : Heap} {vals : List Value} {kws : List (Str × Value)} (touched : List (Addr × Obj)) (X : K.In H₀) (st : H₀.StaysIn s.heap) (hlim : H₀.NoLimit)
    (ho : K.lookup f = some ⟨oc, od, .func (fnOf name qual params body scope dV kV doc pm an cdv ct), osl⟩) (hcd : codeIn K cdv qual = true) (hroom : A.depth < recursionLimit)
    (hbind : BindsTo s (fnOf name qual params body scope dV kV doc pm an cdv ct) ⟨vals, kws⟩ binds)
    (hkind : (binds.all fun y => scope.names.lookup y.1 == some .local || scope.names.lookup y.1 == some .cell) = true)
    (hnd : ((cellsFrom 0 scope.names []).map (·.1)).Nodup)
    (ht : ∀ p ∈ touched, s.heap.get? p.1 = some p.2) (h0 : ∀ p ∈ touched, H₀.get? p.1 = none)
    (h : ∀ g L' h₁ tk cells, L' = s.heap.objs.size → g = hideAll s.heap (touched.map (·.1)) → H₀.StaysIn g → K.In g → Fr g L' h₁ (bindL (envOfC qual scope L' f cdv).kindOf binds fun _ => none) →
      News g L' h₁ (cells ++ touched) →
      CellsAre (bindC (envOfC qual scope L' f cdv).kindOf binds fun _ => none) (cellsFrom (L' + 1) scope.names []) cells → (∀ p ∈ touched, p.1 < L') →
      wpAny (model prog w) (A.deeper (envOfC qual scope L' f cdv)) (execs body (envOfC qual scope L' f cdv))
        (fun fl s' => R (.ok (.ret (match fl with | .ret v => v | _ => .none))) s') (fun _ _ => False)
        { s with heap := h₁, toks := tk })
    (hco : scope.isCoroutine = false := by rfl) (hgen : scope.isGenerator = false := by rfl) (hk : scope.kind = .function := by rfl) : codeAny (model prog w) A (.call (.ref f) ⟨vals, kws⟩) R s := by
  refine enterC touched hroom ((X.keeps st) _ _ ho) rfl (codeRec_of (X.keeps st) hcd) (hlim.keeps st) hbind hkind hnd ht ?_ hco hgen hk
  intro L' h₁ tk cells eL F N Y lt
  have st' : H₀.StaysIn (hideAll s.heap (touched.map (·.1))) := fun b o e => hideAll_get _ (st b o e) fun q => by
    obtain ⟨p, hp, rfl⟩ := List.mem_map.mp q
    rw [h0 p hp] at e; cases e
  exact h _ L' h₁ tk cells eL rfl st' (X.keeps st') F N Y lt
end
theorem around_under (dp un : Nat) (gd : Option (List Code)) (outer : List Env) (c : Code) (he : c.envs = []) : (around dp un gd outer).under c = around (dp + c.weight) (un + c.cUnits) (pushGuards c.guards gd) outer := by
  unfold Around.under
  rw [he]
  rfl
end LMakeS
section LGetS
inductive TupsAre (h : Heap) : List Value → List (Str × Str) → Prop
  | nil : TupsAre h [] []
  | cons {a : Addr} {x y : Str} {t1 t2 : Tok} {n : Nat} {vs : List Value} {ps : List (Str × Str)} : h.get? a = some { cls := .type "tuple", data := .seq #[.str x t1, .str y t2] n } → TupsAre h vs ps → TupsAre h (.ref a :: vs) ((x, y) :: ps)
theorem TupsAre.at {h : Heap} {vs : List Value} {ps : List (Str × Str)} (H : TupsAre h vs ps) : ∀ (i : Nat) (v : Value), vs[i]? = some v → ∃ a x y t1 t2 n, v = .ref a ∧ ps[i]? = some (x, y) ∧ h.get? a = some { cls := .type "tuple", data := .seq #[.str x t1, .str y t2] n } := by
  induction H with
  | nil => intro i v e; cases e
  | cons ha _ ih =>
    intro i v e
    cases i with
    | zero => cases e; exact ⟨_, _, _, _, _, _, rfl, rfl, ha⟩
    | succ i => exact ih i v e
theorem TupsAre.length {h : Heap} {vs : List Value} {ps : List (Str × Str)} (H : TupsAre h vs ps) : vs.length = ps.length := by
  induction H with
  | nil => rfl
  | cons _ _ ih => exact congrArg (· + 1) ih
theorem TupsAre.keeps {h h' : Heap} {vs : List Value} {ps : List (Str × Str)} (H : TupsAre h vs ps) (k : ∀ b o, h.get? b = some o → o.cls = .type "tuple" → h'.get? b = some o) : TupsAre h' vs ps := by
  induction H with
  | nil => exact .nil
  | cons ha _ ih => exact .cons (k _ _ ha rfl) ih
section
variable {w : World} {mean : ExcName → Option Value} {mg mb : Str → Option Value} {dp un : Nat} {gd : Option (List Code)} {outer : List Env} {H₀ : Heap} {s : Shared} {Q E : Value → Shared → Prop}
theorem get_code {R : Result → Shared → Prop} (C : Cx w mean mg mb H₀) (st : H₀.StaysIn s.heap) (hd1 : dp + 20 < recursionLimit) {d dx hl : Addr} {hh : Int} {t0 t : Tok} {yv : Value} {n : Nat} {refs : List Value} {ps : List (Str × Str)} {x : Str}
    (hi : s.heap.get? d = some (instObj 300 dx)) (hdi : s.heap.get? dx = some (dictOf [⟨hh, .str (Str.ofString "_headers") t0, .ref hl⟩] 1)) (hls : s.heap.get? hl = some (W.listOf refs.toArray n)) (htp : TupsAre s.heap refs ps)
    (hd0 : H₀.get? d = none) (hdx0 : H₀.get? dx = none) (hx : x ∈ W10) (hps : ∀ p ∈ ps, p.1 ∈ W10) (vals : List Value) (kws : List (Str × Value))
    (hb : ∀ (s : Shared) fo fd, (hd.heap_1 w.params).In s.heap → (hd.heap_1 w.params).lookup 247 = some fo → fo.data = .func fd → BindsTo s fd ⟨vals, kws⟩ [(Str.ofString "self", .ref d), (Str.ofString "name", .str x t), (Str.ofString "default", yv)])
    (hret1 : ∀ p ∈ ps, low p.1 = low x → ∀ h' tk' t', Grow s.heap h' [] → R (.ok (.ret (.str p.2 t'))) { s with heap := h', toks := tk' })
    (hret0 : (∀ p ∈ ps, low p.1 ≠ low x) → ∀ h' tk', Grow s.heap h' [] → R (.ok (.ret yv)) { s with heap := h', toks := tk' }) :
    codeAny (model PW w) (around dp un gd outer) (.call (.ref 247) ⟨vals, kws⟩) R s := by
  k_with_none
  w_top off
  k_with "mine:fill" => (have _kf : (PySem.Challenge.rw_wk0041_01, _root_.hd.heap_1) = (PySem.Challenge.rw_wk0041_01, _root_.hd.heap_1) := by (k_fill; rfl))
  k_with "mine:room" => (first | assumption | (simp only [around, Around.deeper, Around.mark, Around.in1, recursionLimit] at *; omega))
  k_with "mine:entercases" => (
    (case ho => k_dflt k_is)
    (case hcd => k_dflt k_is)
    (case hroom => k_extra "mine:room")
    (case hbind => first | exact BindsTo.of_eq rfl | exact binds_K (by k_in) rfl (by k_is) rfl rfl rfl | exact kp_binds (Frag.In.keeps X st) fun _ => rfl)
    (case hkind => exact rfl)
    (case hnd => decide +kernel)
    (case ht => (first | exact List.forall_mem_nil _ | (simp only [List.forall_mem_cons]; simp_all)))
    (case h0 => (first | exact List.forall_mem_nil _ | (simp only [List.forall_mem_cons]; simp_all)))
    (case c1 => exact rfl)
    (case c2 => exact rfl)
    (case c3 => exact rfl))
  k_with "mine:cells" => (
    (first | (k_cells Y') | (have hY := cellsNil Y'; subst hY))
    (try simp only [List.cons_append, List.nil_append, List.append_nil] at N')
    (try dsimp only)
    (try k_fold))
  k_with "mine:go" => (
    (fail_if_success (with_reducible show LCt.CompRestT _ _ _ _ _ _ _ _ _ _ _ _ _ _ _ _ _ _ _ _))
    (fail_if_success (with_reducible show LCg.CompRest _ _ _ _ _ _ _ _ _ _ _ _ _ _ _ _ _ _ _))
    (fail_if_success (with_reducible show ForSrc _ _ _ _ _ _ _ _ _ _ _))
    (first | (k_unfold; (try dsimp only)) | (k_end; wrow_close) | walk1 | (dsimp only; walk1) | (leave1; walk_say "STEP leave1"; try dsimp only) | fail "no step"))
  k_with "mine:same" => exact ⟨_, _, rfl, by assumption, by assumption⟩
  k_with "mine:hdp" => ((try dsimp only [around, Around.deeper]); omega)
  k_with "mine:mapsA" => (repeat' (first | exact List.forall_mem_nil _ | refine List.forall_mem_cons.mpr ⟨by with_unfolding_all rfl, ?_⟩))
  k_with "mine:memS" => ((repeat (first | (with_reducible exact List.mem_cons_self) | refine List.mem_cons_of_mem _ ?_)); done)
  k_with "mine:mapsB" => (
    (intro y hy)
    (try dsimp only)
    (repeat refine (if_neg (hy _ (by k_extra "mine:memS"))).trans ?_)
    (refine Eq.symm ?_)
    (repeat refine (if_neg (hy _ (by k_extra "mine:memS"))).trans ?_)
    rfl)
  k_with "exec For" => (with_unfolding_all refine For_src ?_ (by intro _; rfl))
  k_with "call ref" => (
    (with_reducible show wpAny _ _ (call (Value.ref 199) _ _) _ _ _)
    (with_reducible rename Fr _ _ _ _ => F9)
    (with_unfolding_all refine convT_spec C (fun b o e => F9.keep b o (stg b o e)) ?hdp _ hsr ?_)
    (case hdp => k_extra "mine:hdp")
    (intro h9 tk9 G9)
    (have F9' := fr_grow F9 G9)
    (rename News _ _ _ _ => N9)
    (have N9' := news_grow N9 G9)
    (clear F9 N9 G9))
  k_with "call builtin:str.lower" => (
    (with_reducible rename Fr _ _ _ _ => F9)
    (with_unfolding_all refine low_is ?hx _ _ _ _ _ _ _ _ _ (Frag.In.keeps X' F9.keep) ?_)
    (case hx => assumption)
    (intro t9 k9))
  have C0 := C
  obtain ⟨X, T⟩ := C
  have C := C0
  have hsr := srch_is (low_mem x hx)
  k_extra "mine:fill"
  refine' enterKR [(d, instObj 300 dx), (dx, dictOf [⟨hh, .str (Str.ofString "_headers") t0, .ref hl⟩] 1)] X st T.nolimit ?ho ?hcd ?hroom (hb _ _ _ (X.keeps st) ?ho rfl) ?hkind ?hnd ?ht ?h0 ?_ ?c1 ?c2 ?c3
  case ho => k_dflt k_is
  case hcd => k_dflt k_is
  case hroom => k_extra "mine:room"
  case hkind => exact rfl
  case hnd => decide +kernel
  case ht => simp [hi, hdi]
  case h0 => simp [hd0, hdx0]
  case c1 => exact rfl
  case c2 => exact rfl
  case c3 => exact rfl
  intro g' L' h' tk' cells' eL eg stg X' F' N' Y' l1
  have T' := T.keeps stg
  k_extra "mine:cells"
  clear Y'
  replace F' : Fr g' L' h' (fun z => if z = Str.ofString "default" then some yv else if z = Str.ofString "name" then some (.str x t) else if z = Str.ofString "self" then some (.ref d) else none) := by with_unfolding_all exact F'
  repeat' k_extra "mine:go"
  have nd : ∀ b o, s.heap.get? b = some o → b ≠ d → b ≠ dx → g'.get? b = some o := fun b o e h1 h2 => eg ▸ hideAll_get _ e (by simp [h1, h2])
  have hl1 : @Ne Nat hl d := by intro e; subst e; rw [hls] at hi; cases hi
  have hl2 : @Ne Nat hl dx := by intro e; subst e; rw [hls] at hdi; exact absurd (congrArg Obj.cls (Option.some.inj hdi)) (by show ¬ (Value.type "list" = Value.type "dict"); decide)
  have hlg : g'.IsList hl refs.toArray := ⟨_, nd _ _ hls hl1 hl2, rfl, n, rfl⟩
  refine ForSrc.list (fun i m₁ news₁ => ∃ tlx, m₁ = (fun z => if z = Str.ofString "k" then m₁ z else if z = Str.ofString "v" then m₁ z else if z = Str.ofString "name" then some (.str (low x) tlx) else if z = Str.ofString "default" then some yv else if z = Str.ofString "self" then some (.ref d) else none) ∧ news₁ = [(d, instObj 300 dx), (dx, dictOf [⟨hh, .str (Str.ofString "_headers") t0, .ref hl⟩] 1)] ∧ ∀ p ∈ ps.take i, low p.1 ≠ low x) (by rfl) (by k_asm) (by k_asm) (.inl hlg) ?J0 ?turn ?done
  case J0 =>
    refine' ⟨?tk, ?mp, rfl, by simp⟩
    case mp =>
      funext z
      by_cases h1 : z = Str.ofString "k"
      · simp only [if_pos h1]
      by_cases h2 : z = Str.ofString "v"
      · simp only [if_neg h1, if_pos h2]
      by_cases h3 : z = Str.ofString "name"
      · simp only [if_neg h1, if_neg h2, if_pos h3]; rfl
      by_cases h4 : z = Str.ofString "default"
      · simp only [if_neg h1, if_neg h2, if_neg h3, if_pos h4]
      simp only [if_neg h1, if_neg h2, if_neg h3, if_neg h4]
  case done =>
    rintro m₁ news₁ h tk ⟨tlx, hm₁, rfl, hJ⟩ hS F' N'
    rw [hm₁] at F'
    clear hm₁
    repeat' k_extra "mine:go"
    rename Fr _ _ _ _ => F9
    rename News _ _ _ _ => N9
    rw [List.size_toArray, htp.length, List.take_length] at hJ
    exact hret0 hJ _ _ (grow_back eg F9 N9 (by simp [hi, hdi]))
  case turn =>
    rintro i v m₁ news₁ I oI h tk hi' hv ⟨tlx, hm₁, rfl, hJ⟩ hS F' N' off'
    rw [hm₁] at F'
    clear hm₁
    obtain ⟨a, kx, vx, t1, t2, n2, rfl, hp, ha⟩ := htp.at i v (by simpa using hv)
    have hkW : kx ∈ W10 := hps _ (List.mem_of_getElem? hp)
    have ha1 : @Ne Nat a d := by intro e; subst e; rw [ha] at hi; cases hi
    have ha2 : @Ne Nat a dx := by intro e; subst e; rw [ha] at hdi; exact absurd (congrArg Obj.cls (Option.some.inj hdi)) (by show ¬ (Value.type "tuple" = Value.type "dict"); decide)
    have htup : IsTup g' a #[.str kx t1, .str vx t2] := ⟨_, nd _ _ ha ha1 ha2, rfl, n2, rfl⟩
    repeat' k_extra "mine:go"
    · dsimp only [Turned]
      rename Fr _ _ _ _ => F9
      rename News _ _ _ _ => N9
      have hk : low kx = low x := by simpa using (by assumption : (low kx == low x) = true)
      exact hret1 _ (List.mem_of_getElem? hp) hk _ _ _ (grow_back eg F9 N9 (by simp [hi, hdi]))
    · dsimp only [Turned]
      have hk : low kx ≠ low x := by simpa using (by assumption : (low kx == low x) = false)
      refine ⟨_, _, _, _, rfl, by assumption, by assumption, off', hS, tlx, ?_, rfl, ?_⟩
      · funext z
        by_cases h1 : z = Str.ofString "k"
        · simp only [if_pos h1]
        by_cases h2 : z = Str.ofString "v"
        · simp only [if_neg h1, if_pos h2]
        simp only [if_neg h1, if_neg h2]
      · intro p hpm
        rw [List.take_add_one, hp] at hpm
        rcases List.mem_append.mp hpm with hpm | hpm
        · exact hJ p hpm
        · rw [List.mem_singleton.mp hpm]; exact hk
theorem get_core (C : Cx w mean mg mb H₀) (st : H₀.StaysIn s.heap) (hd1 : dp + 20 < recursionLimit) {d dx hl : Addr} {hh : Int} {t0 t : Tok} {yv : Value} {n : Nat} {refs : List Value} {ps : List (Str × Str)} {x : Str}
    (hi : s.heap.get? d = some (instObj 300 dx)) (hdi : s.heap.get? dx = some (dictOf [⟨hh, .str (Str.ofString "_headers") t0, .ref hl⟩] 1)) (hls : s.heap.get? hl = some (W.listOf refs.toArray n)) (htp : TupsAre s.heap refs ps)
    (hd0 : H₀.get? d = none) (hdx0 : H₀.get? dx = none) (hx : x ∈ W10) (hps : ∀ p ∈ ps, p.1 ∈ W10) (vals : List Value) (kws : List (Str × Value))
    (hb : ∀ (s : Shared) fo fd, (hd.heap_1 w.params).In s.heap → (hd.heap_1 w.params).lookup 247 = some fo → fo.data = .func fd → BindsTo s fd ⟨vals, kws⟩ [(Str.ofString "self", .ref d), (Str.ofString "name", .str x t), (Str.ofString "default", yv)])
    (hret1 : ∀ p ∈ ps, low p.1 = low x → ∀ h' tk' t', Grow s.heap h' [] → Q (.str p.2 t') { s with heap := h', toks := tk' })
    (hret0 : (∀ p ∈ ps, low p.1 ≠ low x) → ∀ h' tk', Grow s.heap h' [] → Q yv { s with heap := h', toks := tk' }) :
    wpAny (model PW w) (around dp un gd outer) (call (.ref 247) vals kws) Q E s :=
  wpAny_call (get_code C st hd1 hi hdi hls htp hd0 hdx0 hx hps vals kws hb hret1 hret0)
theorem hb_of {K : Frag} {f : Addr} {vals : List Value} {kws : List (Str × Value)} {binds : List (Str × Value)} {o : Obj} (e : K.lookup f = some o) (h : ∀ (s : Shared) fd, K.In s.heap → o.data = .func fd → BindsTo s fd ⟨vals, kws⟩ binds) :
    ∀ (s : Shared) fo fd, K.In s.heap → K.lookup f = some fo → fo.data = .func fd → BindsTo s fd ⟨vals, kws⟩ binds := fun s fo fd h0 h1 h2 => by
  rw [e] at h1
  cases h1
  exact h s fd h0 h2
theorem get_pos {d : Addr} {x : Str} {t : Tok} {yv : Value} : ∀ (s : Shared) fo fd, (hd.heap_1 w.params).In s.heap → (hd.heap_1 w.params).lookup 247 = some fo → fo.data = .func fd → BindsTo s fd ⟨[.ref d, .str x t, yv], []⟩ [(Str.ofString "self", .ref d), (Str.ofString "name", .str x t), (Str.ofString "default", yv)] := by
  k_extra "mine:fill"
  refine' hb_of ?e ?_
  case e => k_dflt k_is
  intro s fd h0 h2
  cases h2
  exact kp_binds h0 fun _ => rfl
theorem get_kw {d : Addr} {x : Str} {t : Tok} {yv : Value} : ∀ (s : Shared) fo fd, (hd.heap_1 w.params).In s.heap → (hd.heap_1 w.params).lookup 247 = some fo → fo.data = .func fd → BindsTo s fd ⟨[.ref d, .str x t], [(Str.ofString "default", yv)]⟩ [(Str.ofString "self", .ref d), (Str.ofString "name", .str x t), (Str.ofString "default", yv)] := by
  k_extra "mine:fill"
  refine' hb_of ?e ?_
  case e => k_dflt k_is
  intro s fd h0 h2
  cases h2
  exact kp_binds h0 fun _ => rfl
theorem get_one {d : Addr} {x : Str} {t : Tok} : ∀ (s : Shared) fo fd, (hd.heap_1 w.params).In s.heap → (hd.heap_1 w.params).lookup 247 = some fo → fo.data = .func fd → BindsTo s fd ⟨[.ref d, .str x t], []⟩ [(Str.ofString "self", .ref d), (Str.ofString "name", .str x t), (Str.ofString "default", .none)] := by
  k_extra "mine:fill"
  refine' hb_of ?e ?_
  case e => k_dflt k_is
  intro s fd h0 h2
  cases h2
  exact kp_binds h0 fun _ => rfl
end
end LGetS
section LRestPS
section
open LCg LCt LCp
variable {prog : Program} {w : World} {A : Around} {s : Shared} {h₀ : Heap} {L : Addr} {m : Str → Option Value} {env : Env} {elt : Expr} {x x₂ : Str} {scope : Scope} {cl : List (Str × Addr)} {S : List (Addr × Obj) → Prop} {P : Nat → Value → Prop}
  {Fin : List Value → List (Addr × Obj) → Prop} {news : List (Addr × Obj)} {R : Nat → Value → Value → Prop}
theorem restP_aux (hS : S news)
    (turn : ∀ i v, P i v → ∃ (t : Addr) (ot : Obj) (v₁ v₂ : Value) (nt : Nat), v = .ref t ∧ (t, ot) ∈ news ∧ ot.cls = .type "tuple" ∧ ot.data = .seq #[v₁, v₂] nt ∧
      ∀ I oI C oC D m₂ h tk ys, NsObj oC m₂ → m₂ x = some v₁ → m₂ x₂ = some v₂ → Fr h₀ L h m → News h₀ L h ((I, oI) :: (C, oC) :: (D, lst ys) :: news) → Off3 I C D news → ((@Ne Nat I C) ∧ (@Ne Nat I D) ∧ (@Ne Nat C D)) →
      wpAny (model prog w) A (eval elt (compEnvC scope cl C env)) (fun y s' => R i v y ∧ Same h₀ L m ((I, oI) :: (C, oC) :: (D, lst ys) :: news) { s with heap := h, toks := tk } s') (fun _ _ => False) { s with heap := h, toks := tk }) :
    ∀ k i ys, (∀ rs, Sel P (fun _ _ => true) R k i rs → Fin (ys ++ rs) news) → CompRestP prog w A h₀ L m env elt x x₂ scope cl s S P Fin k i ys news := by
  intro k
  induction k with
  | zero => intro i ys fin; exact CompRestP.zero (by simpa using fin [] .nil)
  | succ k ih =>
    intro i ys fin
    refine CompRestP.succ fun v hv => ?_
    obtain ⟨t, ot, v₁, v₂, nt, e1, e2, e3, e4, tn⟩ := turn i v hv
    refine ⟨t, ot, v₁, v₂, nt, e1, e2, e3, e4, fun I oI C oC D m₂ h tk E' hC hx hx2 F N off ne => ?_⟩
    refine wpAny_mono (tn I oI C oC D m₂ h tk ys hC hx hx2 F N off ne) (fun y s₂ hy => ?_) fun _ _ e => e.elim
    obtain ⟨hR, h₂, tk₂, rfl, F₂, N₂⟩ := hy
    refine ⟨h₂, tk₂, news, rfl, F₂, N₂, off, hS, ih (i + 1) (ys ++ [y]) fun rs hrs => ?_⟩
    rw [List.append_assoc]
    exact fin (y :: rs) (.yes hv rfl hR hrs)
end
end LRestPS
section LKeysS
theorem grow_all {h g h' : Heap} {L : Addr} {m : Str → Option Value} {news ts : List (Addr × Obj)} (eg : g = hideAll h (ts.map (·.1))) (F : Fr g L h' m) (N : News g L h' news) (hn : ∀ p ∈ ts, p ∈ news) (hs : ∀ p ∈ ts, h.get? p.1 = some p.2) : Grow h h' [] :=
  grow_back eg F N fun a ha _ o e => by
    obtain ⟨p, hp, rfl⟩ := List.mem_map.mp ha
    rw [hs p hp] at e
    cases e
    exact hn p hp
theorem off1_all {D : Addr} : ∀ {l : List (Addr × Obj)}, LCg.Off1 D l → ∀ p ∈ l, p.1 ≠ D
  | [], _, p, hp => nomatch hp
  | q :: r, h, p, hp => by
    rcases List.mem_cons.mp hp with rfl | hp
    · exact h.1
    · exact off1_all h.2 p hp
theorem sel_fst {P : Nat → Value → Prop} {ps : List (Str × Str)} {k i : Nat} {ys : List Value} (h : Sel P (fun _ _ => true) (fun i _ y => ∃ p t, ps[i]? = some p ∧ y = .str p.1 t) k i ys) : i + k = ps.length → StrsAre ys ((ps.drop i).map (·.1)) := by
  induction h with
  | nil => intro e; rw [List.drop_eq_nil_of_le (by omega)]; exact .nil
  | @yes k i v y ys _ _ hR _ ih =>
    intro e
    obtain ⟨p, t, hp, rfl⟩ := hR
    obtain ⟨hlt, hg⟩ := List.getElem?_eq_some_iff.mp hp
    rw [List.drop_eq_getElem_cons hlt, hg, List.map_cons]
    exact .cons _ _ (ih (by omega))
  | no _ ht _ _ => cases ht
theorem TupsAre.ents {h : Heap} {vs : List Value} {ps : List (Str × Str)} (H : TupsAre h vs ps) : ∃ es : List (Addr × Obj), (∀ p ∈ es, h.get? p.1 = some p.2) ∧ (∀ p ∈ es, p.2.cls = .type "tuple" ∧ Value.ref p.1 ∈ vs) ∧
    ∀ (i : Nat) (v : Value), vs[i]? = some v → ∃ a x y t1 t2 n, v = .ref a ∧ ps[i]? = some (x, y) ∧ (a, ({ cls := .type "tuple", data := .seq #[.str x t1, .str y t2] n } : Obj)) ∈ es := by
  induction H with
  | nil => exact ⟨[], by simp, by simp, by intro i v e; cases e⟩
  | @cons a x y t1 t2 n vs ps ha _ ih =>
    obtain ⟨es, h1, h2, h3⟩ := ih
    refine ⟨(a, { cls := .type "tuple", data := .seq #[.str x t1, .str y t2] n }) :: es, ?_, ?_, ?_⟩
    · intro p hp
      rcases List.mem_cons.mp hp with rfl | hp
      · exact ha
      · exact h1 p hp
    · intro p hp
      rcases List.mem_cons.mp hp with rfl | hp
      · exact ⟨rfl, List.mem_cons_self ..⟩
      · exact ⟨(h2 p hp).1, List.mem_cons_of_mem _ (h2 p hp).2⟩
    · intro i v e
      cases i with
      | zero => cases e; exact ⟨_, _, _, _, _, _, rfl, rfl, List.mem_cons_self ..⟩
      | succ i =>
        obtain ⟨a', x', y', t1', t2', n', e1, e2, e3⟩ := h3 i v e
        exact ⟨a', x', y', t1', t2', n', e1, e2, List.mem_cons_of_mem _ e3⟩
section
variable {w : World} {mean : ExcName → Option Value} {mg mb : Str → Option Value} {dp un : Nat} {gd : Option (List Code)} {outer : List Env} {H₀ : Heap} {s : Shared} {Q E : Value → Shared → Prop}
set_option maxHeartbeats 400000 in
theorem keys_spec (C : Cx w mean mg mb H₀) (st : H₀.StaysIn s.heap) (hd1 : dp + 40 < recursionLimit) {d dx hl : Addr} {hh : Int} {t0 : Tok} {n : Nat} {refs : List Value} {ps : List (Str × Str)}
    (hi : s.heap.get? d = some (instObj 300 dx)) (hdi : s.heap.get? dx = some (dictOf [⟨hh, .str (Str.ofString "_headers") t0, .ref hl⟩] 1)) (hls : s.heap.get? hl = some (W.listOf refs.toArray n)) (htp : TupsAre s.heap refs ps)
    (hd0 : H₀.get? d = none) (hdx0 : H₀.get? dx = none) (hl0 : H₀.get? hl = none) (hlen : refs.length ≤ 100) (hr0 : ∀ a, Value.ref a ∈ refs → H₀.get? a = none)
    (hret : ∀ h' tk' l vs, Grow s.heap h' [] → s.heap.get? l = none → h'.get? l = some (LCg.lst vs) → StrsAre vs (ps.map (·.1)) → Q (.ref l) { s with heap := h', toks := tk' }) :
    wpAny (model PW w) (around dp un gd outer) (call (.ref 252) [.ref d] []) Q E s := by
  k_with_none
  w_top off
  k_with "mine:fill" => (have _kf : (PySem.Challenge.rw_wk0041_01, _root_.hd.heap_1) = (PySem.Challenge.rw_wk0041_01, _root_.hd.heap_1) := by (k_fill; rfl))
  k_with "mine:room" => (first | assumption | (simp only [around, Around.deeper, Around.mark, Around.in1, recursionLimit] at *; omega))
  k_with "mine:entercases" => (
    (case ho => k_dflt k_is)
    (case hcd => k_dflt k_is)
    (case hroom => k_extra "mine:room")
    (case hbind => first | exact BindsTo.of_eq rfl | exact binds_K (by k_in) rfl (by k_is) rfl rfl rfl | exact kp_binds (Frag.In.keeps X st) fun _ => rfl)
    (case hkind => exact rfl)
    (case hnd => decide +kernel)
    (case ht => (first | exact List.forall_mem_nil _ | (simp only [List.forall_mem_cons]; simp_all)))
    (case h0 => (first | exact List.forall_mem_nil _ | (simp only [List.forall_mem_cons]; simp_all)))
    (case c1 => exact rfl)
    (case c2 => exact rfl)
    (case c3 => exact rfl))
  k_with "mine:cells" => (
    (first | (k_cells Y') | (have hY := cellsNil Y'; subst hY))
    (try simp only [List.cons_append, List.nil_append, List.append_nil] at N')
    (try dsimp only)
    (try k_fold))
  k_with "mine:go" => (
    (fail_if_success (with_reducible show LCt.CompRestT _ _ _ _ _ _ _ _ _ _ _ _ _ _ _ _ _ _ _ _))
    (fail_if_success (with_reducible show LCg.CompRest _ _ _ _ _ _ _ _ _ _ _ _ _ _ _ _ _ _ _))
    (fail_if_success (with_reducible show ForSrc _ _ _ _ _ _ _ _ _ _ _))
    (first | (k_unfold; (try dsimp only)) | (k_end; wrow_close) | walk1 | (dsimp only; walk1) | (leave1; walk_say "STEP leave1"; try dsimp only) | fail "no step"))
  k_with "mine:same" => exact ⟨_, _, rfl, by assumption, by assumption⟩
  k_with "mine:hdp" => ((try dsimp only [around, Around.deeper]); omega)
  k_with "mine:mapsA" => (repeat' (first | exact List.forall_mem_nil _ | refine List.forall_mem_cons.mpr ⟨by with_unfolding_all rfl, ?_⟩))
  k_with "mine:memS" => ((repeat (first | (with_reducible exact List.mem_cons_self) | refine List.mem_cons_of_mem _ ?_)); done)
  k_with "mine:mapsB" => (
    (intro y hy)
    (try dsimp only)
    (repeat refine (if_neg (hy _ (by k_extra "mine:memS"))).trans ?_)
    (refine Eq.symm ?_)
    (repeat refine (if_neg (hy _ (by k_extra "mine:memS"))).trans ?_)
    rfl)
  k_with "SrcLP" => (k_here; k_dflt (refine LCp.SrcLP.ledger (by rfl) (by k_asm) (by k_asm) (by k_mem) (by assumption) ?_; intro _))
  have C0 := C
  obtain ⟨X, T⟩ := C
  have C := C0
  obtain ⟨es, he1, he2, he3⟩ := htp.ents
  have he0 : ∀ p ∈ es, H₀.get? p.1 = none := fun p hp => hr0 _ (he2 p hp).2
  k_extra "mine:fill"
  refine' enterK ((d, instObj 300 dx) :: (dx, dictOf [⟨hh, .str (Str.ofString "_headers") t0, .ref hl⟩] 1) :: (hl, W.listOf refs.toArray n) :: es) X st T.nolimit ?ho ?hcd ?hroom ?hbind ?hkind ?hnd ?ht ?h0 ?_ ?c1 ?c2 ?c3
  case ht =>
    simp only [List.forall_mem_cons]
    exact ⟨hi, hdi, hls, he1⟩
  case h0 =>
    simp only [List.forall_mem_cons]
    exact ⟨hd0, hdx0, hl0, he0⟩
  case ho => k_dflt k_is
  case hcd => k_dflt k_is
  case hroom => k_extra "mine:room"
  case hbind => first | exact BindsTo.of_eq rfl | exact binds_K (by k_in) rfl (by k_is) rfl rfl rfl | exact kp_binds (Frag.In.keeps X st) fun _ => rfl
  case hkind => exact rfl
  case hnd => decide +kernel
  case c1 => exact rfl
  case c2 => exact rfl
  case c3 => exact rfl
  intro g' L' h' tk' cells' eL eg stg X' F' N' Y' l1
  have T' := T.keeps stg
  k_extra "mine:cells"
  try clear Y'
  replace F' : Fr g' L' h' (fun z => if z = Str.ofString "self" then some (.ref d) else none) := by with_unfolding_all exact F'
  have hsz : refs.toArray.size ≤ sizeLine := by rw [List.size_toArray, sizeLine_eq]; omega
  walk1
  walk1
  walk1
  refine restP_aux (R := fun i _ y => ∃ p t, ps[i]? = some p ∧ y = .str p.1 t) (.inr ⟨_, by k_mem, rfl, n, rfl⟩) ?turn refs.toArray.size 0 [] ?fin
  case turn =>
    intro i v hv
    obtain ⟨a, kx, vx, t1, t2, n2, rfl, hp, hm⟩ := he3 i v (by simpa using hv)
    refine ⟨a, _, _, _, n2, rfl, by simp only [List.mem_cons]; exact .inr (.inr (.inr hm)), rfl, rfl, ?_⟩
    intro I' oI' C' oC' D' m' h9 tk9 ys hC' hx' hy' F' N' off' ne'
    repeat' k_extra "mine:go"
    k_extra "mine:same"
  case fin =>
    intro rs hrs D h9 tk9 F9 N9 off9
    repeat' k_extra "mine:go"
    dsimp only
    refine hret _ _ D rs (grow_all eg F9 N9 (ts := (d, instObj 300 dx) :: (dx, dictOf [⟨hh, .str (Str.ofString "_headers") t0, .ref hl⟩] 1) :: (hl, W.listOf refs.toArray n) :: es) (fun p hp => List.mem_cons_of_mem _ hp) ?hts)
      (fresh_back eg N9 (List.Mem.head _) ?ne) (News.get N9 (List.Mem.head _)) ?ls
    case hts =>
      simp only [List.forall_mem_cons]
      exact ⟨hi, hdi, hls, he1⟩
    case ne =>
      intro hm
      obtain ⟨p, hp, e⟩ := List.mem_map.mp hm
      exact off1_all off9 p hp e
    case ls =>
      have q := sel_fst hrs (by rw [List.size_toArray, htp.length]; omega)
      simpa using q
end
end LKeysS
section LItemsS
section
variable {prog : Program} {w : World} {A : Around} {E : Value → Shared → Prop} {s : Shared}
theorem isList_up {h h' : Heap} {a : Addr} {items : Array Value} (x : h.IsList a items) (k : ∀ b o, h.get? b = some o → h'.get? b = some o) : h'.IsList a items := x.at fun o e => k a o e
theorem ints_getD {vs : List Value} {ns : List Int} (h : IntsAre vs ns) {i : Nat} (hi : i < ns.length) : ∃ t, vs[i]? = some (.int (ns.getD i 0) t) := by
  obtain ⟨t, ht⟩ := h.get i (ns.getD i 0) (by simp [hi])
  exact ⟨t, ht⟩
theorem item_at {value slice : PySem.Expr} {l : Addr} {vs : List Value} {ns : List Int} {k : Int} {u : Tok} {Q : Value → Shared → Prop}
    (hl : s.heap.IsList l vs.toArray) (hv : IntsAre vs ns) (h0 : 0 ≤ k) (hhi : k < (ns.length : Int)) (hz : ns.length ≤ 1000) (h : ∀ t, Q (.int (ns.getD k.toNat 0) t) s)
    (hs : subscripted slice false (.ref l) (.int k u) = operate [.ref l, .int k u] (getItem (.ref l) (.int k u)) := by with_unfolding_all rfl) :
    wpAny (model prog w) A (subscriptTail value slice (.ref l) (.int k u)) Q E s := by
  obtain ⟨t, ht⟩ := ints_getD hv (i := k.toNat) (by omega)
  exact tail_any hl.typeIs slot_list_getitem.lookup (wpAny_getItem_list hl h0 (by omega) (by simpa using ht) (h t)) hs
theorem getItem_at {l : Addr} {vs : List Value} {ns : List Int} {k : Int} {u : Tok} {Q : Value → Shared → Prop}
    (hl : s.heap.IsList l vs.toArray) (hv : IntsAre vs ns) (h0 : 0 ≤ k) (hhi : k < (ns.length : Int)) (hz : ns.length ≤ 1000) (h : ∀ t, Q (.int (ns.getD k.toNat 0) t) s) :
    wpAny (model prog w) A (getItem (.ref l) (.int k u)) Q E s := by
  obtain ⟨t, ht⟩ := ints_getD hv (i := k.toNat) (by omega)
  exact wpAny_getItem_list hl h0 (by omega) (by simpa using ht) (h t)
theorem setItem_at {l : Addr} {items : Array Value} {n : Nat} {k : Int} {t : Tok} {v : Value} {Q : Unit → Shared → Prop} (ho : s.heap.get? l = some (W.listOf items n))
    (h0 : 0 ≤ k) (hn : k < items.size) (hz : items.size ≤ 1000)
    (hQ : ∀ h' n', Heap.SameBut l s.heap h' → h'.get? l = some (W.listOf (items.setIfInBounds k.toNat v) n') → Q () { s with heap := h' }) :
    wpAny (model prog w) A (setItem (.ref l) (.int k t) v) Q E s := by
  have hl : s.heap.IsList l items := ⟨_, ho, rfl, n, rfl⟩
  unfold setItem
  try with_reducible refine wpAny_holding ?_
  first | refine wpAny_bind (wpAny_pure ?_) | skip
  refine wpAny_bind (wpAny_sequenceKey hl.typeIs (by decide) ?_)
  refine wpAny_bind (wpAny_callSpecial?_slot (name := Str.ofString "__setitem__") hl.typeIs slot_list_setitem
    (wpAny_call_entry slot_list_setitem hl.typeIs entry_list_setitem ?_ (args_list_setitem _ _ _)))
  show wpAny _ _ (Builtin.List.listSubscript? (.int k t) >>= _) _ _ s
  refine wpAny_bind (wpAny_listSubscript_int (fitsIndex_of h0 (by omega)) ?_)
  obtain ⟨j, rfl⟩ := Int.eq_ofNat_of_zero_le h0
  have hj : j < items.size := by omega
  have hx' : items[j]? = some items[j] := Array.getElem?_eq_getElem hj
  show wpAny _ _ ((seqItemAt l j >>= fun r => pure (r.map (j, ·))) >>= _) _ _ s
  refine wpAny_bind (wpAny_bind (wpAny_seqItemAt ho rfl (wpAny_pure ?_)))
  rw [hx']
  show wpAny _ _ (setSeqItemAt l j v >>= _) _ _ s
  have hfin : (s.heap.update l (Obj.mapSeq (·.setIfInBounds j v))).get? l = some (W.listOf (items.setIfInBounds j v) _) := Heap.get?_update_self _ ho rfl
  refine wpAny_bind (wpAny_setSeqItemAt ho rfl ?_)
  first
    | exact wpAny_bind (wpAny_pure (wpAny_pure ⟨.none, rfl, wpAny_pure (hQ _ _ (Heap.SameBut.update ..) hfin)⟩))
    | exact wpAny_pure ⟨.none, rfl, wpAny_pure (hQ _ _ (Heap.SameBut.update ..) hfin)⟩
end
theorem ints_set : ∀ {vs : List Value} {ns : List Int} (h : IntsAre vs ns) (i : Nat) (x : Int) (t : Tok), IntsAre (vs.set i (.int x t)) (ns.set i x)
  | _, _, .nil, _, _, _ => .nil
  | _, _, .cons n t h, 0, x, u => .cons x u h
  | _, _, .cons n t h, i + 1, x, u => .cons n t (ints_set h i x u)
end LItemsS
section LFiltS
theorem slot_filter_next : Slot "filter" "__next__" "filter.__next__" := .of (owner := "filter") (n := "__next__") (by rw [typeLookup_type, builtinLookup_eq_fast]; kernel_rfl) (by decide +kernel) (by decide +kernel) (by decide +kernel)
  (by first | exact .inl (by decide +kernel) | exact .inr (by decide +kernel)) (by rw [isSubtype_type]; kernel_rfl)
theorem slot_filter_iter : Slot "filter" "__iter__" "filter.__iter__" := .of (owner := "filter") (n := "__iter__") (by rw [typeLookup_type, builtinLookup_eq_fast]; kernel_rfl) (by decide +kernel) (by decide +kernel) (by decide +kernel)
  (by first | exact .inl (by decide +kernel) | exact .inr (by decide +kernel)) (by rw [isSubtype_type]; kernel_rfl)
theorem slot_filter_init : Slot "filter" "__init__" "object.__init__" := .of (owner := "object") (n := "__init__") (by rw [typeLookup_type, builtinLookup_eq_fast]; kernel_rfl) (by decide +kernel) (by decide +kernel) (by decide +kernel)
  (by first | exact .inl (by decide +kernel) | exact .inr (by decide +kernel)) (by rw [isSubtype_type]; kernel_rfl)
theorem entry_filter_next : entryFor table "filter.__next__" = some Builtin.«filter.__next__» := entryFor_of_tree (by kernel_rfl)
theorem entry_filter_new : entryFor table "filter.__new__" = some Builtin.«filter.__new__» := entryFor_of_tree (by kernel_rfl)
theorem entry_filter_iter : entryFor table "filter.__iter__" = some Builtin.«dict_keyiterator.__iter__» :=
  entryFor_alias (id' := "dict_keyiterator.__iter__") (by rw [fastTable_eq_tree]; kernel_rfl) (by rw [PySem.W.Fast.te8572300776623958308]; kernel_rfl) (by rw [PySem.W.Fast.canonicalY_eq, PySem.W.Fast.te9309626314029892736]; kernel_rfl) (by rw [fastTable_eq_tree]; kernel_rfl)
theorem args_filter_next (a : Value) : argsOk "filter.__next__" ⟨[a], []⟩ := by unfold argsOk; rw [PySem.W.Fast.signatureY_eq]; kernel_rfl
theorem args_filter_iter (a : Value) : argsOk "filter.__iter__" ⟨[a], []⟩ := by unfold argsOk; rw [PySem.W.Fast.signatureY_eq]; kernel_rfl
theorem mro_filter : mroOf (.type "filter") = pure [.type "filter", .type "object"] := by rw [mroOf_type]; kernel_rfl
theorem lookup_filter_new : typeLookup (.type "filter") "__new__" = pure (some (.builtin "filter.__new__")) := by rw [typeLookup_type, builtinLookup_eq_fast]; kernel_rfl
theorem called_filter : TypeCalled "filter" "filter.__new__" "object.__init__" :=
  ⟨by decide +kernel, by decide +kernel, ⟨_, _, mro_filter⟩, madeBy_type mro_filter lookup_filter_new (by decide +kernel), by decide +kernel, by rw [isSubtype_type]; kernel_rfl, slot_filter_init⟩
theorem typeCall_filter (a b : Value) : checkTypeCall "filter" ⟨[a, b], []⟩ = pure () := by rw [PySem.W.Fast.te11612656972197000677]; kernel_rfl
theorem newCall_filter (a b : Value) : checkBuiltinCall "filter.__new__" ⟨[.type "filter", a, b], []⟩ = pure () := by rw [PySem.W.Fast.te10254737850608025244]; kernel_rfl
noncomputable abbrev filtObj (J : Addr) : Obj := { cls := .type "filter", data := .fields #[.none, .ref J] }
end LFiltS
section LFilt2S
section
variable {prog : Program} {w : World} {K : Type} [DecidableEq K] {knd : KeyKind prog w K} {A : Around} {E : Value → Shared → Prop} {s : Shared}
theorem vnext_item {it d : Addr} {i ep : Nat} {kvs : List (K × Value)} {k : K} {v : Value} {Q : Option Value → Shared → Prop} (hit : s.heap.IsValIter it d i kvs.length ep)
    (hm : s.heap.DictAt knd d kvs ep) (hx : kvs[i]? = some (k, v))
    (hQ : ∀ h', h'.IsValIter it d (i + 1) kvs.length ep → Heap.SameBut it s.heap h' → Q (some v) { s with heap := h' }) :
    wpAny (model prog w) A (callSpecial? (.ref it) "__next__") Q E s := by
  obtain ⟨o, ho, hc, hd⟩ := id hit
  obtain ⟨od, es, hod, hcd, hdd, hk, hp, hn⟩ := id hm
  refine wpAny_callSpecial?_slot (name := Str.ofString "__next__") hit.typeIs PySem.F.slot_dict_valueiterator_next
    (wpAny_call_entry PySem.F.slot_dict_valueiterator_next hit.typeIs PySem.F.entry_dict_valueiterator_next ?_ (PySem.F.args_dict_valueiterator_next_1 _))
  refine wpAny_bind (wpAny_pure ?_)
  refine wpAny_bind ?_
  refine wpAny_bind ?_
  first | refine wpAny_bind (wpAny_typeNameOfWhole_valiter hit.typeIs (wpAny_pure ?_)) | refine wpAny_bind (wpAny_typeNameOf_valiter hit.typeIs (wpAny_pure ?_))
  refine wpAny_bind (wpAny_fieldsOf ho hd ?_)
  have hown : Builtin.Dict_items.ownsTuple "dict_valueiterator" = false := by decide
  simp only [hown, Bool.false_eq_true, if_false]
  show wpAny _ _ (if (Value.ref d == Value.none) = true then _ else _) _ _ s
  rw [if_neg (show ¬ ((Value.ref d == Value.none) = true) from Bool.false_ne_true)]
  refine wpAny_bind (wpAny_pure ?_)
  refine wpAny_bind (wpAny_dictEntries hod hdd ?_)
  have hsz : es.size = kvs.length := by rw [← hp.length]; simp
  rw [if_neg (by rw [hsz]; simp)]
  refine wpAny_bind (wpAny_pure ?_)
  refine wpAny_bind (wpAny_dictEpoch hod hdd ?_)
  rw [if_neg (by simp)]
  refine wpAny_pure ?_
  have hlt : i < kvs.length := by
    rcases Nat.lt_or_ge i kvs.length with h | h
    · exact h
    · simp [List.getElem?_eq_none h] at hx
  have hlt' : i < es.size := by rw [hsz]; exact hlt
  have hval : es[i].val = v := (hp.get? (e := es[i]) (by simp [hlt']) hx).2
  simp only [show ¬ ((i : Int) < 0) from by omega, if_false, Int.toNat_natCast, Array.getElem?_eq_getElem hlt']
  refine wpAny_bind ?_
  first | refine wpAny_bind (wpAny_typeNameOfWhole_valiter hit.typeIs (wpAny_pure ?_)) | refine wpAny_bind (wpAny_typeNameOf_valiter hit.typeIs (wpAny_pure ?_))
  refine wpAny_bind (wpAny_isOneOf_valiter hit.typeIs ?_)
  show wpAny _ _ (setField (.ref it) 1 (rawInt ((i : Int) + 1)) >>= _) _ _ s
  refine wpAny_bind (wpAny_setField ho hd (by simp) ?_)
  have hit' : (s.heap.update it (Obj.mapFields (·.setIfInBounds 1 (rawInt ((i : Int) + 1))))).IsValIter it d (i + 1) kvs.length ep :=
    ⟨_, Heap.get?_update_self _ ho (Obj.isFreed_of_fields (Obj.data_mapFields hd _)), (Obj.cls_mapFields ..).trans hc, by rw [Obj.data_mapFields hd]; simp [rawInt]⟩
  refine wpAny_bind (wpAny_holding ?_)
  refine wpAny_bind (wpAny_isOneOf_valiter (s := { s with heap := s.heap.update it (Obj.mapFields (·.setIfInBounds 1 (rawInt ((i : Int) + 1)))) }) hit'.typeIs ?_)
  refine wpAny_bind (wpAny_isOneOf_valiter (s := { s with heap := s.heap.update it (Obj.mapFields (·.setIfInBounds 1 (rawInt ((i : Int) + 1)))) }) hit'.typeIs ?_)
  show wpAny _ _ (pure es[i].val) _ _ _
  exact wpAny_pure (wpAny_pure ⟨_, rfl, hval ▸ hQ _ hit' (Heap.SameBut.update ..)⟩)
theorem vnext_end {it d : Addr} {i ep : Nat} {kvs : List (K × Value)} {Q : Option Value → Shared → Prop} (hh : A.handled = none) (hit : s.heap.IsValIter it d i kvs.length ep)
    (hm : s.heap.DictAt knd d kvs ep) (hx : kvs[i]? = none)
    (hE : ∀ h' e, Heap.ExtBut it s.heap h' → (∃ o, h'.get? e = some o ∧ o.cls = .type "StopIteration") → E (.ref e) { s with heap := h' }) : wpAny (model prog w) A (callSpecial? (.ref it) "__next__") Q E s := by
  obtain ⟨o, ho, hc, hd⟩ := id hit
  obtain ⟨od, es, hod, hcd, hdd, hk, hp, hn⟩ := id hm
  refine wpAny_callSpecial?_slot (name := Str.ofString "__next__") hit.typeIs PySem.F.slot_dict_valueiterator_next
    (wpAny_call_entry PySem.F.slot_dict_valueiterator_next hit.typeIs PySem.F.entry_dict_valueiterator_next ?_ (PySem.F.args_dict_valueiterator_next_1 _))
  refine wpAny_bind (wpAny_pure ?_)
  refine wpAny_bind ?_
  refine wpAny_bind ?_
  first | refine wpAny_bind (wpAny_typeNameOfWhole_valiter hit.typeIs (wpAny_pure ?_)) | refine wpAny_bind (wpAny_typeNameOf_valiter hit.typeIs (wpAny_pure ?_))
  refine wpAny_bind (wpAny_fieldsOf ho hd ?_)
  have hown : Builtin.Dict_items.ownsTuple "dict_valueiterator" = false := by decide
  simp only [hown, Bool.false_eq_true, if_false]
  show wpAny _ _ (if (Value.ref d == Value.none) = true then _ else _) _ _ s
  rw [if_neg (show ¬ ((Value.ref d == Value.none) = true) from Bool.false_ne_true)]
  refine wpAny_bind (wpAny_pure ?_)
  refine wpAny_bind (wpAny_dictEntries hod hdd ?_)
  have hsz : es.size = kvs.length := by rw [← hp.length]; simp
  rw [if_neg (by rw [hsz]; simp)]
  refine wpAny_bind (wpAny_pure ?_)
  refine wpAny_bind (wpAny_dictEpoch hod hdd ?_)
  rw [if_neg (by simp)]
  refine wpAny_pure ?_
  have hge : es.size ≤ i := by rw [hsz]; simpa using hx
  simp only [show ¬ ((i : Int) < 0) from by omega, if_false, Int.toNat_natCast, Array.getElem?_eq_none hge]
  refine wpAny_bind ?_
  first | refine wpAny_bind (wpAny_typeNameOfWhole_valiter hit.typeIs (wpAny_pure ?_)) | refine wpAny_bind (wpAny_typeNameOf_valiter hit.typeIs (wpAny_pure ?_))
  show wpAny _ _ (setField (.ref it) 0 .none >>= _) _ _ s
  refine wpAny_bind (wpAny_setField ho hd (by simp) ?_)
  show wpAny _ _ (newExc (.type "StopIteration") [] >>= _) _ _ _
  refine wpAny_bind ?_
  simp only [newExc, newTuple]
  refine wpAny_bind (wpAny_newObj_type ?_ (by size_fits))
  refine wpAny_bind (m := firstArgMember _ _) (wpAny_of_eq (a := Value.none) (by first | rfl | (simp only [firstArgMember]; rfl)) ?_)
  refine wpAny_newObj_type ?_ (by size_fits)
  simp only [raiseNew]
  refine wpAny_bind (wpAny_handled ?_)
  rw [show A.in1.handled = none from hh]
  refine wpAny_bind (wpAny_pure (wpAny_throw ?_))
  exact hE _ _ (((Heap.SameBut.update ..).extBut.push _).push _) ⟨_, Heap.get?_push_size _ rfl, rfl⟩
theorem fnext_item {I J d : Addr} {i ep : Nat} {kvs : List (K × Value)} {k : K} {m : Int} {t : Tok} {Q : Option Value → Shared → Prop} (hI : s.heap.get? I = some (filtObj J)) (hit : s.heap.IsValIter J d i kvs.length ep)
    (hm : s.heap.DictAt knd d kvs ep) (hx : kvs[i]? = some (k, .int m t)) (hm0 : m ≠ 0) (hIJ : I ≠ J)
    (hQ : ∀ h', h'.IsValIter J d (i + 1) kvs.length ep → Heap.SameBut J s.heap h' → Q (some (.int m t)) { s with heap := h' }) :
    wpAny (model prog w) A (pyNext (.ref I)) Q E s := by
  have hT : s.TypeIs (.ref I) "filter" := ⟨_, hI, rfl⟩
  unfold pyNext
  refine wpAny_bind (wpAny_attempt (wpAny_callSpecial?_slot (name := Str.ofString "__next__") hT slot_filter_next
    (wpAny_call_entry slot_filter_next hT entry_filter_next ?_ (args_filter_next _))))
  refine wpAny_bind (wpAny_pure ?_)
  refine wpAny_bind (wpAny_field hI rfl (x := .none) rfl ?_)
  refine wpAny_bind (wpAny_field hI rfl (x := .ref J) rfl ?_)
  refine wpAny_bind (vnext_item hit hm hx fun h' hit' hs' => ?_)
  refine wpAny_bind (wpAny_holding ?_)
  rw [if_pos (by rfl)]
  refine wpAny_bind (wpAny_rule ?_)
  refine P.truthy_int ?_
  rw [if_pos (by simpa using hm0)]
  exact wpAny_pure ⟨_, rfl, wpAny_pure (hQ h' hit' hs')⟩
theorem fnext_end {I J d : Addr} {i ep : Nat} {kvs : List (K × Value)} {Q : Option Value → Shared → Prop} (hh : A.handled = none) (hI : s.heap.get? I = some (filtObj J)) (hit : s.heap.IsValIter J d i kvs.length ep)
    (hm : s.heap.DictAt knd d kvs ep) (hx : kvs[i]? = none)
    (hQ : ∀ h', Heap.ExtBut J s.heap h' → Q none { s with heap := h' }) :
    wpAny (model prog w) A (pyNext (.ref I)) Q E s := by
  have hT : s.TypeIs (.ref I) "filter" := ⟨_, hI, rfl⟩
  unfold pyNext
  refine wpAny_bind (wpAny_attempt (wpAny_callSpecial?_slot (name := Str.ofString "__next__") hT slot_filter_next
    (wpAny_call_entry slot_filter_next hT entry_filter_next ?_ (args_filter_next _))))
  refine wpAny_bind (wpAny_pure ?_)
  refine wpAny_bind (wpAny_field hI rfl (x := .none) rfl ?_)
  refine wpAny_bind (wpAny_field hI rfl (x := .ref J) rfl ?_)
  refine wpAny_bind (vnext_end hh hit hm hx fun h' e hs' he => ?_)
  refine wpAny_bind (wpAny_isInstance (T := "StopIteration") (b := true) he isSubtype_stop ?_)
  exact wpAny_pure (hQ h' hs')
theorem fiter_self {I J : Addr} {Q : Value → Shared → Prop} (hI : s.heap.get? I = some (filtObj J)) (h : Q (.ref I) s) : wpAny (model prog w) A (pyIter (.ref I)) Q E s := by
  have hT : s.TypeIs (.ref I) "filter" := ⟨_, hI, rfl⟩
  refine wpAny_pyIter_slot hT slot_filter_iter (wpAny_call_entry slot_filter_iter hT entry_filter_iter ?_ (args_filter_iter _))
  show wpAny _ _ (ret (.ref I)) _ _ s
  exact wpAny_pure ⟨_, rfl, "filter", _, hT, slot_filter_next.lookup, h⟩
theorem filt_walks (hh : A.handled = none) (I J d : Addr) (hIJ : I ≠ J) (hdJ : d ≠ J) (kvs : List (K × Value)) (ep : Nat) (hv : ∀ (i : Nat) k v, kvs[i]? = some (k, v) → ∃ m t, v = .int m t ∧ m ≠ 0) :
    Walks prog w A I [I, J, d] [J] kvs.length (fun i v => ∃ k, kvs[i]? = some (k, v)) (fun i h => h.get? I = some (filtObj J) ∧ h.IsValIter J d i kvs.length ep ∧ h.DictAt knd d kvs ep) where
  sub := fun b hb => by simp at hb; simp [hb]
  frame := fun _ _ _ st hk => ⟨hk I (by simp) _ st.1, st.2.1.at fun o e => hk J (by simp) o e, st.2.2.at' fun o e => hk d (by simp) o e⟩
  item := fun i s Q E hi st hQ => by
    obtain ⟨⟨k, x⟩, hx⟩ : ∃ p, kvs[i]? = some p := ⟨kvs[i], by simp [hi]⟩
    obtain ⟨m, t, rfl, hm0⟩ := hv i k x hx
    refine fnext_item st.1 st.2.1 st.2.2 hx hm0 hIJ fun h' hit' hs' => ?_
    exact hQ _ h' s.toks ⟨k, hx⟩ ⟨(hs'.2 I hIJ).trans st.1, hit', st.2.2.extBut hs'.extBut hdJ⟩ fun b o hb e => hs'.extBut b o (fun h => hb (by simp [h])) e
  done := fun s Q E st hQ => fnext_end hh st.1 st.2.1 st.2.2 (by simp) fun h' he' => hQ h' s.toks fun b o hb e => he' b o (fun h => hb (by simp [h])) e
  self := fun _ _ _ _ st hQ => fiter_self st.1 hQ
end
section
variable {prog : Program} {w : World} {K : Type} [DecidableEq K] {knd : KeyKind prog w K} {A : Around} {E : Value → Shared → Prop} {s : Shared}
theorem filter_new_meets (knd : KeyKind prog w K) (vw d : Addr) (kvs : List (K × Value)) (ep : Nat) : MeetsIn prog w (Builtin.«filter.__new__» ⟨[.type "filter", .none, .ref vw], []⟩) (fun _ R s => s.heap.IsValuesView vw d ∧ s.heap.DictAt knd d kvs ep ∧
      R (.ok (.ret (.ref (s.heap.objs.size + 1)))) { s with heap := (s.heap.push { cls := .type "dict_valueiterator", data := .fields #[.ref d, .int 0 0, .int kvs.length 0, .int ep 0] }).push (filtObj s.heap.objs.size) }) :=
  .of_wp fun A R s ⟨hv, hm, h⟩ => by
    unfold Builtin.«filter.__new__»
    refine wpAny_bind (wpAny_of_eq (a := (Value.type "filter", [Value.none, Value.ref vw])) (by kernel_rfl) ?_)
    refine wpAny_bind (wpAny_of_eq (a := ()) (by kernel_rfl) ?_)
    refine wpAny_bind (wpAny_of_eq (a := ()) (by kernel_rfl) ?_)
    dsimp only
    refine wpAny_bind (wpAny_pyIter_values (knd := knd) hv hm ?_)
    refine wpAny_bind ?_
    unfold Builtin.SmallTypes.newRecord
    refine wpAny_newObj_type ?_
    refine wpAny_pure ⟨_, rfl, ?_⟩
    rw [Heap.size_push]
    exact h
theorem call_filter {vw d : Addr} {kvs : List (K × Value)} {ep : Nat} {Q : Value → Shared → Prop} (hv : s.heap.IsValuesView vw d) (hm : s.heap.DictAt knd d kvs ep)
    (h : ∀ I J h', I ≠ J → d ≠ J → s.heap.get? J = none → h'.get? I = some (filtObj J) → h'.IsValIter J d 0 kvs.length ep → h'.DictAt knd d kvs ep → (∀ b o, s.heap.get? b = some o → h'.get? b = some o) → Q (.ref I) { s with heap := h' }) :
    wpAny (model prog w) A (call (.type "filter") [.none, .ref vw]) Q E s := by
  refine callType_newIn called_filter (by decide) (typeCall_filter _ _) (newCall_filter _ _) (fun obj => ?ok) entry_filter_new
    (filter_new_meets knd vw d kvs ep) ⟨hv, hm, ?_⟩
  case ok => unfold argsOk; kernel_rfl
  show _ ∧ _
  have hz : (s.heap.push { cls := .type "dict_valueiterator", data := .fields #[.ref d, .int 0 0, .int kvs.length 0, .int ep 0] }).objs.size = s.heap.objs.size + 1 := Heap.size_push ..
  have he := Heap.get?_push_size (s.heap.push { cls := .type "dict_valueiterator", data := .fields #[.ref d, .int 0 0, .int kvs.length 0, .int ep 0] }) (o := filtObj s.heap.objs.size) rfl
  rw [hz] at he
  refine ⟨⟨_, he, rfl⟩, h _ _ _ (Nat.succ_ne_self _) (Nat.ne_of_lt hm.lt_size) (Heap.get?_none_of_le (Nat.le_refl _)) he ⟨_, Heap.get?_push_of_some _ (Heap.get?_push_size _ rfl), rfl, rfl⟩ ((hm.push _).push _) fun b o x => Heap.get?_push_of_some _ (Heap.get?_push_of_some _ x)⟩
end
end LFilt2S
section LMaxDS
section
variable {prog : Program} {w : World} {A : Around} {R : Result → Shared → Prop} {I : Addr} {fp wr : List Addr} {n : Nat} {P : Nat → Value → Prop} {St : Nat → Heap → Prop} {dflt : Value}
theorem max_loopD (W : Walks prog w A.in1 I fp wr n P St) (bt : Nat → Nat → Bool) (hcmp : CmpOf prog w A.in1 .Gt P bt) (S : Addr) (hSf : S ∉ fp) :
    ∀ (k j : Nat) (s : Shared) (vb : Value) (c : Nat), n - (j + 1) = k → j + 1 ≤ n → St (j + 1) s.heap → P (argBest bt j) vb →
    s.heap.get? S = some { cls := .type "list", dict := none, data := .seq #[vb, vb] c, slots := #[] } →
    (∀ v h' tk, P (argBest bt (n - 1)) v → (∀ b o, b ∉ wr → b ≠ S → s.heap.get? b = some o → h'.get? b = some o) → R (.ok (.ret v)) { s with heap := h', toks := tk }) →
    codeAny (model prog w) A (.builtin "max.loop" ⟨[.ref I, .none, .ref S], [("default", dflt)]⟩) R s := by
  have hSw : S ∉ wr := fun h => hSf (W.sub _ h)
  have hname : (toString "max" ++ toString ".loop" : String) = "max.loop" := by decide
  intro k
  induction k with
  | zero =>
    intro j s vb c hk hj hst hPb hS hR
    have hin : j + 1 = n := by omega
    refine codeAny_builtin PySem.F.entry_max_loop ?_
    rw [Around.under_plainId PySem.F.plain_max_loop _]
    show wpAny _ A.in1 (seqItems? (.ref S) >>= _) _ _ s
    refine wpAny_bind (wpAny_seqItems hS rfl ?_)
    show wpAny _ A.in1 (tryCatch (pyNext (.ref I)) _ >>= _) _ _ s
    refine wpAny_bind (wpAny_tryCatch (W.done s _ _ (hin ▸ hst) fun h' tk hk' => ?_))
    have hS' := hk' S _ hSw hS
    show wpAny _ A.in1 (updateSeq S (fun _ => #[]) >>= _) _ _ _
    refine wpAny_bind ?_
    refine wpAny_updateSeq hS' rfl (wpAny_bind (wpAny_letGo (wpAny_pure ?_)))
    refine hR vb _ tk (by rw [← hin]; exact hPb) fun b o hbw hbS e => (Heap.get?_update_other _ _ (Ne.symm hbS)).trans (hk' b o hbw e)
  | succ k ih =>
    intro j s vb c hk hj hst hPb hS hR
    have hlt : j + 1 < n := by omega
    refine codeAny_builtin PySem.F.entry_max_loop ?_
    rw [Around.under_plainId PySem.F.plain_max_loop _]
    show wpAny _ A.in1 (seqItems? (.ref S) >>= _) _ _ s
    refine wpAny_bind (wpAny_seqItems hS rfl ?_)
    show wpAny _ A.in1 (tryCatch (pyNext (.ref I)) _ >>= _) _ _ s
    refine wpAny_bind (wpAny_tryCatch (W.item (j + 1) s _ _ hlt hst fun v h' tk hP hst' hk' => ?_))
    have hS' := hk' S _ hSw hS
    show wpAny _ A.in1 (tryCatch (holding [v, v] (richCompare .Gt v vb >>= _)) _ >>= _) _ _ _
    refine wpAny_bind (wpAny_tryCatch (wpAny_holding (wpAny_bind (hcmp (j + 1) (argBest bt j) v vb _ _ _ hP hPb ?_))))
    refine wpAny_bind (wpAny_holding (wpAny_truthy_bool ?_))
    refine wpAny_bind (wpAny_letGo (wpAny_pure ?_))
    cases hb : bt (j + 1) (argBest bt j) with
    | true =>
      simp only [if_true]
      refine wpAny_bind ?_
      refine wpAny_updateSeq hS' rfl (wpAny_bind (wpAny_letGo ?_))
      rw [hname]
      refine wpAny_pure ⟨plainId_quiet PySem.F.plain_max_loop _, ih (j + 1) _ v _ (by omega) hlt (W.frame _ _ _ hst' fun b hbf o e => ?_) (by simp only [argBest, hb, if_true]; exact hP) (Heap.get?_update_self _ hS' rfl)
        fun v' h'' tk'' hP' hk'' => ?_⟩
      · exact (Heap.get?_update_other _ _ (fun h : S = b => hSf (by rw [h]; exact hbf))).trans e
      · exact hR v' h'' tk'' hP' fun b o hbw hbS e => hk'' b o hbw hbS ((Heap.get?_update_other _ _ (Ne.symm hbS)).trans (hk' b o hbw e))
    | false =>
      simp only [Bool.false_eq_true, if_false]
      refine wpAny_bind (wpAny_letGo ?_)
      rw [hname]
      refine wpAny_pure ⟨plainId_quiet PySem.F.plain_max_loop _, ih (j + 1) _ vb c (by omega) hlt hst' (by simp only [argBest, hb, Bool.false_eq_true, if_false]; exact hPb) hS' fun v' h'' tk'' hP' hk'' => ?_⟩
      exact hR v' h'' tk'' hP' fun b o hbw hbS e => hk'' b o hbw hbS (hk' b o hbw e)
theorem max_firstD (W : Walks prog w A.in1 I fp wr n P St) (bt : Nat → Nat → Bool) (hcmp : CmpOf prog w A.in1 .Gt P bt) (S : Addr) (hSf : S ∉ fp) {s : Shared} {c : Nat} (hst : St 0 s.heap)
    (hS : s.heap.get? S = some { cls := .type "list", dict := none, data := .seq #[] c, slots := #[] })
    (hR0 : n = 0 → ∀ h' tk, (∀ b o, b ∉ wr → b ≠ S → s.heap.get? b = some o → h'.get? b = some o) → R (.ok (.ret dflt)) { s with heap := h', toks := tk })
    (hR : 0 < n → ∀ v h' tk, P (argBest bt (n - 1)) v → (∀ b o, b ∉ wr → b ≠ S → s.heap.get? b = some o → h'.get? b = some o) → R (.ok (.ret v)) { s with heap := h', toks := tk }) :
    codeAny (model prog w) A (.builtin "max.loop" ⟨[.ref I, .none, .ref S], [("default", dflt)]⟩) R s := by
  have hSw : S ∉ wr := fun h => hSf (W.sub _ h)
  have hname : (toString "max" ++ toString ".loop" : String) = "max.loop" := by decide
  refine codeAny_builtin PySem.F.entry_max_loop ?_
  rw [Around.under_plainId PySem.F.plain_max_loop _]
  show wpAny _ A.in1 (seqItems? (.ref S) >>= _) _ _ s
  refine wpAny_bind (wpAny_seqItems hS rfl ?_)
  show wpAny _ A.in1 (tryCatch (pyNext (.ref I)) _ >>= _) _ _ s
  by_cases hn : 0 < n
  · refine wpAny_bind (wpAny_tryCatch (W.item 0 s _ _ hn hst fun v h' tk hP hst' hk' => ?_))
    have hS' := hk' S _ hSw hS
    show wpAny _ A.in1 (updateSeq S (fun _ => #[v, v]) >>= _) _ _ _
    refine wpAny_bind ?_
    refine wpAny_updateSeq hS' rfl ?_
    rw [hname]
    refine wpAny_pure ⟨plainId_quiet PySem.F.plain_max_loop _, max_loopD W bt hcmp S hSf _ 0 _ v _ rfl hn (W.frame _ _ _ hst' fun b hbf o e => ?_) hP (Heap.get?_update_self _ hS' rfl) fun v' h'' tk'' hP' hk'' => ?_⟩
    · exact (Heap.get?_update_other _ _ (fun h : S = b => hSf (by rw [h]; exact hbf))).trans e
    · exact hR hn v' h'' tk'' hP' fun b o hbw hbS e => hk'' b o hbw hbS ((Heap.get?_update_other _ _ (Ne.symm hbS)).trans (hk' b o hbw e))
  · obtain rfl : n = 0 := by omega
    refine wpAny_bind (wpAny_tryCatch (W.done s _ _ hst fun h' tk hk' => ?_))
    refine wpAny_bind (wpAny_rule (wpAny_pure ?_))
    exact hR0 rfl h' tk fun b o hb hS e => hk' b o hb e
theorem args_maxD (a d : Value) : argsOk "max" ⟨[a], [("default", d)]⟩ := by unfold argsOk; kernel_rfl
end
section
variable {prog : Program} {w : World} {A : Around} {E : Value → Shared → Prop} {s : Shared} {knd : KeyKind prog w Int}
theorem call_maxF {I J d : Addr} {kvs : List (Int × Value)} {ep : Nat} {val : Nat → Int} {dflt : Value} {Q : Value → Shared → Prop} (hh : A.handled = none) (hIJ : I ≠ J) (hdJ : d ≠ J)
    (hI : s.heap.get? I = some (filtObj J)) (hit : s.heap.IsValIter J d 0 kvs.length ep) (hm : s.heap.DictAt knd d kvs ep)
    (hv : ∀ (i : Nat) k v, kvs[i]? = some (k, v) → ∃ t, v = .int (val i) t) (hv0 : ∀ i, i < kvs.length → val i ≠ 0)
    (hQ0 : kvs = [] → ∀ h' tk, (∀ b o, b ≠ J → s.heap.get? b = some o → h'.get? b = some o) → Q dflt { s with heap := h', toks := tk })
    (hQ : ∀ i t h' tk, i < kvs.length → (∀ j, j < kvs.length → val j ≤ val i) → (∀ b o, b ≠ J → s.heap.get? b = some o → h'.get? b = some o) → Q (.int (val i) t) { s with heap := h', toks := tk }) :
    wpAny (model prog w) A (call (.builtin "max") [.ref I] [(Str.ofString "default", dflt)]) Q E s := by
  have hname : (toString "max" ++ toString ".loop" : String) = "max.loop" := by decide
  have W := filt_walks (prog := prog) (w := w) (knd := knd) (A := A.in1) hh I J d hIJ hdJ kvs ep (fun i k v e => by
    obtain ⟨t, rfl⟩ := hv i k v e
    have hi : i < kvs.length := (List.getElem?_eq_some_iff.mp e).1
    exact ⟨_, t, rfl, hv0 i hi⟩)
  refine kmk_tree PySem.F.kind_max PySem.F.plain_max PySem.F.entry_max (args_maxD _ _) ?_
  show wpAny _ A.in1 (Builtin.Builtins.bindParams "max" ["key", "default"] 0 ⟨[], [(Str.ofString "default", dflt)]⟩ >>= _) _ _ s
  refine wpAny_bind (wpAny_of_eq (show Builtin.Builtins.bindParams "max" ["key", "default"] 0 ⟨[], [(Str.ofString "default", dflt)]⟩ = pure [none, some dflt] from rfl) ?_)
  refine wpAny_bind (wpAny_pure ?_)
  refine wpAny_bind (fiter_self hI ?_)
  refine wpAny_bind (wpAny_newList ?_ (Nat.zero_le _))
  rw [hname]
  have hfp : ∀ b ∈ [I, J, d], b < s.heap.objs.size := by
    intro b hb
    obtain ⟨oJ, hJ, _⟩ := hit
    simp only [List.mem_cons, List.not_mem_nil, or_false] at hb
    rcases hb with rfl | rfl | rfl
    · exact Heap.lt_size hI
    · exact Heap.lt_size hJ
    · exact hm.lt_size
  have hSf : s.heap.objs.size ∉ [I, J, d] := fun hb => Nat.lt_irrefl _ (hfp _ hb)
  have hcmp := CmpOf.ints_gt (prog := prog) (w := w) (A := A.in1) (P := fun i v => ∃ k, kvs[i]? = some (k, v)) val (fun i v ⟨k, e⟩ => hv i k v e)
  refine wpAny_pure ⟨plainId_quiet PySem.F.plain_max_loop _, max_firstD W _ hcmp s.heap.objs.size hSf (W.frame _ _ _ ⟨hI, hit, hm⟩ fun b _ o e => Heap.get?_push_of_some _ e) (Heap.get?_push_size _ rfl) (fun hn h' tk hk => ?_) (fun hn v h' tk hP hk => ?_)⟩
  · exact hQ0 (List.length_eq_zero_iff.mp hn) h' tk fun b o hb e => hk b o (by simpa using hb) (Nat.ne_of_lt (Heap.lt_size e)) (Heap.get?_push_of_some _ e)
  · obtain ⟨k, e⟩ := hP
    obtain ⟨hle, hbest⟩ := argBest_gt val (kvs.length - 1)
    obtain ⟨t, rfl⟩ := hv _ k v e
    exact hQ _ t h' tk (by omega) (fun j hj => hbest j (by omega)) fun b o hb e => hk b o (by simpa using hb) (Nat.ne_of_lt (Heap.lt_size e)) (Heap.get?_push_of_some _ e)
end
end LMaxDS
section LInS
theorem view_no_contains : typeLookup (.type "dict_values") "__contains__" = pure none := by rw [typeLookup_type, builtinLookup_eq_fast]; kernel_rfl
theorem plain_ci : plainId "proto.contains_iter" = true := by decide +kernel
theorem entry_ci : entryFor table "proto.contains_iter" = some Builtin.«proto.contains_iter» := entryFor_of_tree (by kernel_rfl)
section
variable {prog : Program} {w : World} {A : Around} {E : Value → Shared → Prop} {s : Shared} {R : Result → Shared → Prop} {I : Addr} {fp wr : List Addr} {n : Nat} {P : Nat → Value → Prop} {St : Nat → Heap → Prop} {x : Value}
theorem ci_loop (W : Walks prog w A.in1 I fp wr n P St) (hne : ∀ i v (s : Shared) (Q : Bool → Shared → Prop) (E : Value → Shared → Prop), P i v → Q false s → wpAny (model prog w) A.in1 (eqBool v x) Q E s) :
    ∀ (k i : Nat) (s : Shared), i + k = n → St i s.heap → (∀ h' tk, (∀ b o, b ∉ wr → s.heap.get? b = some o → h'.get? b = some o) → R (.ok (.ret (.bool false))) { s with heap := h', toks := tk }) →
    codeAny (model prog w) A (.builtin "proto.contains_iter" ⟨[.ref I, x], []⟩) R s := by
  intro k
  induction k with
  | zero =>
    intro i s hi hst hR
    refine codeAny_builtin entry_ci ?_
    rw [Around.under_plainId plain_ci _]
    refine wpAny_bind (W.done s _ _ (by rw [← hi]; exact hst) fun h' tk hk => ?_)
    exact wpAny_bind (wpAny_rule (wpAny_pure (hR h' tk hk)))
  | succ k ih =>
    intro i s hi hst hR
    refine codeAny_builtin entry_ci ?_
    rw [Around.under_plainId plain_ci _]
    refine wpAny_bind (W.item i s _ _ (by omega) hst fun v h' tk hP hst' hk => ?_)
    refine wpAny_bind (hne i v _ _ _ hP ?_)
    rw [if_neg Bool.false_ne_true]
    exact wpAny_pure ⟨plainId_quiet plain_ci _, ih (i + 1) _ (by omega) hst' fun h'' tk'' hk'' => hR h'' tk'' fun b o hb e => hk'' b o hb (hk b o hb e)⟩
end
section
variable {prog : Program} {w : World} {K : Type} [DecidableEq K] {knd : KeyKind prog w K} {A : Around} {E : Value → Shared → Prop} {s : Shared}
theorem none_in_view {vw d : Addr} {kvs : List (K × Value)} {ep : Nat} {Q : Value → Shared → Prop} (hh : A.handled = none) (hv : s.heap.IsValuesView vw d) (hm : s.heap.DictAt knd d kvs ep) (hi : ∀ (i : Nat) k v, kvs[i]? = some (k, v) → ∃ m t, v = .int m t)
    (h : ∀ h' tk, (∀ b o, s.heap.get? b = some o → h'.get? b = some o) → Q (.bool false) { s with heap := h', toks := tk }) : wpAny (model prog w) A (compareOp .In .none (.ref vw)) Q E s := by
  show wpAny _ _ (contains (.ref vw) .none >>= _) _ _ _
  refine wpAny_bind ?_
  unfold contains
  refine wpAny_holding ?_
  show wpAny _ _ (specialOf (.ref vw) "__contains__" >>= _) _ _ _
  refine wpAny_bind (wpAny_specialOf hv.typeIs view_no_contains ?_)
  rw [if_neg (by decide)]
  refine wpAny_bind ?_
  unfold callSpecialUnlessNone?
  refine wpAny_bind (wpAny_specialOf hv.typeIs view_no_contains ?_)
  refine wpAny_pure ?_
  dsimp only
  refine wpAny_bind (wpAny_rule ?_)
  refine wpAny_bind (wpAny_tryCatch (wpAny_pyIter_values (knd := knd) hv hm ?_))
  have hdI : d ≠ s.heap.objs.size := Nat.ne_of_lt hm.lt_size
  have W := Walks.dictValues (prog := prog) (w := w) (knd := knd) (A := A.in1) hh s.heap.objs.size d hdI kvs ep
  refine wpAny_bind (wpAny_runValue ?_)
  refine ci_loop W ?_ kvs.length 0 _ (by omega) ⟨⟨_, Heap.get?_push_size _ rfl, rfl, rfl⟩, hm.push _⟩ fun h' tk hk => ?_
  · rintro i v s' Q' E' ⟨k, e⟩ hq
    obtain ⟨m, t, rfl⟩ := hi i k v e
    exact SeqAt.EqAt.int_none m t prog w E' Q' hq
  · dsimp only
    refine wpAny_pure (wpAny_pure (h h' tk fun b o e => hk b o ?_ (Heap.get?_push_of_some _ e)))
    simpa using Nat.ne_of_lt (Heap.lt_size e)
end
end LInS
section LWidthS
theorem nold {h h' : Heap} {a : Addr} (st : h.StaysIn h') (e : h'.get? a = none) : h.get? a = none := by
  cases q : h.get? a with
  | none => rfl
  | some o => rw [st a o q] at e; cases e
theorem news_ne {h₀ h : Heap} {L J : Addr} {news : List (Addr × Obj)} (N : News h₀ L h news) (e : h.get? J = none) : ∀ p ∈ news, p.1 ≠ J := fun p hp q => by
  have := (N p hp).1
  rw [q, e] at this
  cases this
theorem frame_ne {h₀ h : Heap} {L J : Addr} {m : Str → Option Value} (F : Fr h₀ L h m) (e : h.get? J = none) : @Ne Nat L J := fun q => by
  obtain ⟨o, _, _, ho, _⟩ := F.ns
  rw [q, e] at ho
  cases ho
theorem dictOf_up {prog : Program} {K : Type} [DecidableEq K] {knd : KeyKind prog w K} {h h' : Heap} {a : Addr} {kvs : List (K × Value)} (x : h.DictOf knd a kvs) (k : ∀ b o, h.get? b = some o → h'.get? b = some o) : h'.DictOf knd a kvs := by
  obtain ⟨o, es, ep, ho, r⟩ := x
  exact ⟨o, es, ep, k _ _ ho, r⟩
section
variable {prog : Program} {w : World} {K : Type} [DecidableEq K] {knd : KeyKind prog w K} {A : Around} {E : Value → Shared → Prop} {s : Shared}
theorem call_values {d : Addr} {kvs : List (K × Value)} {Q : Value → Shared → Prop} (hdS : (d == sysModules) = false) (hm : s.heap.DictOf knd d kvs)
    (hQ : Q (.ref s.heap.objs.size) { s with heap := s.heap.push { cls := .type "dict_values", data := .fields #[.ref d] } }) : wpAny (model prog w) A (call (.builtin "dict.values") [.ref d]) Q E s :=
  wpAny_call (codeAny_call_builtin PySem.F.slot_dict_values.plain PySem.F.entry_dict_values (PySem.F.slot_dict_values.check _ _ _ _ _ _ _ _ hm.typeIs (PySem.F.args_dict_values_1 _)
    (meets_dict_values knd d hdS A (fun r s' => match r with | .ok (.ret v) => Q v s' | .ok _ => False | .error e => E e s') s ⟨⟨kvs, hm⟩, hQ⟩)))
theorem meth_values {d : Addr} {kvs : List (K × Value)} {pl : Sem Bool} {Q : Value × List Value → Shared → Prop} (hm : s.heap.DictOf knd d kvs) (h : Q (.builtin "dict.values", [.ref d]) s) : wpAny (model prog w) A (getMethod (.ref d) "values" pl) Q E s := by
  refine getMethod_builtin hm.typeIs PySem.F.plainAttrs_dict PySem.F.slot_dict_values PySem.F.type_dict_values (fun a e => ?_) h
  cases e
  obtain ⟨o, es, ep, ho, hc, _⟩ := id hm
  exact ⟨o, ho, hc.2.1⟩
end
section
variable {w : World} {mean : ExcName → Option Value} {mg mb : Str → Option Value} {dp un : Nat} {gd : Option (List Code)} {outer : List Env} {H₀ : Heap} {s : Shared} {Q E : Value → Shared → Prop}
theorem width_spec (C : Cx w mean mg mb H₀) (st : H₀.StaysIn s.heap) (hd1 : dp + 10 < recursionLimit) {d : Addr} {kvs : List (Int × Value)} {ex : Nat → Nat}
    (hd : s.heap.DictOf (intKind PW w) d kvs) (hdS : (d == sysModules) = false) (hv : ∀ (i : Nat) k v, kvs[i]? = some (k, v) → ∃ t, v = .int (10 ^ ex i) t) (hex : ∀ i, i < kvs.length → 2 ≤ ex i ∧ ex i ≤ 12)
    (hret0 : kvs = [] → ∀ h' tk' t', Grow s.heap h' [] → Q (.int 0 t') { s with heap := h', toks := tk' })
    (hret : ∀ i, i < kvs.length → (∀ j, j < kvs.length → ex j ≤ ex i) → ∀ h' tk' t', Grow s.heap h' [] → Q (.int ((ex i : Int) + 1) t') { s with heap := h', toks := tk' }) :
    wpAny (model PW w) (around dp un gd outer) (call (.ref 83) [.ref d] []) Q E s := by
  k_with_none
  w_top off
  k_with "mine:fill" => (have _kf : (PySem.Challenge.rw_wk0041_01, _root_.hd.heap_1) = (PySem.Challenge.rw_wk0041_01, _root_.hd.heap_1) := by (k_fill; rfl))
  k_with "mine:room" => (first | assumption | (simp only [around, Around.deeper, Around.mark, Around.in1, recursionLimit] at *; omega))
  k_with "mine:entercases" => (
    (case ho => k_dflt k_is)
    (case hcd => k_dflt k_is)
    (case hroom => k_extra "mine:room")
    (case hbind => first | exact BindsTo.of_eq rfl | exact binds_K (by k_in) rfl (by k_is) rfl rfl rfl | exact kp_binds (Frag.In.keeps X st) fun _ => rfl)
    (case hkind => exact rfl)
    (case hnd => decide +kernel)
    (case ht => (first | exact List.forall_mem_nil _ | (simp only [List.forall_mem_cons]; simp_all)))
    (case h0 => (first | exact List.forall_mem_nil _ | (simp only [List.forall_mem_cons]; simp_all)))
    (case c1 => exact rfl)
    (case c2 => exact rfl)
    (case c3 => exact rfl))
  k_with "mine:cells" => (
    (first | (k_cells Y') | (have hY := cellsNil Y'; subst hY))
    (try simp only [List.cons_append, List.nil_append, List.append_nil] at N')
    (try dsimp only)
    (try k_fold))
  k_with "mine:go" => (
    (fail_if_success (with_reducible show LCt.CompRestT _ _ _ _ _ _ _ _ _ _ _ _ _ _ _ _ _ _ _ _))
    (fail_if_success (with_reducible show LCg.CompRest _ _ _ _ _ _ _ _ _ _ _ _ _ _ _ _ _ _ _))
    (fail_if_success (with_reducible show ForSrc _ _ _ _ _ _ _ _ _ _ _))
    (first | (k_unfold; (try dsimp only)) | (k_end; wrow_close) | walk1 | (dsimp only; walk1) | (leave1; walk_say "STEP leave1"; try dsimp only) | fail "no step"))
  k_with "mine:same" => exact ⟨_, _, rfl, by assumption, by assumption⟩
  k_with "mine:hdp" => ((try dsimp only [around, Around.deeper]); omega)
  k_with "mine:mapsA" => (repeat' (first | exact List.forall_mem_nil _ | refine List.forall_mem_cons.mpr ⟨by with_unfolding_all rfl, ?_⟩))
  k_with "mine:memS" => ((repeat (first | (with_reducible exact List.mem_cons_self) | refine List.mem_cons_of_mem _ ?_)); done)
  k_with "mine:mapsB" => (
    (intro y hy)
    (try dsimp only)
    (repeat refine (if_neg (hy _ (by k_extra "mine:memS"))).trans ?_)
    (refine Eq.symm ?_)
    (repeat refine (if_neg (hy _ (by k_extra "mine:memS"))).trans ?_)
    rfl)
  k_with "call builtin:dict.values" => (
    (with_reducible rename Fr _ _ _ _ => F9)
    (with_reducible rename News _ _ _ _ => N9)
    (refine call_values (knd := intKind _ _) hdS (dictOf_up hdg F9.keep) ?_)
    (have F9' := F9.push { cls := .type "dict_values", data := .fields #[.ref d] })
    (have N9' := N9.push F9 { cls := .type "dict_values", data := .fields #[.ref d] })
    (clear F9 N9))
  k_with "call type:filter" => (
    (with_reducible rename Fr _ _ _ _ => F9)
    (with_reducible rename News _ _ _ _ => N9)
    (obtain ⟨ep9, hm9⟩ := Heap.DictOf.dictAt (dictOf_up hdg F9.keep))
    (refine call_filter (knd := intKind _ _) ⟨_, News.get N9 (List.Mem.head _), rfl, rfl⟩ hm9 ?_)
    (intro I9 J9 h9 hIJ9 hdJ9 hJ9 hI9 hit9 hma9 up9)
    (have hg9 := nold F9.keep hJ9)
    (have hn9 := news_ne N9 hJ9)
    (have hL9 := frame_ne F9 hJ9)
    (have F9' := F9.keeps up9)
    (have N9' := N9.grown up9))
  k_with "getMethod ref" => (
    (with_reducible rename Fr _ _ _ _ => F9)
    (refine meth_values (knd := intKind _ _) (dictOf_up hdg F9.keep) ?_)
    (try dsimp only))
  have C0 := C
  obtain ⟨X, T⟩ := C
  have C := C0
  k_extra "mine:fill"
  refine' enterK [] X st T.nolimit ?ho ?hcd ?hroom ?hbind ?hkind ?hnd ?ht ?h0 ?_ ?c1 ?c2 ?c3
  k_extra "mine:entercases"
  intro g' L' h' tk' cells' eL eg stg X' F' N' Y' l1
  have T' := T.keeps stg
  have eg' : g' = s.heap := eg
  k_extra "mine:cells"
  clear Y'
  replace F' : Fr g' L' h' (fun y => if y = Str.ofString "linestarts" then some (.ref d) else none) := by with_unfolding_all exact F'
  have hdg : g'.DictOf (intKind PW w) d kvs := eg' ▸ hd
  repeat' k_extra "mine:go"
  rename Fr _ _ _ _ => F9
  rename News _ _ _ _ => N9
  with_unfolding_all refine call_maxF (knd := intKind _ _) (val := fun i => 10 ^ ex i) (dflt := Value.int (-1) _) (by rfl) hIJ9 hdJ9 hI9 hit9 hma9 hv ?hv0 ?q0 ?q
  case hv0 => exact fun i hi => Int.ne_of_gt (Int.pow_pos (by decide))
  case q0 =>
    intro hk0 h8 tk8 up8
    have F8 := LCg.fr_but (I := J9) F9 (fun b o hb e => up8 b o (by simpa using hb) e) hL9 hg9
    have N8 := LCg.news_but (I := J9) N9 (fun b o hb e => up8 b o (by simpa using hb) e) hn9
    clear F9 N9
    repeat' k_extra "mine:go"
    rename Fr _ _ _ _ => F7
    exact hret0 hk0 _ _ _ (fun b o e _ => F7.keep b o (eg' ▸ e))
  case q =>
    intro i t8 h8 tk8 hi hbest up8
    have F8 := LCg.fr_but (I := J9) F9 (fun b o hb e => up8 b o (by simpa using hb) e) hL9 hg9
    have N8 := LCg.news_but (I := J9) N9 (fun b o hb e => up8 b o (by simpa using hb) e) hn9
    clear F9 N9
    have hbest' : ∀ j, j < kvs.length → ex j ≤ ex i := fun j hj => by
      rcases Nat.lt_or_ge (ex i) (ex j) with h | h
      · have := hbest j hj
        have h2 : (10 : Int) ^ ex i < 10 ^ ex j := Int.pow_lt_pow_of_lt (by decide) h
        omega
      · exact h
    have hr := hret i hi hbest'
    obtain ⟨e, he⟩ : ∃ e, e = ex i := ⟨_, rfl⟩
    rw [← he] at hr ⊢
    have hb := hex i hi
    rw [← he] at hb
    have hcases := (show ∀ e : Nat, e < 13 → 2 ≤ e → e = 2 ∨ e = 3 ∨ e = 4 ∨ e = 5 ∨ e = 6 ∨ e = 7 ∨ e = 8 ∨ e = 9 ∨ e = 10 ∨ e = 11 ∨ e = 12 by decide) e (Nat.lt_succ_of_le hb.2) hb.1
    clear hbest hbest' he hret hret0 hb hex
    have hab : ((10 : Int) ^ e).natAbs < 10 ^ 13 := by rcases hcases with rfl | rfl | rfl | rfl | rfl | rfl | rfl | rfl | rfl | rfl | rfl <;> decide
    have hm1 : (10 : Int) ^ e ≠ -1 := by rcases hcases with rfl | rfl | rfl | rfl | rfl | rfl | rfl | rfl | rfl | rfl | rfl <;> decide
    have hval : (if ((Str.ofString (toString ((10 : Int) ^ e))).length : Int) > 3 then ((Str.ofString (toString ((10 : Int) ^ e))).length : Int) else 3) = (e : Int) + 1 := by rcases hcases with rfl | rfl | rfl | rfl | rfl | rfl | rfl | rfl | rfl | rfl | rfl <;> decide +kernel
    rw [← hval] at hr
    clear hval hcases
    repeat' k_extra "mine:go"
    · exact absurd (by assumption) hm1
    · rename Fr _ _ _ _ => F6
      rename News _ _ _ _ => N6
      obtain ⟨ep6, hm6⟩ := Heap.DictOf.dictAt (dictOf_up hdg F6.keep)
      refine none_in_view (knd := intKind _ _) (by rfl) ⟨_, News.get N6 (List.Mem.head _), rfl, rfl⟩ hm6 (fun i k v e => by obtain ⟨t, rfl⟩ := hv i k v e; exact ⟨_, t, rfl⟩) fun h5 tk5 up5 => ?_
      have F5 := F6.keeps up5
      have N5 := N6.grown up5
      clear F6 N6
      repeat' k_extra "mine:go"
      with_unfolding_all exact hr _ _ _ (fun b o e _ => F5.keep b o (eg' ▸ e))
    · rename Fr _ _ _ _ => F7
      with_unfolding_all exact hr _ _ _ (fun b o e _ => F7.keep b o (eg' ▸ e))
end
end LWidthS
section LToldS
noncomputable def crewOf (hs : List Int) : List Int := if hs.length = 1 then hs ++ [4] else hs
noncomputable def TMax (f g cs : List Int) (r : Int) : Prop := (∃ i j, i ∈ cs ∧ j ∈ cs ∧ i ≠ j ∧ r = f.getD i.toNat 0 + g.getD j.toNat 0) ∧ ∀ i j, i ∈ cs → j ∈ cs → i ≠ j → f.getD i.toNat 0 + g.getD j.toNat 0 ≤ r
noncomputable def expo (f g : List Int) (i j : Int) : Nat := (2 + f.getD i.toNat 0 + g.getD j.toNat 0).toNat
noncomputable def TInv (f g cs : List Int) (kvs : List (Int × Value)) : Prop := ∀ p ∈ kvs, ∃ i j t, i ∈ cs ∧ j ∈ cs ∧ i ≠ j ∧ p.1 = 5 * i + j ∧ p.2 = .int (10 ^ expo f g i j) t
theorem stored_mem {kvs : List (Int × Value)} {x : Int} {v : Value} {p : Int × Value} (h : p ∈ stored kvs x v) : p = (x, v) ∨ p ∈ kvs := by
  unfold stored at h
  split at h
  · obtain ⟨q, hq, rfl⟩ := List.mem_map.mp h
    split
    · rename_i e; left; rw [e]
    · exact .inr hq
  · rcases List.mem_append.mp h with h | h
    · exact .inr h
    · exact .inl (List.mem_singleton.mp h)
theorem stored_keys {kvs : List (Int × Value)} {x : Int} {v : Value} {k : Int} : k ∈ (stored kvs x v).map (·.1) ↔ k = x ∨ k ∈ kvs.map (·.1) := by
  unfold stored
  split
  · rename_i h
    obtain ⟨q, hq, e⟩ := List.any_eq_true.mp h
    have e : q.1 = x := by simpa using e
    have hm : (kvs.map fun kv => if kv.1 = x then (kv.1, v) else kv).map (·.1) = kvs.map (·.1) := by
      rw [List.map_map]
      refine List.map_congr_left fun a _ => ?_
      simp only [Function.comp]
      split <;> rfl
    rw [hm]
    constructor
    · exact .inr
    · rintro (rfl | h)
      · exact List.mem_map.mpr ⟨q, hq, e⟩
      · exact h
  · simp [or_comm]
theorem stored_len {kvs : List (Int × Value)} {x : Int} {v : Value} : (stored kvs x v).length ≤ kvs.length + 1 := by
  unfold stored
  split <;> simp
theorem getD_bound {f : List Int} {lo hi : Int} (h : ∀ x ∈ f, lo ≤ x ∧ x ≤ hi) {k : Nat} (hk : k < f.length) : lo ≤ f.getD k 0 ∧ f.getD k 0 ≤ hi := by
  simp only [List.getD, List.getElem?_eq_getElem hk, Option.getD_some]
  exact h _ (List.getElem_mem hk)
theorem lift1 {g : Heap} {a : Addr} {its : Array Value} {ex : List (Addr × Obj)} {p : Addr × Obj} (h : LCg.SrcAt g a its ex) : LCg.SrcAt g a its (p :: ex) := h.imp id fun ⟨o, hm, r⟩ => ⟨o, List.mem_cons_of_mem _ hm, r⟩
theorem lift2 {g : Heap} {a : Addr} {its : Array Value} {ex : List (Addr × Obj)} {p q : Addr × Obj} (h : LCg.SrcAt g a its ex) : LCg.SrcAt g a its (p :: q :: ex) := lift1 (lift1 h)
noncomputable def exOf (f g : List Int) (kvs : List (Int × Value)) (k : Nat) : Nat := expo f g ((kvs.getD k (0, .none)).1 / 5) ((kvs.getD k (0, .none)).1 % 5)
theorem nex_of {cs hs : List Int} {x : Int} (hn : cs.Nodup) (hc : cs = x :: hs) (hl : cs.length ≠ 1) : ∃ i j, i ∈ cs ∧ j ∈ cs ∧ i ≠ j := by
  subst hc
  rcases hs with _ | ⟨y, r⟩
  · exact absurd rfl hl
  · refine ⟨x, y, by simp, by simp, ?_⟩
    have := (List.nodup_cons.mp hn).1
    intro e
    exact this (by simp [e])
theorem one_of {cs hs : List Int} (hl : hs.length = 1) (hb : ∀ x ∈ hs, 0 ≤ x ∧ x ≤ 3) (hc : cs = hs ++ [4]) : ∃ i j, i ∈ cs ∧ j ∈ cs ∧ i ≠ j := by
  subst hc
  rcases hs with _ | ⟨y, r⟩
  · exact absurd hl (by decide)
  · exact ⟨y, 4, by simp, by simp, by have := hb y (by simp); omega⟩
theorem tail_of {g h : Heap} {L : Addr} {p : Addr × Obj} {r : List (Addr × Obj)} (_ : News g L h (p :: r)) : ∃ e, e = r := ⟨r, rfl⟩
theorem TInv.nil {f g cs : List Int} : TInv f g cs [] := fun _ h => nomatch h
theorem TInv.at {f g cs : List Int} {kvs : List (Int × Value)} (h : TInv f g cs kvs) (hcb : ∀ x ∈ cs, 0 ≤ x ∧ x ≤ 4) {n : Nat} {k : Int} {v : Value} (e : kvs[n]? = some (k, v)) :
    ∃ i j t, i ∈ cs ∧ j ∈ cs ∧ i ≠ j ∧ k = 5 * i + j ∧ v = .int (10 ^ exOf f g kvs n) t ∧ exOf f g kvs n = expo f g i j := by
  obtain ⟨i, j, t, hi, hj, hij, h1, h2⟩ := h _ (List.mem_of_getElem? e)
  have bi := hcb i hi
  have bj := hcb j hj
  have e1 : exOf f g kvs n = expo f g i j := by
    unfold exOf
    have : kvs.getD n (0, .none) = (k, v) := by simp [List.getD, e]
    rw [this]
    dsimp only at h1 ⊢
    have q1 : k / 5 = i := by omega
    have q2 : k % 5 = j := by omega
    rw [q1, q2]
  exact ⟨i, j, t, hi, hj, hij, h1, by rw [e1]; exact h2, e1⟩
theorem TInv.vals {f g cs : List Int} {kvs : List (Int × Value)} (h : TInv f g cs kvs) (hcb : ∀ x ∈ cs, 0 ≤ x ∧ x ≤ 4) (n : Nat) (k : Int) (v : Value) (e : kvs[n]? = some (k, v)) : ∃ t, v = .int (10 ^ exOf f g kvs n) t := by
  obtain ⟨i, j, t, _, _, _, _, hv, _⟩ := h.at hcb e
  exact ⟨t, hv⟩
theorem expo_bound {f g : List Int} {i j : Int} (hfb : ∀ x ∈ f, 0 ≤ x ∧ x ≤ 5) (hgb : ∀ x ∈ g, 0 ≤ x ∧ x ≤ 5) (hfl : f.length = 5) (hgl : g.length = 5) (bi : 0 ≤ i ∧ i ≤ 4) (bj : 0 ≤ j ∧ j ≤ 4) :
    (expo f g i j : Int) = 2 + f.getD i.toNat 0 + g.getD j.toNat 0 ∧ 2 ≤ expo f g i j ∧ expo f g i j ≤ 12 := by
  have a := getD_bound hfb (k := i.toNat) (by omega)
  have b := getD_bound hgb (k := j.toNat) (by omega)
  unfold expo
  omega
theorem TInv.exps {f g cs : List Int} {kvs : List (Int × Value)} (h : TInv f g cs kvs) (hcb : ∀ x ∈ cs, 0 ≤ x ∧ x ≤ 4) (hfb : ∀ x ∈ f, 0 ≤ x ∧ x ≤ 5) (hgb : ∀ x ∈ g, 0 ≤ x ∧ x ≤ 5) (hfl : f.length = 5) (hgl : g.length = 5) (n : Nat) (hn : n < kvs.length) : 2 ≤ exOf f g kvs n ∧ exOf f g kvs n ≤ 12 := by
  obtain ⟨i, j, t, hi, hj, _, _, _, he⟩ := h.at hcb (List.getElem?_eq_getElem hn)
  rw [he]
  exact (expo_bound hfb hgb hfl hgl (hcb i hi) (hcb j hj)).2
theorem TInv.put {f g cs : List Int} {kvs : List (Int × Value)} {i j : Int} {t : Tok} (h : TInv f g cs kvs) (hi : i ∈ cs) (hj : j ∈ cs) (hij : i ≠ j) {x : Int} {v : Value} (hx : x = 5 * i + j) (hv : v = .int (10 ^ expo f g i j) t) : TInv f g cs (stored kvs x v) := by
  intro p hp
  rcases stored_mem hp with rfl | hp
  · exact ⟨i, j, t, hi, hj, hij, hx, hv⟩
  · exact h p hp
theorem nex_or {cs hs : List Int} (hcs : cs = hs) (hhn : hs.Nodup) (hl : ¬ hs.length = 1) (hne : hs ≠ []) : ∃ i j, i ∈ cs ∧ j ∈ cs ∧ i ≠ j := by
  rcases hs with _ | ⟨x, hs⟩
  · exact absurd rfl hne
  · exact nex_of (cs := cs) (hs := hs) (x := x) (by rw [hcs]; exact hhn) hcs (by rw [hcs]; exact hl)
section
variable {w : World} {mean : ExcName → Option Value} {mg mb : Str → Option Value} {dp un : Nat} {gd : Option (List Code)} {outer : List Env} {H₀ : Heap} {s : Shared} {Q E : Value → Shared → Prop}
theorem told_spec (C : Cx w mean mg mb H₀) (st : H₀.StaysIn s.heap) (hd1 : dp + 20 < recursionLimit) (hun : un + 200 < cLine) {fa sa ha : Addr} {vf vg vh : List Value} {f g hs : List Int}
    (hf : s.heap.IsList fa vf.toArray) (hfi : IntsAre vf f) (hfl : f.length = 5) (hfb : ∀ x ∈ f, 0 ≤ x ∧ x ≤ 5)
    (hg : s.heap.IsList sa vg.toArray) (hgi : IntsAre vg g) (hgl : g.length = 5) (hgb : ∀ x ∈ g, 0 ≤ x ∧ x ≤ 5)
    (hh : s.heap.IsList ha vh.toArray) (hhi : IntsAre vh hs) (hhl : hs.length ≤ 4) (hhb : ∀ x ∈ hs, 0 ≤ x ∧ x ≤ 3) (hhn : hs.Nodup)
    (hret0 : hs = [] → ∀ h' tk' t', Grow s.heap h' [] → Q (.int 0 t') { s with heap := h', toks := tk' })
    (hret : hs ≠ [] → ∀ r, TMax f g (crewOf hs) r → ∀ h' tk' t', Grow s.heap h' [] → Q (.int r t') { s with heap := h', toks := tk' }) :
    wpAny (model PW w) (around dp un gd outer) (call (.ref 323) [.ref fa, .ref sa, .ref ha] []) Q E s := by
  k_with_none
  w_top off
  k_with "mine:fill" => (have _kf : (PySem.Challenge.rw_wk0041_01, _root_.hd.heap_1) = (PySem.Challenge.rw_wk0041_01, _root_.hd.heap_1) := by (k_fill; rfl))
  k_with "mine:room" => (first | assumption | (simp only [around, Around.deeper, Around.mark, Around.in1, recursionLimit] at *; omega))
  k_with "mine:entercases" => (
    (case ho => k_dflt k_is)
    (case hcd => k_dflt k_is)
    (case hroom => k_extra "mine:room")
    (case hbind => first | exact BindsTo.of_eq rfl | exact binds_K (by k_in) rfl (by k_is) rfl rfl rfl | exact kp_binds (Frag.In.keeps X st) fun _ => rfl)
    (case hkind => exact rfl)
    (case hnd => decide +kernel)
    (case ht => (first | exact List.forall_mem_nil _ | (simp only [List.forall_mem_cons]; simp_all)))
    (case h0 => (first | exact List.forall_mem_nil _ | (simp only [List.forall_mem_cons]; simp_all)))
    (case c1 => exact rfl)
    (case c2 => exact rfl)
    (case c3 => exact rfl))
  k_with "mine:cells" => (
    (first | (k_cells Y') | (have hY := cellsNil Y'; subst hY))
    (try simp only [List.cons_append, List.nil_append, List.append_nil] at N')
    (try dsimp only)
    (try k_fold))
  k_with "mine:go" => (
    (fail_if_success (with_reducible show LCt.CompRestT _ _ _ _ _ _ _ _ _ _ _ _ _ _ _ _ _ _ _ _))
    (fail_if_success (with_reducible show LCg.CompRest _ _ _ _ _ _ _ _ _ _ _ _ _ _ _ _ _ _ _))
    (fail_if_success (with_reducible show ForSrc _ _ _ _ _ _ _ _ _ _ _))
    (first | (k_unfold; (try dsimp only)) | (k_end; wrow_close) | walk1 | (dsimp only; walk1) | (leave1; walk_say "STEP leave1"; try dsimp only) | fail "no step"))
  k_with "mine:same" => exact ⟨_, _, rfl, by assumption, by assumption⟩
  k_with "mine:hdp" => ((try dsimp only [around, Around.deeper]); omega)
  k_with "mine:mapsA" => (repeat' (first | exact List.forall_mem_nil _ | refine List.forall_mem_cons.mpr ⟨by with_unfolding_all rfl, ?_⟩))
  k_with "mine:memS" => ((repeat (first | (with_reducible exact List.mem_cons_self) | refine List.mem_cons_of_mem _ ?_)); done)
  k_with "mine:mapsB" => (
    (intro y hy)
    (try dsimp only)
    (repeat refine (if_neg (hy _ (by k_extra "mine:memS"))).trans ?_)
    (refine Eq.symm ?_)
    (repeat refine (if_neg (hy _ (by k_extra "mine:memS"))).trans ?_)
    rfl)
  k_with "exec For" => (with_unfolding_all refine For_src ?_ (by intro _; rfl))
  k_with "exec For Name Name cons nil" => (with_unfolding_all refine For_src ?_ (by intro _; rfl))
  k_with "setItem ref int" => (
    (refine' kda_set (knd := PySem.intKind _ _) ?F ?N (UpdF.tail hn2 (UpdF.tail hn1 (UpdF.head hdx))) ?d (intKind_is _ _ _ _) ?z ?_)
    (case F => k_asm)
    (case N => k_asm)
    (case d => k_asm)
    (case z => (rw [sizeLine_eq]; omega))
    (intro h' o' F' N' hd')
    (try dsimp only at N'))
  k_with "mine:tmap" => (
    (refine maps_eq [Str.ofString "i", Str.ofString "j"] ?_ ?_)
    · k_extra "mine:mapsA"
    · k_extra "mine:mapsB")
  k_with "mine:units" => ((show un + 64 < cLine); omega)
  have C0 := C
  obtain ⟨X, T⟩ := C
  have C := C0
  k_extra "mine:fill"
  refine' enterK [] X st T.nolimit ?ho ?hcd ?hroom ?hbind ?hkind ?hnd ?ht ?h0 ?_ ?c1 ?c2 ?c3
  k_extra "mine:entercases"
  intro g' L' h' tk' cells' eL eg stg X' F' N' Y' l1
  have T' := T.keeps stg
  have eg' : g' = s.heap := eg
  k_extra "mine:cells"
  clear Y'
  replace F' : Fr g' L' h' (fun y => if y = Str.ofString "here" then some (.ref ha) else if y = Str.ofString "second" then some (.ref sa) else if y = Str.ofString "first" then some (.ref fa) else none) := by with_unfolding_all exact F'
  have hf' : g'.IsList fa vf.toArray := eg' ▸ hf
  have hg' : g'.IsList sa vg.toArray := eg' ▸ hg
  have hh' : g'.IsList ha vh.toArray := eg' ▸ hh
  refine' (fun (loop : HidP _) => ?main) ⟨_⟩
  case main =>
    repeat' k_extra "mine:go"
    · rename_i hlen _ d6 _ o6 lo6 hs6 fs6 hi6 fi6 l6 h6 F6 N6
      obtain ⟨extra, hext⟩ : ∃ e : List (Addr × Obj), e = [] := ⟨_, rfl⟩
      rw [← hext] at N6
      obtain ⟨cs, hcs⟩ : ∃ cs, cs = hs := ⟨_, rfl⟩
      have hsx : LCg.SrcAt g' ha vh.toArray extra := .inl hh'
      have hci : IntsAre vh cs := by rw [hcs]; exact hhi
      have hdx : ∀ p ∈ extra, p.1 ≠ d6 := by rw [hext]; simp
      have hcl : cs.length ≤ 5 := by rw [hcs]; exact Nat.le_succ_of_le hhl
      have hcb : ∀ x ∈ cs, 0 ≤ x ∧ x ≤ 4 := by rw [hcs]; exact fun x hx => ⟨(hhb x hx).1, Int.le_trans (hhb x hx).2 (by decide)⟩
      have hcrew : crewOf hs = cs := by rw [crewOf, if_neg (by omega), ← hcs]
      have hcne : ∀ i ∈ cs, hs ≠ [] := fun i hi e => by rw [hcs, e] at hi; exact nomatch hi
      have hex2 : hs ≠ [] → ∃ i j, i ∈ cs ∧ j ∈ cs ∧ i ≠ j := fun hne => by
        exact nex_or hcs hhn (by omega) hne
      replace F6 : Fr g' L' h6 (fun y => if y = Str.ofString "lines" then some (.ref d6) else if y = Str.ofString "crew" then some (.ref ha) else if y = Str.ofString "here" then some (.ref ha) else if y = Str.ofString "second" then some (.ref sa) else if y = Str.ofString "first" then some (.ref fa) else none) := by with_unfolding_all exact F6
      clear hext hcs hlen hs6 fs6 fi6 l6
      obtain ⟨CR, hCR⟩ : ∃ CR, CR = ha := ⟨_, rfl⟩
      obtain ⟨ws, hws⟩ : ∃ ws, ws = vh := ⟨_, rfl⟩
      rw [← hCR, ← hws] at hsx
      rw [← hws] at hci
      replace F6 : Fr g' L' h6 (fun y => if y = Str.ofString "lines" then some (.ref d6) else if y = Str.ofString "crew" then some (.ref CR) else if y = Str.ofString "here" then some (.ref ha) else if y = Str.ofString "second" then some (.ref sa) else if y = Str.ofString "first" then some (.ref fa) else none) := by rw [hCR]; exact F6
      rw [← hCR]
      clear hCR hws
      revert CR ws cs extra d6 o6 h6 tk
      exact loop.out
    · rename_i hlen l5 _ _ D6 ws6 _ hI6 l2 _ d6 _ o6 lo6 hs6 fs6 hi6 fi6 l6 h6 F6 N6
      obtain ⟨extra, hext⟩ := tail_of N6
      have hsx : LCg.SrcAt g' D6 ws6.toArray extra := by rw [hext]; exact .inr ⟨_, List.Mem.head _, rfl, _, rfl⟩
      have hdx : ∀ p ∈ extra, p.1 ≠ d6 := by rw [hext]; simp only [List.forall_mem_cons]; exact ⟨Nat.ne_of_lt l6.1, Nat.ne_of_lt l6.2, by simp⟩
      rw [← hext] at N6
      clear hext
      obtain ⟨cs, hcs⟩ : ∃ cs, cs = hs ++ [4] := ⟨_, rfl⟩
      have hci : IntsAre ws6 cs := by rw [hcs]; exact hI6
      have hcl : cs.length ≤ 5 := by rw [hcs, List.length_append, List.length_singleton]; exact Nat.succ_le_succ hhl
      have hcb : ∀ x ∈ cs, 0 ≤ x ∧ x ≤ 4 := by
        rw [hcs]
        intro x hx
        rcases List.mem_append.mp hx with hx | hx
        · exact ⟨(hhb x hx).1, Int.le_trans (hhb x hx).2 (by decide)⟩
        · rw [List.mem_singleton.mp hx]; decide
      have hcrew : crewOf hs = cs := by rw [crewOf, if_pos (by omega), ← hcs]
      have hcne : ∀ i ∈ cs, hs ≠ [] := fun i hi e => by rw [e] at hlen; exact absurd hlen (by decide)
      have hex2 : hs ≠ [] → ∃ i j, i ∈ cs ∧ j ∈ cs ∧ i ≠ j := fun hne => by
        exact one_of (by omega) hhb hcs
      exact loop.out _ _ _ lo6 hi6 _ _ N6 _ hdx hcl hcb hcrew hcne hex2 _ _ hci hsx F6
  case _ =>
    intro tk0 d6 o6 lo6 hi6 h6 extra N6 cs hdx hcl hcb hcrew hcne hex2 CR ws hci hsx F6
    have hsrc := lift1 (p := (d6, o6)) hsx
    refine ForSrc.listQ (fun a m₁ news₁ => ∃ o kvs, m₁ = (fun y => if y = Str.ofString "i" then m₁ y else if y = Str.ofString "j" then m₁ y else if y = Str.ofString "lines" then some (.ref d6) else if y = Str.ofString "crew" then some (.ref CR) else if y = Str.ofString "here" then some (.ref ha) else if y = Str.ofString "second" then some (.ref sa) else if y = Str.ofString "first" then some (.ref fa) else none) ∧ news₁ = (d6, o) :: extra ∧ o.IsDictOf (intKind PW w) kvs ∧ TInv f g cs kvs ∧ kvs.length ≤ 5 * a ∧ ∀ i ∈ List.take a cs, ∀ j ∈ cs, i ≠ j → (5 * i + j) ∈ kvs.map (·.1)) (by rfl) F6 N6 hsrc ?J0 ?turn ?done
    case J0 =>
      refine ⟨o6, [], ?_, rfl, hi6, TInv.nil, Nat.zero_le _, by simp⟩
      k_extra "mine:tmap"
    case turn =>
      rintro a v m₁ news₁ I oI h tk TA hTA ha' hv ⟨o, kvs, hm₁, rfl, hdo, hinv, hkl, hcomp⟩ hS F' N' off'
      rw [List.size_toArray, hci.length] at ha'
      obtain ⟨ti, rfl⟩ := hci.int_at a v (by simpa using hv)
      have hiM : cs.getD a 0 ∈ cs := by simp only [List.getD, List.getElem?_eq_getElem ha', Option.getD_some]; exact List.getElem_mem ha'
      have hib := hcb _ hiM
      have hn1 : @Ne Nat I d6 := Ne.symm (off' _ (List.Mem.head _))
      rw [hm₁] at F'
      clear hm₁
      obtain ⟨i, hi⟩ : ∃ i, i = cs.getD a 0 := ⟨_, rfl⟩
      rw [← hi] at hiM hib
      try rw [← hi]
      repeat' k_extra "mine:go"
      rename Fr _ _ _ _ => F5
      rename News _ _ _ _ => N5
      have hS5 : LCg.SrcAt g' CR ws.toArray ((I, oI) :: (d6, o) :: extra) := hS.imp id fun ⟨o, hm, r⟩ => ⟨o, List.mem_cons_of_mem _ hm, r⟩
      refine ForSrc.listQ (fun b m₂ news₂ => ∃ o kvs, m₂ = (fun y => if y = Str.ofString "i" then some (.int i ti) else if y = Str.ofString "j" then m₂ y else if y = Str.ofString "lines" then some (.ref d6) else if y = Str.ofString "crew" then some (.ref CR) else if y = Str.ofString "here" then some (.ref ha) else if y = Str.ofString "second" then some (.ref sa) else if y = Str.ofString "first" then some (.ref fa) else none) ∧ news₂ = (I, oI) :: (d6, o) :: extra ∧ o.IsDictOf (intKind PW w) kvs ∧ TInv f g cs kvs ∧ kvs.length ≤ 5 * a + b ∧ (∀ i ∈ List.take a cs, ∀ j ∈ cs, i ≠ j → (5 * i + j) ∈ kvs.map (·.1)) ∧ ∀ j ∈ List.take b cs, i ≠ j → (5 * i + j) ∈ kvs.map (·.1)) (by rfl) F5 N5 hS5 ?J0' ?turn' ?done'
      case J0' =>
        refine ⟨o, kvs, ?_, rfl, hdo, hinv, hkl, hcomp, by simp⟩
        k_extra "mine:tmap"
      case turn' =>
        clear F5 N5
        rintro b v m₂ news₂ I2 oI2 h5 tk5 TB hTB hb' hv2 ⟨o2, kvs2, hm₂, rfl, hdo2, hinv2, hkl2, hcomp2, hcur2⟩ hS2 F5 N5 off2
        rw [List.size_toArray, hci.length] at hb'
        obtain ⟨tj, rfl⟩ := hci.int_at b v (by simpa using hv2)
        have hjM : cs.getD b 0 ∈ cs := by simp only [List.getD, List.getElem?_eq_getElem hb', Option.getD_some]; exact List.getElem_mem hb'
        have hjb := hcb _ hjM
        have hn2 : @Ne Nat I2 d6 := Ne.symm (off2 _ (List.Mem.tail _ (List.Mem.head _)))
        rw [hm₂] at F5
        clear hm₂
        have htk : List.take (b + 1) cs = List.take b cs ++ [cs.getD b 0] := by rw [List.take_add_one]; simp [List.getD, List.getElem?_eq_getElem hb']
        obtain ⟨j, hj⟩ : ∃ j, j = cs.getD b 0 := ⟨_, rfl⟩
        rw [← hj] at hjM hjb htk
        try rw [← hj]
        have gf : 0 ≤ f.getD i.toNat 0 ∧ f.getD i.toNat 0 ≤ 5 := getD_bound hfb (by omega)
        have gg : 0 ≤ g.getD j.toNat 0 ∧ g.getD j.toNat 0 ≤ 5 := getD_bound hgb (by omega)
        repeat' k_extra "mine:go"
        · rename Fr _ _ _ _ => F4
          rename News _ _ _ _ => N4
          have hij : i ≠ j := by assumption
          refine' kda_set (knd := PySem.intKind _ _) F4 N4 (UpdF.tail hn2 (UpdF.tail hn1 (UpdF.head hdx))) hdo2 (intKind_is _ _ _ _) ?z ?_
          case z => rw [sizeLine_eq]; omega
          intro h3 o3 F3 N3 hd3
          try dsimp only at N3
          clear F4 N4
          repeat' k_extra "mine:go"
          refine hTB _ _ ?_
          dsimp only [Turned]
          refine ⟨_, _, _, _, rfl, F3, N3, ?off, lift2 hsx, o3, _, ?mp, rfl, hd3, hinv2.put hiM hjM hij rfl rfl, ?ln, fun i' hi' j' hj' e => stored_keys.mpr (.inr (hcomp2 i' hi' j' hj' e)), ?cu⟩
          case off =>
            simp only [List.forall_mem_cons]
            exact ⟨off2 (I, oI) (List.Mem.head _), off2 (d6, o2) (List.Mem.tail _ (List.Mem.head _)), fun p hp => off2 p (List.Mem.tail _ (List.Mem.tail _ hp))⟩
          case mp => k_extra "mine:tmap"
          case ln => exact Nat.le_trans stored_len (Nat.succ_le_succ hkl2)
          case cu =>
            intro j' hj' e
            rw [htk] at hj'
            rcases List.mem_append.mp hj' with hj' | hj'
            · exact stored_keys.mpr (.inr (hcur2 j' hj' e))
            · rw [List.mem_singleton.mp hj']; exact stored_keys.mpr (.inl rfl)
        · refine hTB _ _ ?_
          dsimp only [Turned]
          have hij : i = j := by assumption
          refine ⟨_, _, _, _, rfl, by assumption, by assumption, ?off, lift2 hsx, o2, kvs2, ?mp, rfl, hdo2, hinv2, Nat.le_succ_of_le hkl2, hcomp2, ?cu⟩
          case off =>
            simp only [List.forall_mem_cons]
            exact ⟨off2 (I, oI) (List.Mem.head _), off2 (d6, o2) (List.Mem.tail _ (List.Mem.head _)), fun p hp => off2 p (List.Mem.tail _ (List.Mem.tail _ hp))⟩
          case mp => k_extra "mine:tmap"
          case cu =>
            intro j' hj' e
            rw [htk] at hj'
            rcases List.mem_append.mp hj' with hj' | hj'
            · exact hcur2 j' hj' e
            · rw [List.mem_singleton.mp hj'] at e; exact absurd hij e
      case done' =>
        clear F5 N5
        rintro m₂ news₂ h5 tk5 ⟨o2, kvs2, hm₂, rfl, hdo2, hinv2, hkl2, hcomp2, hcur2⟩ hS2 F5 N5
        rw [hm₂] at F5
        clear hm₂
        rw [List.size_toArray, hci.length] at hkl2 hcur2
        rw [List.take_length] at hcur2
        repeat' k_extra "mine:go"
        refine hTA _ _ ?_
        dsimp only [Turned]
        refine ⟨_, _, _, _, rfl, F5, N5, ?off, lift1 hsx, o2, kvs2, ?mp, rfl, hdo2, hinv2, by omega, ?cu⟩
        case off =>
          simp only [List.forall_mem_cons]
          exact ⟨off' (d6, o) (List.Mem.head _), fun p hp => off' p (List.Mem.tail _ hp)⟩
        case mp => k_extra "mine:tmap"
        case cu =>
          intro i' hi' j' hj' e
          rw [List.take_add_one, List.getElem?_eq_getElem ha'] at hi'
          rcases List.mem_append.mp hi' with hi' | hi'
          · exact hcomp2 i' hi' j' hj' e
          · have : i' = i := by rw [hi]; simpa [List.getD, List.getElem?_eq_getElem ha'] using hi'
            subst this
            exact hcur2 j' hj' e
    case done =>
      rintro m₁ news₁ h tk ⟨o, kvs, hm₁, rfl, hdo, hinv, hkl, hcomp⟩ hS F' N'
      rw [hm₁] at F'
      clear hm₁
      rw [List.size_toArray, hci.length] at hkl hcomp
      rw [List.take_length] at hcomp
      repeat' k_extra "mine:go"
      with_unfolding_all refine width_spec (ex := exOf f g kvs) C (fun b o e => F'.keep b o (stg b o e)) ?hdp (Heap.dictOf_iff.mpr ⟨o, (N' _ (List.Mem.head _)).1, hdo⟩) lo6 (hinv.vals hcb) (hinv.exps hcb hfb hgb hfl hgl) ?r0 ?r1
      case hdp => k_extra "mine:hdp"
      case r0 =>
        intro hk h4 tk4 t4 G4
        have F4 := fr_grow F' G4
        have N4 := news_grow N' G4
        have hnil : hs = [] := by
          rcases hs with _ | ⟨x, hs⟩
          · rfl
          · exfalso
            obtain ⟨i, j, hi, hj, hij⟩ := hex2 (List.cons_ne_nil _ _)
            have := hcomp i hi j hj hij
            rw [hk] at this
            exact nomatch this
        have hq0 := hret0 hnil
        clear F' N' G4 hret hret0
        repeat' k_extra "mine:go"
        all_goals first
          | (exfalso; rename decide _ = false => hx; simp [hnil] at hx; done)
          | (rename Fr _ _ _ _ => F3; dsimp only; exact hq0 _ _ _ (fun b o e _ => F3.keep b o (eg' ▸ e)))
      case r1 =>
        intro k hk hbest h4 tk4 t4 G4
        have F4 := fr_grow F' G4
        have N4 := news_grow N' G4
        obtain ⟨i, j, t, hi, hj, hij, _, _, he⟩ := hinv.at hcb (List.getElem?_eq_getElem hk)
        have hne : hs ≠ [] := hcne i hi
        obtain ⟨r, hr⟩ : ∃ r, r = f.getD i.toNat 0 + g.getD j.toNat 0 := ⟨_, rfl⟩
        have heb := expo_bound hfb hgb hfl hgl (hcb i hi) (hcb j hj)
        have hrk : ((exOf f g kvs k : Int) + 1) - 3 = r := by rw [he, heb.1, hr]; omega
        have hmax : TMax f g (crewOf hs) r := by
          rw [hcrew]
          refine ⟨⟨i, j, hi, hj, hij, hr⟩, fun i' j' hi' hj' hij' => ?_⟩
          obtain ⟨p, hp, ep⟩ := List.mem_map.mp (hcomp i' hi' j' hj' hij')
          obtain ⟨n, hn, en⟩ := List.getElem_of_mem hp
          obtain ⟨i2, j2, t2, hi2, hj2, hij2, e2, _, he2⟩ := hinv.at (v := p.2) hcb (n := n) (k := p.1) (by rw [List.getElem?_eq_getElem hn, en])
          have b1 := hcb i' hi'
          have b2 := hcb j' hj'
          have b3 := hcb i2 hi2
          have b4 := hcb j2 hj2
          have q1 : i2 = i' := by omega
          have q2 : j2 = j' := by omega
          subst q1 q2
          have := hbest n hn
          rw [he, he2] at this
          have heb2 := expo_bound hfb hgb hfl hgl b3 b4
          omega
        have hq := hret hne r hmax
        clear F' N' G4 hret hret0
        repeat' k_extra "mine:go"
        all_goals first
          | (exfalso; rename decide _ = true => hx; simp [hne] at hx; done)
          | (rename Fr _ _ _ _ => F3; dsimp only; rw [hrk]; exact hq _ _ _ (fun b o e _ => F3.keep b o (eg' ▸ e)))
end
end LToldS
section LPlainS
noncomputable def atL (f : List Int) (k : Int) : Int := f.getD k.toNat 0
noncomputable def mx2 (f g : List Int) (k : Int) : Int := if g.getD k.toNat 0 > f.getD k.toNat 0 then g.getD k.toNat 0 else f.getD k.toNat 0
theorem other_of {hs : List Int} {A : Int} (hn : hs.Nodup) (hA : A ∈ hs) (hl : 2 ≤ hs.length) : ∃ x ∈ hs, x ≠ A := by
  rcases hs with _ | ⟨x, _ | ⟨y, r⟩⟩
  · exact nomatch hA
  · simp at hl
  · by_cases h : x = A
    · subst h
      refine ⟨y, by simp, fun e => ?_⟩
      exact (List.nodup_cons.mp hn).1 (by rw [e]; simp)
    · exact ⟨x, by simp, h⟩
theorem plain_two {f g hs os : List Int} {A M M2 M3 : Int} (hA : A ∈ hs) (hAM : atL f A = M) (hM2 : ∀ a, a ∈ hs.map (atL f) → a ≤ M) (hos : os = hs.filter (fun k => k != A))
    (h21 : M2 ∈ os.map (atL g)) (h22 : ∀ a, a ∈ os.map (atL g) → a ≤ M2) (h31 : M3 ∈ os.map (atL f)) (h32 : ∀ a, a ∈ os.map (atL f) → a ≤ M3) :
    TMax f g hs (if g.getD A.toNat 0 + M3 > M + M2 then g.getD A.toNat 0 + M3 else M + M2) := by
  have mo : ∀ {x : Int}, x ∈ os → x ∈ hs ∧ x ≠ A := fun {x} hx => by
    rw [hos] at hx
    obtain ⟨a, b⟩ := List.mem_filter.mp hx
    exact ⟨a, by simpa using b⟩
  have om : ∀ {x : Int}, x ∈ hs → x ≠ A → x ∈ os := fun {x} hx hne => by rw [hos]; exact List.mem_filter.mpr ⟨hx, by simpa using hne⟩
  constructor
  · split
    · obtain ⟨j, hj, ej⟩ := List.mem_map.mp h31
      exact ⟨j, A, (mo hj).1, hA, (mo hj).2, by rw [← ej]; unfold atL; omega⟩
    · obtain ⟨j, hj, ej⟩ := List.mem_map.mp h21
      exact ⟨A, j, hA, (mo hj).1, Ne.symm (mo hj).2, by rw [← ej, ← hAM]; rfl⟩
  · intro i j hi hj hij
    have k1 : f.getD i.toNat 0 + g.getD j.toNat 0 ≤ M + M2 ∨ f.getD i.toNat 0 + g.getD j.toNat 0 ≤ g.getD A.toNat 0 + M3 := by
      by_cases e : j = A
      · subst e
        right
        have := h32 _ (List.mem_map_of_mem (om hi hij))
        unfold atL at this
        omega
      · left
        have a := hM2 _ (List.mem_map_of_mem hi)
        have b := h22 _ (List.mem_map_of_mem (om hj e))
        unfold atL at a b
        omega
    split <;> omega
theorem plain_one {f g : List Int} {x M : Int} (hf4 : f.getD 4 0 = 0) (hg4 : g.getD 4 0 = 0) (hfl : f.length = 5) (hgl : g.length = 5) (hfb : ∀ x ∈ f, 0 ≤ x ∧ x ≤ 5) (hgb : ∀ x ∈ g, 0 ≤ x ∧ x ≤ 5) (hx : 0 ≤ x ∧ x ≤ 3)
    (h1 : M ∈ [0] ++ [x].map (mx2 f g)) (h2 : ∀ a, a ∈ [0] ++ [x].map (mx2 f g) → a ≤ M) : TMax f g ([x] ++ [4]) M := by
  have bf := getD_bound hfb (k := x.toNat) (by omega)
  have bg := getD_bound hgb (k := x.toNat) (by omega)
  have m0 := h2 0 (by simp)
  have m1 := h2 (mx2 f g x) (by simp)
  have e4 : ((4 : Int).toNat) = 4 := rfl
  have hM : M = mx2 f g x := by
    simp only [List.map_cons, List.map_nil, List.cons_append, List.nil_append, List.mem_cons, List.not_mem_nil, or_false] at h1
    rcases h1 with h | h
    · unfold mx2 at m1 ⊢
      split at m1 <;> rename_i c <;> simp only [c, if_true, if_false] <;> omega
    · exact h
  have q : M = f.getD x.toNat 0 ∨ M = g.getD x.toNat 0 := by
    rw [hM]; unfold mx2; split
    · exact .inr rfl
    · exact .inl rfl
  have q1 : f.getD x.toNat 0 ≤ M ∧ g.getD x.toNat 0 ≤ M := by
    rw [hM]; unfold mx2; split <;> omega
  constructor
  · rcases q with h | h
    · exact ⟨x, 4, by simp, by simp, by omega, by rw [e4, hg4]; omega⟩
    · exact ⟨4, x, by simp, by simp, by omega, by rw [e4, hf4]; omega⟩
  · intro i j hi hj hij
    simp only [List.cons_append, List.nil_append, List.mem_cons, List.not_mem_nil, or_false] at hi hj
    rcases hi with rfl | rfl <;> rcases hj with rfl | rfl
    · exact absurd rfl hij
    · rw [e4, hg4]; omega
    · rw [e4, hf4]; omega
    · exact absurd rfl hij
theorem sel_map {P : Nat → Value → Prop} {hs : List Int} {φ : Int → Int} {k i : Nat} {rs : List Value} (S : Sel P (fun _ _ => true) (fun i _ y => ∃ t, y = .int (φ (hs.getD i 0)) t) k i rs) : i + k = hs.length → IntsAre rs ((hs.drop i).map φ) := by
  induction S with
  | nil => intro e; rw [List.drop_eq_nil_of_le (by omega)]; exact .nil
  | @yes k i v y ys _ _ hR _ ih =>
    intro e
    obtain ⟨t, rfl⟩ := hR
    have hlt : i < hs.length := by omega
    rw [List.drop_eq_getElem_cons hlt, List.map_cons]
    have : hs.getD i 0 = hs[i] := by simp [List.getD, List.getElem?_eq_getElem hlt]
    rw [this]
    exact .cons _ t (ih (by omega))
  | no _ ht _ _ => cases ht
theorem sel_filt {vs : List Value} {hs : List Int} (H : IntsAre vs hs) {b : Int → Bool} {k i : Nat} {rs : List Value} (S : Sel (fun i v => vs.toArray[i]? = some v) (fun i _ => b (hs.getD i 0)) (fun _ v y => y = v) k i rs) : i + k = hs.length → IntsAre rs ((hs.drop i).filter b) := by
  induction S with
  | nil => intro e; rw [List.drop_eq_nil_of_le (by omega)]; exact .nil
  | @yes k i v y ys hv ht hR _ ih =>
    intro e
    subst hR
    obtain ⟨t, rfl⟩ := H.int_at i _ (by simpa using hv)
    have hlt : i < hs.length := by omega
    have hg : hs.getD i 0 = hs[i] := by simp [List.getD, List.getElem?_eq_getElem hlt]
    rw [List.drop_eq_getElem_cons hlt, List.filter_cons_of_pos (by rw [← hg]; exact ht), hg]
    exact .cons _ t (ih (by omega))
  | @no k i v ys hv ht _ ih =>
    intro e
    have hlt : i < hs.length := by omega
    have hg : hs.getD i 0 = hs[i] := by simp [List.getD, List.getElem?_eq_getElem hlt]
    rw [List.drop_eq_getElem_cons hlt, List.filter_cons_of_neg (by rw [← hg]; simpa using ht)]
    exact ih (by omega)
section
variable {w : World} {mean : ExcName → Option Value} {mg mb : Str → Option Value} {dp un : Nat} {gd : Option (List Code)} {outer : List Env} {H₀ : Heap} {s : Shared} {Q E : Value → Shared → Prop}
theorem plain_spec (C : Cx w mean mg mb H₀) (st : H₀.StaysIn s.heap) (hd1 : dp + 20 < recursionLimit) (hun : un + 200 < cLine) {fa sa ha : Addr} {vf vg vh : List Value} {f g hs : List Int}
    (hf : s.heap.IsList fa vf.toArray) (hfi : IntsAre vf f) (hfl : f.length = 5) (hfb : ∀ x ∈ f, 0 ≤ x ∧ x ≤ 5)
    (hg : s.heap.IsList sa vg.toArray) (hgi : IntsAre vg g) (hgl : g.length = 5) (hgb : ∀ x ∈ g, 0 ≤ x ∧ x ≤ 5) (hf4 : f.getD 4 0 = 0) (hg4 : g.getD 4 0 = 0)
    (hh : s.heap.IsList ha vh.toArray) (hhi : IntsAre vh hs) (hhl : hs.length ≤ 4) (hhb : ∀ x ∈ hs, 0 ≤ x ∧ x ≤ 3) (hhn : hs.Nodup)
    (hret0 : hs = [] → ∀ h' tk' t', Grow s.heap h' [] → Q (.int 0 t') { s with heap := h', toks := tk' })
    (hret : hs ≠ [] → ∀ r, TMax f g (crewOf hs) r → ∀ h' tk' t', Grow s.heap h' [] → Q (.int r t') { s with heap := h', toks := tk' }) :
    wpAny (model PW w) (around dp un gd outer) (call (.ref 328) [.ref fa, .ref sa, .ref ha] []) Q E s := by
  k_with_none
  w_top off
  k_with "mine:fill" => (have _kf : (PySem.Challenge.rw_wk0041_01, _root_.hd.heap_1) = (PySem.Challenge.rw_wk0041_01, _root_.hd.heap_1) := by (k_fill; rfl))
  k_with "mine:room" => (first | assumption | (simp only [around, Around.deeper, Around.mark, Around.in1, recursionLimit] at *; omega))
  k_with "mine:entercases" => (
    (case ho => k_dflt k_is)
    (case hcd => k_dflt k_is)
    (case hroom => k_extra "mine:room")
    (case hbind => first | exact BindsTo.of_eq rfl | exact binds_K (by k_in) rfl (by k_is) rfl rfl rfl | exact kp_binds (Frag.In.keeps X st) fun _ => rfl)
    (case hkind => exact rfl)
    (case hnd => decide +kernel)
    (case ht => (first | exact List.forall_mem_nil _ | (simp only [List.forall_mem_cons]; simp_all)))
    (case h0 => (first | exact List.forall_mem_nil _ | (simp only [List.forall_mem_cons]; simp_all)))
    (case c1 => exact rfl)
    (case c2 => exact rfl)
    (case c3 => exact rfl))
  k_with "mine:cells" => (
    (first | (k_cells Y') | (have hY := cellsNil Y'; subst hY))
    (try simp only [List.cons_append, List.nil_append, List.append_nil] at N')
    (try dsimp only)
    (try k_fold))
  k_with "mine:go" => (
    (fail_if_success (with_reducible show LCt.CompRestT _ _ _ _ _ _ _ _ _ _ _ _ _ _ _ _ _ _ _ _))
    (fail_if_success (with_reducible show LCg.CompRest _ _ _ _ _ _ _ _ _ _ _ _ _ _ _ _ _ _ _))
    (fail_if_success (with_reducible show ForSrc _ _ _ _ _ _ _ _ _ _ _))
    (first | (k_unfold; (try dsimp only)) | (k_end; wrow_close) | walk1 | (dsimp only; walk1) | (leave1; walk_say "STEP leave1"; try dsimp only) | fail "no step"))
  k_with "mine:same" => exact ⟨_, _, rfl, by assumption, by assumption⟩
  k_with "mine:hdp" => ((try dsimp only [around, Around.deeper]); omega)
  k_with "mine:mapsA" => (repeat' (first | exact List.forall_mem_nil _ | refine List.forall_mem_cons.mpr ⟨by with_unfolding_all rfl, ?_⟩))
  k_with "mine:memS" => ((repeat (first | (with_reducible exact List.mem_cons_self) | refine List.mem_cons_of_mem _ ?_)); done)
  k_with "mine:mapsB" => (
    (intro y hy)
    (try dsimp only)
    (repeat refine (if_neg (hy _ (by k_extra "mine:memS"))).trans ?_)
    (refine Eq.symm ?_)
    (repeat refine (if_neg (hy _ (by k_extra "mine:memS"))).trans ?_)
    rfl)
  k_with "CompSrc" => (k_here; k_dflt (first
    | (refine LCg.CompSrc.ledger (by rfl) (by k_asm) (by k_asm) (by k_mem) (by assumption) ?_)
    | (refine LCg.CompSrc.base (by rfl) (by k_asm) (by k_asm) (by assumption) (by assumption) ?_)); intro _)
  k_with "CompSrcT" => (k_here; k_dflt (first
    | (refine LCt.CompSrcT.ledger (by rfl) (by k_asm) (by k_asm) (by k_mem) (by assumption) ?_)
    | (refine LCt.CompSrcT.base (by rfl) (by k_asm) (by k_asm) (by assumption) (by assumption) ?_)); intro _)
  k_with "eval ListComp" => (k_here; k_dflt (refine LCg.ListComp_U (F₀ := by k_asm) (by with_unfolding_all rfl) (by decide) (by rfl) (by decide) (by rfl) ?_); k_dflt lcg_toSrc)
  k_with "eval ListComp" => (k_here; lct_look; k_dflt (refine LCt.ListComp_T (F₀ := by k_asm) (by with_unfolding_all rfl) (by decide) (by rfl) (by decide) (by rfl) ?_); k_dflt lct_toSrc)
  k_with "exec Assign cons ListComp" => (k_here; lct_look; k_dflt (refine LCt.Assign_ListComp_T (F₀ := by k_asm) (by rfl) (by with_unfolding_all rfl) (by with_unfolding_all rfl) (by decide) (by rfl) (by decide) (by rfl) (by rfl) (by rfl) ?_); k_dflt lct_toSrc)
  have C0 := C
  obtain ⟨X, T⟩ := C
  have C := C0
  k_extra "mine:fill"
  refine' enterK [] X st T.nolimit ?ho ?hcd ?hroom ?hbind ?hkind ?hnd ?ht ?h0 ?_ ?c1 ?c2 ?c3
  k_extra "mine:entercases"
  intro g' L' h' tk' cells' eL eg stg X' F' N' Y' l1
  have T' := T.keeps stg
  have eg' : g' = s.heap := eg
  k_extra "mine:cells"
  try clear Y'
  have hf' : g'.IsList fa vf.toArray := eg' ▸ hf
  have hg' : g'.IsList sa vg.toArray := eg' ▸ hg
  have hh' : g'.IsList ha vh.toArray := eg' ▸ hh
  have hsz : vh.toArray.size ≤ sizeLine := by rw [List.size_toArray, sizeLine_eq, hhi.length]; omega
  have hat : ∀ (i : Nat) (v : Value), i < vh.toArray.size → vh.toArray[i]? = some v → ∃ t, v = .int (hs.getD i 0) t ∧ 0 ≤ hs.getD i 0 ∧ hs.getD i 0 ≤ 3 := fun i v hi hv => by
    obtain ⟨t, rfl⟩ := hhi.int_at i v (by simpa using hv)
    exact ⟨t, rfl, getD_bound hhb (by rw [List.size_toArray, hhi.length] at hi; exact hi)⟩
  repeat' k_extra "mine:go"
  · refine restUQ (fun i _ y => ∃ t, y = .int (mx2 f g (hs.getD i 0)) t) (.inl hh') ?turn ?fin
    case turn =>
      intro i v I' oI' C' oC' D' m' h9 tk9 ys TC hTC hi hv hC' hx' F' N' off' ne'
      obtain ⟨t9, rfl, hb⟩ := hat i v hi hv
      obtain ⟨k, hk⟩ : ∃ k, k = hs.getD i 0 := ⟨_, rfl⟩
      rw [← hk] at hb hx'
      repeat' k_extra "mine:go"
      all_goals (refine hTC _ _ ?_ (by first | k_extra "mine:same" | (simp only [List.cons_append, List.nil_append] at *; k_extra "mine:same")); (rw [← hk]; exact ⟨_, rfl⟩))
    case fin =>
      intro rs hrs D h9 tk9 F9 N9 off9
      have hin := sel_map (φ := mx2 f g) (hs := hs) hrs (by rw [List.size_toArray, hhi.length]; omega)
      rw [List.drop_zero] at hin
      repeat' k_extra "mine:go"
      rename Int => M
      rename M ∈ _ => hM1
      rename ∀ a, a ∈ _ → a ≤ M => hM2
      rename Fr _ _ _ _ => F7
      have hlt : ((hs.length : Nat) : Int) < 2 := by assumption
      rcases hs with _ | ⟨x, _ | ⟨y, r⟩⟩
      · have : M = 0 := by simpa using hM1
        subst this
        exact hret0 rfl _ _ _ (fun b o e _ => F7.keep b o (eg' ▸ e))
      · exact hret (by simp) _ (by show TMax f g ([x] ++ [4]) M; exact plain_one hf4 hg4 hfl hgl hfb hgb (hhb x (by simp)) hM1 hM2) _ _ _ (fun b o e _ => F7.keep b o (eg' ▸ e))
      · simp only [List.length_cons] at hlt; omega
  · refine restUQ (fun i _ y => ∃ t, y = .int (atL f (hs.getD i 0)) t) (.inl hh') ?turn ?fin
    case turn =>
      intro i v I' oI' C' oC' D' m' h9 tk9 ys TC hTC hi hv hC' hx' F' N' off' ne'
      obtain ⟨t9, rfl, hb⟩ := hat i v hi hv
      obtain ⟨k, hk⟩ : ∃ k, k = hs.getD i 0 := ⟨_, rfl⟩
      rw [← hk] at hb hx'
      repeat' k_extra "mine:go"
      all_goals (refine hTC _ _ ?_ (by first | k_extra "mine:same" | (simp only [List.cons_append, List.nil_append] at *; k_extra "mine:same")); (rw [← hk]; exact ⟨_, rfl⟩))
    case fin =>
      intro rs hrs D h9 tk9 F9 N9 off9
      have hin := sel_map (φ := atL f) (hs := hs) hrs (by rw [List.size_toArray, hhi.length]; omega)
      rw [List.drop_zero] at hin
      have hpos : 0 < (hs.map (atL f)).length := by rw [List.length_map]; omega
      repeat' k_extra "mine:go"
      rename Int => M
      rename M ∈ _ => hM1
      rename ∀ a, a ∈ _ → a ≤ M => hM2
      refine restTQ (fun i _ => (atL f (hs.getD i 0) == M)) (fun _ v y => y = v) (.inl hh') ?turn ?elt ?fin
      case turn =>
        intro i v I' oI' C' oC' D' m' h9 tk9 ys TC hTC hi hv hC' hx' F' N' off' ne'
        obtain ⟨t9, rfl, hb⟩ := hat i v hi hv
        obtain ⟨k, hk⟩ : ∃ k, k = hs.getD i 0 := ⟨_, rfl⟩
        rw [← hk] at hb hx'
        repeat' k_extra "mine:go"
        all_goals (refine hTC _ _ ?_ (by first | k_extra "mine:same" | (simp only [List.cons_append, List.nil_append] at *; k_extra "mine:same")); (rw [← hk]; try rfl))
      case elt =>
        intro i v I' oI' C' oC' D' m' h9 tk9 ys TC hTC hi hv ht hC' hx' F' N' off' ne'
        repeat' k_extra "mine:go"
        all_goals (refine hTC _ _ ?_ (by first | k_extra "mine:same" | (simp only [List.cons_append, List.nil_append] at *; k_extra "mine:same")); rfl)
      case fin =>
        intro rs hrs D h9 tk9 F9 N9 off9
        have hin2 := sel_filt hhi (b := fun k => atL f k == M) hrs (by rw [List.size_toArray, hhi.length]; omega)
        rw [List.drop_zero] at hin2
        obtain ⟨a0, ha0, e0⟩ := List.mem_map.mp hM1
        have hm0 : a0 ∈ hs.filter (fun k => atL f k == M) := List.mem_filter.mpr ⟨ha0, by simpa using e0⟩
        have hpos2 : 0 < (hs.filter (fun k => atL f k == M)).length := List.length_pos_of_mem hm0
        repeat' k_extra "mine:go"
        generalize hA : (List.filter (fun k => atL f k == M) hs).getD (Int.toNat 0) 0 = A at *
        have hAm : A ∈ hs.filter (fun k => atL f k == M) := by
          rw [← hA]
          simp only [Int.toNat_zero, List.getD, List.getElem?_eq_getElem hpos2, Option.getD_some]
          exact List.getElem_mem hpos2
        have hAh : A ∈ hs := (List.mem_filter.mp hAm).1
        have hAM : atL f A = M := by simpa using (List.mem_filter.mp hAm).2
        have hAb := hhb A hAh
        refine restTQ (fun i _ => (hs.getD i 0 != A)) (fun _ v y => y = v) (.inl hh') ?turn ?elt ?fin
        case turn =>
          intro i v I' oI' C' oC' D' m' h9 tk9 ys TC hTC hi hv hC' hx' F' N' off' ne'
          obtain ⟨t9, rfl, hb⟩ := hat i v hi hv
          obtain ⟨k, hk⟩ : ∃ k, k = hs.getD i 0 := ⟨_, rfl⟩
          rw [← hk] at hb hx'
          repeat' k_extra "mine:go"
          all_goals (refine hTC _ _ ?_ (by first | k_extra "mine:same" | (simp only [List.cons_append, List.nil_append] at *; k_extra "mine:same")); (rw [← hk]; try rfl))
        case elt =>
          intro i v I' oI' C' oC' D' m' h9 tk9 ys TC hTC hi hv ht hC' hx' F' N' off' ne'
          repeat' k_extra "mine:go"
          all_goals (refine hTC _ _ ?_ (by first | k_extra "mine:same" | (simp only [List.cons_append, List.nil_append] at *; k_extra "mine:same")); rfl)
        case fin =>
          intro rs hrs D h9 tk9 F9 N9 off9
          have hin3 := sel_filt hhi (b := fun k => k != A) hrs (by rw [List.size_toArray, hhi.length]; omega)
          rw [List.drop_zero] at hin3
          obtain ⟨os, hos⟩ : ∃ os, os = hs.filter (fun k => k != A) := ⟨_, rfl⟩
          rw [← hos] at hin3
          have hosl : os.length ≤ 4 := by rw [hos]; exact Nat.le_trans (List.length_filter_le _ _) hhl
          have hosb : ∀ x ∈ os, 0 ≤ x ∧ x ≤ 3 := fun x hx => hhb x (by rw [hos] at hx; exact (List.mem_filter.mp hx).1)
          have hat2 : ∀ (i : Nat) (v : Value), i < rs.toArray.size → rs.toArray[i]? = some v → ∃ t, v = .int (os.getD i 0) t ∧ 0 ≤ os.getD i 0 ∧ os.getD i 0 ≤ 3 := fun i v hi hv => by
            obtain ⟨t, rfl⟩ := hin3.int_at i v (by simpa using hv)
            exact ⟨t, rfl, getD_bound hosb (by rw [List.size_toArray, hin3.length] at hi; exact hi)⟩
          have hosp : 0 < os.length := by
            obtain ⟨x, hx, hxA⟩ := other_of hhn hAh (by omega)
            exact List.length_pos_of_mem (a := x) (by rw [hos]; exact List.mem_filter.mpr ⟨hx, by simpa using hxA⟩)
          have hsz2 : rs.toArray.size ≤ sizeLine := by rw [List.size_toArray, sizeLine_eq, hin3.length]; omega
          repeat' k_extra "mine:go"
          refine restUQ (fun i _ y => ∃ t, y = .int (atL g (os.getD i 0)) t) (.inr ⟨_, by k_mem, rfl, _, rfl⟩) ?turn ?fin
          case turn =>
            intro i v I' oI' C' oC' D' m' h9 tk9 ys TC hTC hi hv hC' hx' F' N' off' ne'
            obtain ⟨t9, rfl, hb⟩ := hat2 i v hi hv
            obtain ⟨k, hk⟩ : ∃ k, k = os.getD i 0 := ⟨_, rfl⟩
            rw [← hk] at hb hx'
            repeat' k_extra "mine:go"
            all_goals (refine hTC _ _ ?_ (by first | k_extra "mine:same" | (simp only [List.cons_append, List.nil_append] at *; k_extra "mine:same")); (rw [← hk]; exact ⟨_, rfl⟩))
          case fin =>
            intro rs2 hrs2 D2 h9 tk9 F9 N9 off9
            have hin4 := sel_map (φ := atL g) (hs := os) hrs2 (by rw [List.size_toArray, hin3.length]; omega)
            rw [List.drop_zero] at hin4
            have hpos4 : 0 < (os.map (atL g)).length := by rw [List.length_map]; exact hosp
            repeat' k_extra "mine:go"
            rename Int => M2
            rename M2 ∈ _ => hM21
            rename ∀ a, a ∈ _ → a ≤ M2 => hM22
            refine restUQ (fun i _ y => ∃ t, y = .int (atL f (os.getD i 0)) t) (.inr ⟨_, by k_mem, rfl, _, rfl⟩) ?turn ?fin
            case turn =>
              intro i v I' oI' C' oC' D' m' h9 tk9 ys TC hTC hi hv hC' hx' F' N' off' ne'
              obtain ⟨t9, rfl, hb⟩ := hat2 i v hi hv
              obtain ⟨k, hk⟩ : ∃ k, k = os.getD i 0 := ⟨_, rfl⟩
              rw [← hk] at hb hx'
              repeat' k_extra "mine:go"
              all_goals (refine hTC _ _ ?_ (by first | k_extra "mine:same" | (simp only [List.cons_append, List.nil_append] at *; k_extra "mine:same")); (rw [← hk]; exact ⟨_, rfl⟩))
            case fin =>
              intro rs3 hrs3 D3 h9 tk9 F9 N9 off9
              have hin5 := sel_map (φ := atL f) (hs := os) hrs3 (by rw [List.size_toArray, hin3.length]; omega)
              rw [List.drop_zero] at hin5
              have hpos5 : 0 < (os.map (atL f)).length := by rw [List.length_map]; exact hosp
              repeat' k_extra "mine:go"
              rename Int => M3
              rename M3 ∈ _ => hM31
              rename ∀ a, a ∈ _ → a ≤ M3 => hM32
              rename Fr _ _ _ _ => F7
              rename News _ _ _ _ => N7
              have hT := plain_two (f := f) (g := g) hAh hAM hM2 hos hM21 hM22 hM31 hM32
              exact hret (by rintro rfl; exact nomatch hAh) _ (by rw [crewOf, if_neg (by omega)]; exact hT) _ _ _ (fun b o e _ => F7.keep b o (eg' ▸ e))
end
end LPlainS
section LPrettyS
noncomputable def flagAt (i : Nat) : Int := 1 * 2 ^ (0 + (i : Int)).toNat
noncomputable def nameAt (i : Nat) : Str := if i = 20 then Str.ofString "0x100000" else wordN i
noncomputable def pst (n : Int) : Nat → Int × List Str
  | 0 => (n, [])
  | i + 1 => if Builtin.bitAnd (pst n i).1 (flagAt i) = 0 then pst n i else (Builtin.bitXor (pst n i).1 (flagAt i), (pst n i).2 ++ [nameAt i])
noncomputable def NS : List Int := (List.range 16).map (fun k : Nat => 4296015872 + (k : Int)) ++ (List.range' 1 15).map fun k : Nat => (k : Int)
theorem flagAt_pos (i : Nat) : 0 < flagAt i := by
  unfold flagAt
  rw [Int.one_mul]
  exact Int.pow_pos (by decide)
theorem bitAnd_zero {y : Int} (h : 0 < y) : Builtin.bitAnd 0 y = 0 := by
  unfold Builtin.bitAnd
  rw [decide_eq_true (show (0 : Int) ≤ 0 by omega), decide_eq_true (show 0 ≤ y by omega)]
  simp
theorem pst_zero (n : Int) (j : Nat) (h : (pst n j).1 = 0) : ∀ k, pst n (j + k) = pst n j := by
  intro k
  induction k with
  | zero => rfl
  | succ k ih =>
    show (if Builtin.bitAnd (pst n (j + k)).1 (flagAt (j + k)) = 0 then pst n (j + k) else _) = _
    rw [ih, h, if_pos (bitAnd_zero (flagAt_pos _))]
theorem bitcases : ∀ n ∈ NS, ∀ i ∈ List.range 32, Builtin.bitAnd (pst n i).1 (flagAt i) ≠ 0 → i = 0 ∨ i = 1 ∨ i = 2 ∨ i = 3 ∨ i = 20 := by decide +kernel
theorem pst_yes {n : Int} {i : Nat} (h : ¬ Builtin.bitAnd (pst n i).1 (flagAt i) = 0) : pst n (i + 1) = (Builtin.bitXor (pst n i).1 (flagAt i), (pst n i).2 ++ [nameAt i]) := by
  show (if Builtin.bitAnd (pst n i).1 (flagAt i) = 0 then pst n i else _) = _
  rw [if_neg h]
theorem pst_no {n : Int} {i : Nat} (h : Builtin.bitAnd (pst n i).1 (flagAt i) = 0) : pst n (i + 1) = pst n i := by
  show (if Builtin.bitAnd (pst n i).1 (flagAt i) = 0 then pst n i else _) = _
  rw [if_pos h]
theorem strs_snoc : ∀ {vs : List Value} {xs : List Str} (x : Str) (t : Tok), StrsAre vs xs → StrsAre (vs ++ [.str x t]) (xs ++ [x])
  | _, _, x, t, .nil => .cons x t .nil
  | _, _, x, t, .cons y u h => .cons y u (strs_snoc x t h)
theorem strs_length : ∀ {vs : List Value} {xs : List Str}, StrsAre vs xs → vs.length = xs.length
  | _, _, .nil => rfl
  | _, _, .cons _ _ h => congrArg (· + 1) (strs_length h)
theorem lst_push (l : Addr) (xs : List Value) (v : Value) : ([(l, W.listOf (xs.toArray.push v) (xs.length + 1))] : List (Addr × Obj)) = [(l, LCg.lst (xs ++ [v]))] := by
  rw [← LCg.lst_snoc]
theorem pst_end : ∀ n ∈ NS, (pst n 32).1 ≠ 0 → (pst n 32).1 = 4294967296 := by decide +kernel
theorem pst_len : ∀ n ∈ NS, ∀ i ∈ List.range 33, ((pst n i).2.map (·.length)).sum + (pst n i).2.length * 2 ≤ 1000 := by decide +kernel
theorem NS_ne : ∀ n ∈ NS, n ≠ 0 := by decide +kernel
noncomputable def prettyWords (n : Int) : List Str := if (pst n 32).1 = 0 then (pst n 32).2 else (pst n 32).2 ++ [Str.ofString "0x100000000"]
theorem pretty_len : ∀ n ∈ NS, ((prettyWords n).map (·.length)).sum + (prettyWords n).length * 2 ≤ 1000 := by decide +kernel
theorem pretty_brk {n : Int} {i : Nat} (hi : i + 1 ≤ 32) (h : (pst n (i + 1)).1 = 0) : (pst n (i + 1)).2 = prettyWords n := by
  have := pst_zero n (i + 1) h (32 - (i + 1))
  rw [show i + 1 + (32 - (i + 1)) = 32 by omega] at this
  unfold prettyWords
  rw [this, if_pos h]
section
variable {w : World} {mean : ExcName → Option Value} {mg mb : Str → Option Value} {dp un : Nat} {gd : Option (List Code)} {outer : List Env} {H₀ : Heap} {s : Shared} {Q E : Value → Shared → Prop}
theorem get_flag {A : Around} {g : Heap} {L' : Addr} {m : Str → Option Value} (X' : (hd.heap_1 w.params).In g) (F' : Fr g L' s.heap m) {i : Nat} (hi : i = 0 ∨ i = 1 ∨ i = 2 ∨ i = 3 ∨ i = 20) {t t' : Tok}
    (hQ : ∀ h' tk' t', Grow s.heap h' [] → Q (.str (nameAt i) t') { s with heap := h', toks := tk' }) :
    wpAny (model PW w) A (call (.builtin "dict.get") [.ref 39, .int (1 * 2 ^ (0 + (i : Int)).toNat) t, .str (baseText "0x" 16 (1 * 2 ^ (0 + (i : Int)).toNat)) t']) Q E s := by
  k_with_none
  w_top off
  k_with "mine:fill" => (have _kf : (PySem.Challenge.rw_wk0041_01, _root_.hd.heap_1) = (PySem.Challenge.rw_wk0041_01, _root_.hd.heap_1) := by (k_fill; rfl))
  k_with "mine:room" => (first | assumption | (simp only [around, Around.deeper, Around.mark, Around.in1, recursionLimit] at *; omega))
  k_with "mine:entercases" => (
    (case ho => k_dflt k_is)
    (case hcd => k_dflt k_is)
    (case hroom => k_extra "mine:room")
    (case hbind => first | exact BindsTo.of_eq rfl | exact binds_K (by k_in) rfl (by k_is) rfl rfl rfl | exact kp_binds (Frag.In.keeps X st) fun _ => rfl)
    (case hkind => exact rfl)
    (case hnd => decide +kernel)
    (case ht => (first | exact List.forall_mem_nil _ | (simp only [List.forall_mem_cons]; simp_all)))
    (case h0 => (first | exact List.forall_mem_nil _ | (simp only [List.forall_mem_cons]; simp_all)))
    (case c1 => exact rfl)
    (case c2 => exact rfl)
    (case c3 => exact rfl))
  k_with "mine:cells" => (
    (first | (k_cells Y') | (have hY := cellsNil Y'; subst hY))
    (try simp only [List.cons_append, List.nil_append, List.append_nil] at N')
    (try dsimp only)
    (try k_fold))
  k_with "mine:go" => (
    (fail_if_success (with_reducible show LCt.CompRestT _ _ _ _ _ _ _ _ _ _ _ _ _ _ _ _ _ _ _ _))
    (fail_if_success (with_reducible show LCg.CompRest _ _ _ _ _ _ _ _ _ _ _ _ _ _ _ _ _ _ _))
    (fail_if_success (with_reducible show ForSrc _ _ _ _ _ _ _ _ _ _ _))
    (first | (k_unfold; (try dsimp only)) | (k_end; wrow_close) | walk1 | (dsimp only; walk1) | (leave1; walk_say "STEP leave1"; try dsimp only) | fail "no step"))
  k_with "mine:same" => exact ⟨_, _, rfl, by assumption, by assumption⟩
  k_with "mine:hdp" => ((try dsimp only [around, Around.deeper]); omega)
  k_with "mine:mapsA" => (repeat' (first | exact List.forall_mem_nil _ | refine List.forall_mem_cons.mpr ⟨by with_unfolding_all rfl, ?_⟩))
  k_with "mine:memS" => ((repeat (first | (with_reducible exact List.mem_cons_self) | refine List.mem_cons_of_mem _ ?_)); done)
  k_with "mine:mapsB" => (
    (intro y hy)
    (try dsimp only)
    (repeat refine (if_neg (hy _ (by k_extra "mine:memS"))).trans ?_)
    (refine Eq.symm ?_)
    (repeat refine (if_neg (hy _ (by k_extra "mine:memS"))).trans ?_)
    rfl)
  k_extra "mine:fill"
  obtain ⟨hp, gens, dw, tk, os⟩ := s
  rcases hi with rfl | rfl | rfl | rfl | rfl
  all_goals
    repeat' k_extra "mine:go"

    with_unfolding_all exact hQ _ _ _ (fun b o e _ => e)
theorem pretty_spec (C : Cx w mean mg mb H₀) (st : H₀.StaysIn s.heap) (hd1 : dp + 10 < recursionLimit) {fl : Int} {t : Tok} (hm : fl ∈ NS)
    (hret : ∀ h' tk' t', Grow s.heap h' [] → Q (.str (Txt.join (Str.ofString ", ") (prettyWords fl)) t') { s with heap := h', toks := tk' }) :
    wpAny (model PW w) (around dp un gd outer) (call (.ref 46) [.int fl t]) Q E s := by
  k_with_none
  w_top off
  k_with "mine:fill" => (have _kf : (PySem.Challenge.rw_wk0041_01, _root_.hd.heap_1) = (PySem.Challenge.rw_wk0041_01, _root_.hd.heap_1) := by (k_fill; rfl))
  k_with "mine:room" => (first | assumption | (simp only [around, Around.deeper, Around.mark, Around.in1, recursionLimit] at *; omega))
  k_with "mine:entercases" => (
    (case ho => k_dflt k_is)
    (case hcd => k_dflt k_is)
    (case hroom => k_extra "mine:room")
    (case hbind => first | exact BindsTo.of_eq rfl | exact binds_K (by k_in) rfl (by k_is) rfl rfl rfl | exact kp_binds (Frag.In.keeps X st) fun _ => rfl)
    (case hkind => exact rfl)
    (case hnd => decide +kernel)
    (case ht => (first | exact List.forall_mem_nil _ | (simp only [List.forall_mem_cons]; simp_all)))
    (case h0 => (first | exact List.forall_mem_nil _ | (simp only [List.forall_mem_cons]; simp_all)))
    (case c1 => exact rfl)
    (case c2 => exact rfl)
    (case c3 => exact rfl))
  k_with "mine:cells" => (
    (first | (k_cells Y') | (have hY := cellsNil Y'; subst hY))
    (try simp only [List.cons_append, List.nil_append, List.append_nil] at N')
    (try dsimp only)
    (try k_fold))
  k_with "mine:go" => (
    (fail_if_success (with_reducible show LCt.CompRestT _ _ _ _ _ _ _ _ _ _ _ _ _ _ _ _ _ _ _ _))
    (fail_if_success (with_reducible show LCg.CompRest _ _ _ _ _ _ _ _ _ _ _ _ _ _ _ _ _ _ _))
    (fail_if_success (with_reducible show ForSrc _ _ _ _ _ _ _ _ _ _ _))
    (first | (k_unfold; (try dsimp only)) | (k_end; wrow_close) | walk1 | (dsimp only; walk1) | (leave1; walk_say "STEP leave1"; try dsimp only) | fail "no step"))
  k_with "mine:same" => exact ⟨_, _, rfl, by assumption, by assumption⟩
  k_with "mine:hdp" => ((try dsimp only [around, Around.deeper]); omega)
  k_with "mine:mapsA" => (repeat' (first | exact List.forall_mem_nil _ | refine List.forall_mem_cons.mpr ⟨by with_unfolding_all rfl, ?_⟩))
  k_with "mine:memS" => ((repeat (first | (with_reducible exact List.mem_cons_self) | refine List.mem_cons_of_mem _ ?_)); done)
  k_with "mine:mapsB" => (
    (intro y hy)
    (try dsimp only)
    (repeat refine (if_neg (hy _ (by k_extra "mine:memS"))).trans ?_)
    (refine Eq.symm ?_)
    (repeat refine (if_neg (hy _ (by k_extra "mine:memS"))).trans ?_)
    rfl)
  k_with "exec For" => (with_unfolding_all refine For_src ?_ (by intro _; rfl))
  k_with "mine:prettymap" => (
    (refine maps_eq [Str.ofString "i", Str.ofString "flag", Str.ofString "flags"] ?_ ?_)
    · k_extra "mine:mapsA"
    · k_extra "mine:mapsB")
  k_with "mine:prettynext" => (
    (refine hTF _ _ ?_)
    (dsimp only [Turned])
    (refine ⟨_, _, _, _, rfl, by assumption, by assumption, ?_, ⟨⟩, ?_⟩)
    · (intro p hp; rw [List.mem_singleton.mp hp]; assumption)
    · (rw [hy]
       (refine' ⟨_, _, ?_, lst_push _ _ _, strs_snoc _ _ hxs, ?_, ?_⟩)
       rotate_left
       · k_extra "mine:prettymap"
       · (rw [List.length_append, List.length_singleton]; exact Nat.succ_le_succ hxl)
       · assumption))
  k_with "mine:prettybrk" => (
    (refine hTF _ _ ?_)
    (dsimp only [Turned])
    (repeat' k_extra "mine:go")
    (have hpe := pretty_brk (n := fl) hi (by rw [hy]; assumption))
    (have hpl := pst_len _ hm _ (List.mem_range.mpr (Nat.succ_lt_succ hi)))
    (rw [hy] at hpe hpl)
    (refine join_list (News.isList (by assumption) (List.Mem.tail _ (List.Mem.head _))) (by rw [List.push_toArray]; exact strs_snoc _ _ hxs) (by refine Nat.le_trans hpl (by decide)) ?_)
    (intro t9 k9)
    (rename Fr _ _ _ _ => F9)
    (have hq := hret _ k9 t9 fun b o e _ => F9.keep b o (eg' ▸ e))
    (rw [← hpe] at hq)
    (exact hq))
  obtain ⟨X, T⟩ := C
  k_extra "mine:fill"
  refine' enterK [] X st T.nolimit ?ho ?hcd ?hroom ?hbind ?hkind ?hnd ?ht ?h0 ?_ ?c1 ?c2 ?c3
  k_extra "mine:entercases"
  intro g' L' h' tk' cells' eL eg stg X' F' N' Y' l1
  have T' := T.keeps stg
  have eg' : g' = s.heap := eg

  k_extra "mine:cells"
  clear Y'
  replace F' : Fr g' L' h' (fun y => if y = Str.ofString "flags" then some (.int fl t) else none) := by with_unfolding_all exact F'
  repeat' k_extra "mine:go"
  rename_i l'' _ _ _ _ _ _ _ _ _ _ _ _ _ _
  refine ForSrc.rangeQ (n := 32) (fun i m₁ news₁ => ∃ t xs, m₁ = (fun y => if y = Str.ofString "i" then m₁ y else if y = Str.ofString "flag" then m₁ y else if y = Str.ofString "flags" then some (.int (pst fl i).1 t) else if y = Str.ofString "names" then some (.ref l'') else none) ∧ news₁ = [(l'', LCg.lst xs)] ∧ StrsAre xs (pst fl i).2 ∧ xs.length ≤ i ∧ (pst fl i).1 ≠ 0) (by rfl) (by k_asm) (by k_asm) (by assumption) (by decide) (by rfl) ?J0 ?turn ?done
  case J0 =>
    refine ⟨t, [], ?_, rfl, .nil, Nat.le_refl _, NS_ne fl hm⟩
    funext y
    by_cases h1 : y = Str.ofString "i"
    · rw [if_pos h1]
    rw [if_neg h1]
    by_cases h2 : y = Str.ofString "flag"
    · rw [if_pos h2]
    rw [if_neg h2]
    by_cases h3 : y = Str.ofString "flags"
    · subst h3; rfl
    · simp only [if_neg h3]
  case done =>
    rintro m₁ news₁ h tk ⟨tf, xs, hm₁, rfl, hxs, hxl, hz⟩ F' N'
    have hsz : xs.toArray.size ≤ sizeLine := by rw [List.size_toArray, sizeLine_eq]; omega
    have h32 := pst_end fl hm hz
    rw [hm₁, h32] at F'
    clear hm₁
    have hpe : prettyWords fl = (pst fl 32).2 ++ [Str.ofString "0x100000000"] := if_neg hz
    have hpl := pst_len _ hm 32 (by simp)
    repeat' k_extra "mine:go"
    refine join_list (News.isList (by assumption) (List.Mem.head _)) (by rw [List.push_toArray]; exact strs_snoc _ _ hxs) (by have hpl2 := pretty_len fl hm; rw [hpe] at hpl2; exact Nat.le_trans hpl2 (by decide)) ?_
    intro t9 k9
    rename Fr _ _ _ _ => F9
    have hq := hret _ k9 t9 fun b o e _ => F9.keep b o (eg' ▸ e)
    rw [hpe] at hq
    exact hq
  case turn =>
    rintro i m₁ news₁ I oI h tk t' TF hTF hi ⟨tf, xs, hm₁, rfl, hxs, hxl, hz⟩ F' N' off'
    have hne : @Ne Nat l'' I := off' _ (List.Mem.head _)
    have hsz : xs.toArray.size ≤ sizeLine := by rw [List.size_toArray, sizeLine_eq]; omega
    rw [hm₁] at F'
    clear hm₁
    by_cases hb : Builtin.bitAnd (pst fl i).1 (flagAt i) = 0
    · have hb' : Builtin.bitAnd (pst fl i).1 (1 * 2 ^ (0 + (i : Int)).toNat) = 0 := hb
      repeat' k_extra "mine:go"
      · exact absurd hb' (by assumption)
      · refine hTF _ _ ?_
        dsimp only [Turned]
        refine ⟨_, _, _, _, rfl, by assumption, by assumption, ?_, by trivial, ?_⟩
        · intro p hp
          rw [List.mem_singleton.mp hp]
          exact hne
        · rw [pst_no hb]
          refine ⟨tf, xs, ?_, rfl, hxs, Nat.le_succ_of_le hxl, hz⟩
          k_extra "mine:prettymap"
    · have hb' : ¬ Builtin.bitAnd (pst fl i).1 (1 * 2 ^ (0 + (i : Int)).toNat) = 0 := hb
      have hy := pst_yes hb
      have hib := bitcases fl hm i (by simpa using hi) hb
      obtain ⟨i₀, hi₀⟩ : ∃ i₀, i₀ = i := ⟨i, rfl⟩
      have hx6 : (baseText "0x" 16 (1 * 2 ^ (0 + (i : Int)).toNat)).length ≤ sizeLine := by
        rw [sizeLine_eq]
        rcases hib with rfl | rfl | rfl | rfl | rfl <;> decide +kernel
      k_with "call builtin:hex" => (with_unfolding_all refine P.hex_of_int ?_ hx6)
      k_with "call builtin:dict.get" => (
        (with_reducible rename Fr _ _ _ _ => F9)
        (with_reducible rename News _ _ _ _ => N9)
        (with_unfolding_all refine get_flag X' F9 hib ?_)
        (intro h9 tk9 t9 G9)
        (have F9' := fr_grow F9 G9)
        (have N9' := news_grow N9 G9)
        (clear F9 N9 G9))
      repeat' k_extra "mine:go"
      · k_extra "mine:prettynext"
      · k_extra "mine:prettybrk"
      · exact absurd (by assumption) hb'
end
end LPrettyS
section LFarS
theorem news_tail {g h : Heap} {L : Addr} {p : Addr × Obj} {r : List (Addr × Obj)} (N : News g L h (p :: r)) : News g L h r := fun q hq => N q (List.mem_cons_of_mem _ hq)
theorem news_fresh {g h h' : Heap} {L l : Addr} {o : Obj} {m : Str → Option Value} {news : List (Addr × Obj)} (F : Fr g L h m) (N : News g L h news) (G : Grow h h' []) (hn : h.get? l = none) (hl : h'.get? l = some o) : News g L h' ((l, o) :: news) := fun p hp => by
  rcases List.mem_cons.mp hp with rfl | hp
  · exact ⟨hl, fun e => frame_ne F hn e.symm, nold F.keep hn⟩
  · exact news_grow N G p hp
theorem wordsOf_len (mk : Int) : (wordsOf mk).length ≤ 4 := by
  unfold wordsOf wordsFrom
  exact Nat.le_trans (List.length_filterMap_le _ _) (by simp)
theorem bits_all : ∀ a ∈ List.range 16, ∀ b ∈ List.range 16, 0 ≤ Builtin.bitAnd (a : Int) (Builtin.bitNot (b : Int)) ∧ Builtin.bitAnd (a : Int) (Builtin.bitNot (b : Int)) < 16 := by decide +kernel
theorem bits_ok {a b : Int} (ha : 0 ≤ a ∧ a < 16) (hb : 0 ≤ b ∧ b < 16) : 0 ≤ Builtin.bitAnd a (Builtin.bitNot b) ∧ Builtin.bitAnd a (Builtin.bitNot b) < 16 := by
  have := bits_all a.toNat (List.mem_range.mpr (by omega)) b.toNat (List.mem_range.mpr (by omega))
  rw [Int.toNat_of_nonneg ha.1, Int.toNat_of_nonneg hb.1] at this
  exact this
noncomputable def dOf (mk n : Int) : Int := let a := (wordsOf (Builtin.bitAnd mk (Builtin.bitNot n))).length; let b := (wordsOf (Builtin.bitAnd n (Builtin.bitNot mk))).length; if (b : Int) > (a : Int) then (b : Int) else (a : Int)
section
variable {w : World} {mean : ExcName → Option Value} {mg mb : Str → Option Value} {dp un : Nat} {gd : Option (List Code)} {outer : List Env} {H₀ : Heap} {s : Shared} {Q E : Value → Shared → Prop}
theorem far_spec (C : Cx w mean mg mb H₀) (st : H₀.StaysIn s.heap) (hd1 : dp + 20 < recursionLimit) {na : Addr} {vn : List Value} {ns : List Int} {mk : Int} {tm : Tok}
    (hn : s.heap.IsList na vn.toArray) (hni : IntsAre vn ns) (hnl : ns.length = 16) (hm : 0 ≤ mk ∧ mk < 16)
    (hret : ∀ r h' tk' t', (∃ n : Nat, n < 16 ∧ (∀ k : Nat, k < 16 → ns.getD k 0 ≤ ns.getD n 0) ∧ r = dOf mk n) → (∀ n : Nat, n < 16 → (∀ k : Nat, k < 16 → ns.getD k 0 ≤ ns.getD n 0) → r ≤ dOf mk n) → Grow s.heap h' [] → Q (.int r t') { s with heap := h', toks := tk' }) :
    wpAny (model PW w) (around dp un gd outer) (call (.ref 340) [.ref na, .int mk tm] []) Q E s := by
  k_with_none
  w_top off
  k_with "mine:fill" => (have _kf : (PySem.Challenge.rw_wk0041_01, _root_.hd.heap_1) = (PySem.Challenge.rw_wk0041_01, _root_.hd.heap_1) := by (k_fill; rfl))
  k_with "mine:room" => (first | assumption | (simp only [around, Around.deeper, Around.mark, Around.in1, recursionLimit] at *; omega))
  k_with "mine:entercases" => (
    (case ho => k_dflt k_is)
    (case hcd => k_dflt k_is)
    (case hroom => k_extra "mine:room")
    (case hbind => first | exact BindsTo.of_eq rfl | exact binds_K (by k_in) rfl (by k_is) rfl rfl rfl | exact kp_binds (Frag.In.keeps X st) fun _ => rfl)
    (case hkind => exact rfl)
    (case hnd => decide +kernel)
    (case ht => (first | exact List.forall_mem_nil _ | (simp only [List.forall_mem_cons]; simp_all)))
    (case h0 => (first | exact List.forall_mem_nil _ | (simp only [List.forall_mem_cons]; simp_all)))
    (case c1 => exact rfl)
    (case c2 => exact rfl)
    (case c3 => exact rfl))
  k_with "mine:cells" => (
    (first | (k_cells Y') | (have hY := cellsNil Y'; subst hY))
    (try simp only [List.cons_append, List.nil_append, List.append_nil] at N')
    (try dsimp only)
    (try k_fold))
  k_with "mine:go" => (
    (fail_if_success (with_reducible show LCt.CompRestT _ _ _ _ _ _ _ _ _ _ _ _ _ _ _ _ _ _ _ _))
    (fail_if_success (with_reducible show LCg.CompRest _ _ _ _ _ _ _ _ _ _ _ _ _ _ _ _ _ _ _))
    (fail_if_success (with_reducible show ForSrc _ _ _ _ _ _ _ _ _ _ _))
    (first | (k_unfold; (try dsimp only)) | (k_end; wrow_close) | walk1 | (dsimp only; walk1) | (leave1; walk_say "STEP leave1"; try dsimp only) | fail "no step"))
  k_with "mine:same" => exact ⟨_, _, rfl, by assumption, by assumption⟩
  k_with "mine:hdp" => ((try dsimp only [around, Around.deeper]); omega)
  k_with "mine:mapsA" => (repeat' (first | exact List.forall_mem_nil _ | refine List.forall_mem_cons.mpr ⟨by with_unfolding_all rfl, ?_⟩))
  k_with "mine:memS" => ((repeat (first | (with_reducible exact List.mem_cons_self) | refine List.mem_cons_of_mem _ ?_)); done)
  k_with "mine:mapsB" => (
    (intro y hy)
    (try dsimp only)
    (repeat refine (if_neg (hy _ (by k_extra "mine:memS"))).trans ?_)
    (refine Eq.symm ?_)
    (repeat refine (if_neg (hy _ (by k_extra "mine:memS"))).trans ?_)
    rfl)
  k_with "exec For" => (with_unfolding_all refine For_src ?_ (by intro _; rfl))
  k_with "exec For Name Call cons nil" => (with_unfolding_all refine For_src ?_ (by intro _; rfl))
  k_with "call ref" => (
    (with_reducible show wpAny _ _ (call (Value.ref 316) _ _) _ _ _)
    (with_reducible rename Fr _ _ _ _ => F9)
    (with_reducible rename News _ _ _ _ => N9)
    (with_unfolding_all refine words_spec C (fun b o e => F9.keep b o (stg b o e)) ?hdp ?hbm ?_)
    (case hdp => k_extra "mine:hdp")
    (case hbm => k_extra "mine:bits")
    (intro l9 h9 tk9 vs9 G9 n9 e9 S9)
    (have F9' := fr_grow F9 G9)
    (have N9' := news_fresh F9 N9 G9 n9 e9)
    (have hs9 := strs_length S9)
    (clear F9 N9 G9 S9 n9 e9))
  k_with "mine:bits" => assumption
  k_with "call builtin:len" => (
    (with_reducible rename News _ _ _ _ => N9)
    (refine call_len_list (News.isList N9 (List.Mem.head _)) ?hfit ?_)
    (case hfit => rw [List.size_toArray, hs9]; exact Int.lt_of_le_of_lt (Int.ofNat_le.mpr (wordsOf_len _)) (by decide))
    (rw [List.size_toArray, hs9])
    (have N9' := news_tail N9)
    (clear N9))
  have C0 := C
  obtain ⟨X, T⟩ := C
  have C := C0
  k_extra "mine:fill"
  refine' enterK [] X st T.nolimit ?ho ?hcd ?hroom ?hbind ?hkind ?hnd ?ht ?h0 ?_ ?c1 ?c2 ?c3
  k_extra "mine:entercases"
  intro g' L' h' tk' cells' eL eg stg X' F' N' Y' l1
  have T' := T.keeps stg
  have eg' : g' = s.heap := eg
  k_extra "mine:cells"
  clear Y'
  replace F' : Fr g' L' h' (fun y => if y = Str.ofString "mask" then some (.int mk tm) else if y = Str.ofString "net" then some (.ref na) else none) := by with_unfolding_all exact F'
  have hn' : g'.IsList na vn.toArray := eg' ▸ hn
  have hpos : 0 < ns.length := by omega
  repeat' k_extra "mine:go"
  rename_i M t6 k6 hM1 hM2 h63 tk61 l6 h62 l61 h61 F61 N61 h6 tk6 t1 u1 v1 hR F6 N6 up6
  refine ForSrc.rangeQ (n := 16) (fun i m₁ news₁ => ∃ ws ds n, m₁ = (fun y => if y = Str.ofString "n" then m₁ y else if y = Str.ofString "ways" then some (.ref l6) else if y = Str.ofString "top" then some (.int M t6) else if y = Str.ofString "mask" then some (.int mk tm) else if y = Str.ofString "net" then some (.ref na) else none) ∧ news₁ = [(l6, W.listOf (List.toArray ws) n)] ∧ IntsAre ws ds ∧ ds.length ≤ i ∧ (∀ x ∈ ds, ∃ k : Nat, k < 16 ∧ ns.getD k 0 = M ∧ x = dOf mk k) ∧ ∀ k : Nat, k < i → ns.getD k 0 = M → dOf mk k ∈ ds) (by rfl) F6 N6 hR (by decide) (by rfl) ?J0 ?turn ?done
  case J0 =>
    refine ⟨[], [], 0, ?_, rfl, .nil, Nat.le_refl _, by simp, by omega⟩
    refine maps_eq [Str.ofString "n"] ?_ ?_
    · k_extra "mine:mapsA"
    · k_extra "mine:mapsB"
  case done =>
    rintro m₁ news₁ h tk ⟨ws, ds, n, hm₁, rfl, hds, hdl, hd1', hd2⟩ F' N'
    rw [hm₁] at F'
    clear hm₁ F6 N6 F61 N61
    obtain ⟨k0, hk0, ek0⟩ : ∃ k : Nat, k < 16 ∧ ns.getD k 0 = M := by
      obtain ⟨k, hk, e⟩ := List.getElem_of_mem hM1
      exact ⟨k, by omega, by simp [List.getD, List.getElem?_eq_getElem hk, e]⟩
    have hpos2 : 0 < ds.length := List.length_pos_of_mem (hd2 k0 hk0 ek0)
    repeat' k_extra "mine:go"
    rename Int => r
    rename r ∈ ds => hr1
    rename ∀ a, a ∈ ds → r ≤ a => hr2
    rename Fr _ _ _ _ => F7
    have hmax : ∀ k : Nat, k < 16 → ns.getD k 0 ≤ M := fun k hk => hM2 _ (by simp only [List.getD, List.getElem?_eq_getElem (show k < ns.length by omega), Option.getD_some]; exact List.getElem_mem _)
    refine hret r _ _ _ ?_ ?_ (fun b o e _ => F7.keep b o (eg' ▸ e))
    · obtain ⟨k, hk, e1, e2⟩ := hd1' r hr1
      exact ⟨k, hk, fun j hj => by rw [e1]; exact hmax j hj, e2⟩
    · intro k hk hmk
      refine hr2 _ (hd2 k hk ?_)
      have := hmk k0 hk0
      have := hmax k hk
      omega
  case turn =>
    rintro i m₁ news₁ I oI h tk t' TF hTF hi ⟨ws, ds, n, hm₁, rfl, hds, hdl, hd1', hd2⟩ F' N' off'
    have hne : @Ne Nat l6 I := off' _ (List.Mem.head _)
    rw [hm₁] at F'
    clear hm₁ F6 N6 F61 N61
    have hwl := hds.length
    have hsz : ws.toArray.size ≤ sizeLine := by rw [List.size_toArray, sizeLine_eq]; omega
    have hb1 := bits_ok hm (b := (i : Int)) ⟨by omega, by omega⟩
    have hb2 := bits_ok (a := (i : Int)) ⟨by omega, by omega⟩ hm
    rw [Int.zero_add]
    repeat' k_extra "mine:go"
    · rename ns.getD _ 0 = M => hM
      rw [Int.toNat_natCast] at hM
      refine hTF _ _ ?_
      dsimp only [Turned]
      refine ⟨_, _, _, _, rfl, by assumption, by assumption, by simpa using hne, trivial, _, ds ++ [dOf mk i], _, ?_, rfl, ?_, ?_, ?_, fun k hk e => ?_⟩
      · refine maps_eq [Str.ofString "n"] ?_ ?_
        · k_extra "mine:mapsA"
        · k_extra "mine:mapsB"
      · rw [List.concat_eq_append]
        exact IntsAre.append hds (.cons _ _ .nil)
      · rw [List.length_append, List.length_singleton]; omega
      · intro x hx
        rcases List.mem_append.mp hx with hx | hx
        · exact hd1' x hx
        · exact ⟨i, hi, hM, List.mem_singleton.mp hx⟩
      · rcases Nat.lt_or_eq_of_le (Nat.lt_succ_iff.mp hk) with h | rfl
        · exact List.mem_append_left _ (hd2 k h e)
        · exact List.mem_append_right _ (by simp)
    · rename ns.getD _ 0 ≠ M => hM
      rw [Int.toNat_natCast] at hM
      refine hTF _ _ ?_
      dsimp only [Turned]
      refine ⟨_, _, _, _, rfl, by assumption, by assumption, by simpa using hne, trivial, ws, ds, n, ?_, rfl, hds, Nat.le_succ_of_le hdl, hd1', fun k hk e => ?_⟩
      · refine maps_eq [Str.ofString "n"] ?_ ?_
        · k_extra "mine:mapsA"
        · k_extra "mine:mapsB"
      · rcases Nat.lt_or_eq_of_le (Nat.lt_succ_iff.mp hk) with h | rfl
        · exact hd2 k h e
        · exact absurd e hM
end
end LFarS
section LSliceS
section
variable {prog : Program} {w : World} {A : Around} {E : Value → Shared → Prop} {s : Shared}
theorem setItem_all {l sl D : Addr} {items new : Array Value} {n : Nat} {Q : Unit → Shared → Prop} (ho : s.heap.get? l = some (W.listOf items n))
    (hs : s.heap.IsSliceOf sl .none .none .none) (hD : s.heap.IsList D new) (hne : l ≠ D)
    (h : ∀ h' n', Heap.SameBut l s.heap h' → h'.get? l = some (W.listOf new n') → Q () { s with heap := h' })
    (hsz : items.size + new.size ≤ sizeLine) : wpAny (model prog w) A (setItem (.ref l) (.ref sl) (.ref D)) Q E s := by
  have hl : s.heap.IsList l items := ⟨_, ho, rfl, n, rfl⟩
  obtain ⟨os, hos, hcs, hds⟩ := id hs
  have hTs : s.TypeIs (.ref sl) "slice" := ⟨os, hos, hcs⟩
  obtain ⟨oD, hoD, hcD, nD, hdD⟩ := id hD
  unfold setItem
  try with_reducible refine wpAny_holding ?_
  first | refine wpAny_bind (wpAny_pure ?_) | skip
  refine wpAny_bind (wpAny_sequenceKey hl.typeIs (by decide) ?_)
  refine wpAny_bind (wpAny_callSpecial?_slot (name := Str.ofString "__setitem__") hl.typeIs slot_list_setitem
    (wpAny_call_entry slot_list_setitem hl.typeIs entry_list_setitem ?_ (args_list_setitem _ _ _)))
  show wpAny _ _ (Builtin.List.listSubscript? (.ref sl) >>= _) _ _ s
  refine wpAny_bind ?_
  unfold Builtin.List.listSubscript?
  refine wpAny_bind (wpAny_specialOf hTs slice_no_index ?_)
  simp only [Option.isNone_none, if_true]
  refine wpAny_pure ?_
  show wpAny _ _ (typeOf (.ref sl) >>= _) _ _ s
  refine wpAny_bind (wpAny_typeOf hTs ?_)
  rw [if_neg (by decide)]
  rw [listSliceParts_eq]
  refine wpAny_bind (wpAny_bind (wpAny_field hos hds (x := .none) rfl (wpAny_bind (wpAny_listPart .none ?_))))
  rw [if_neg (by decide)]
  refine wpAny_bind (wpAny_field hos hds (x := .none) rfl (wpAny_bind (wpAny_listPart .none ?_)))
  refine wpAny_bind (wpAny_field hos hds (x := .none) rfl (wpAny_bind (wpAny_listPart .none (wpAny_pure ?_))))
  have hne' : ¬ (Builtin.List.listSameRef (.ref l) (.ref D) = true) := by show ¬ ((l == D) = true); simpa using hne
  rw [if_neg hne']
  refine wpAny_bind ?_
  unfold Builtin.List.listAllItems
  refine wpAny_bind (wpAny_typeOf hD.typeIs ?_)
  rw [if_pos (by decide)]
  refine wpAny_listItems hoD hdD ?_
  refine wpAny_bind (wpAny_listItems ho rfl ?_)
  refine wpAny_bind (wpAny_of_eq (sliceIndices_raw none none none items.size (by simp)) ?_)
  have e : sliceBounds none none none items.size = (((0 : Nat) : Int), (items.size : Int), 1) := by simp [sliceBounds]
  rw [e]
  dsimp only
  rw [if_pos (by decide)]
  refine wpAny_bind (wpAny_rule ?_)
  have htl : ¬ (Builtin.List.listTooLong (items.size + new.size) = true) := by show ¬ (decide (_ > sizeLine) = true); simp only [decide_eq_true_eq]; omega
  rw [if_neg htl]
  have hf : (items.extract 0 ((0:Nat):Int).toNat ++ new ++ items.extract (max ((0:Nat):Int) (items.size:Int)).toNat items.size) = new := by
    apply Array.ext'
    simp
  unfold Builtin.List.listUpdate
  refine wpAny_bind (wpAny_updateSeq ho rfl ?_ (by omega) (by rw [hf]; omega))
  refine wpAny_bind (wpAny_letGo ?_)
  refine wpAny_pure (M := model prog w) ⟨.none, rfl, ?_⟩
  refine wpAny_pure ?_
  refine h _ (if new.size == items.size then n else n+1) (Heap.SameBut.update _ _ _) ?_
  refine (Heap.get?_update_self _ ho rfl).trans ?_
  exact congrArg (fun q : Array Value => some (W.listOf q (if q.size == items.size then n else n+1))) hf
end
end LSliceS
section LDelS
theorem Sel.sub {its : Array Value} {tst : Nat → Value → Bool} {k i : Nat} {rs : List Value} (S : Sel (fun i v => its[i]? = some v) tst (fun _ v y => y = v) k i rs) : ∀ v ∈ rs, v ∈ its := by
  induction S with
  | nil => intro v h; exact nomatch h
  | yes hv _ hR _ ih =>
    intro v h
    rcases List.mem_cons.mp h with rfl | h
    · subst hR; exact Array.mem_of_getElem? hv
    · exact ih v h
  | no _ _ _ ih => exact ih
theorem Sel.length_le {P : Nat → Value → Prop} {tst : Nat → Value → Bool} {R : Nat → Value → Value → Prop} {k i : Nat} {ys : List Value} (S : Sel P tst R k i ys) : ys.length ≤ k := by
  induction S with
  | nil => simp
  | yes _ _ _ _ ih => simp only [List.length_cons]; omega
  | no _ _ _ ih => omega
theorem sel_tups {h : Heap} {refs : List Value} {ps : List (Str × Str)} {f : Str × Str → Bool} (H : TupsAre h refs ps) {k i : Nat} {rs : List Value}
    (S : Sel (fun i v => refs.toArray[i]? = some v) (fun i _ => f (ps.getD i (Str.empty, Str.empty))) (fun _ v y => y = v) k i rs) : i + k = refs.length → TupsAre h rs ((ps.drop i).filter f) := by
  induction S with
  | nil =>
    intro e
    rw [List.drop_eq_nil_of_le (by rw [← H.length]; omega)]
    exact .nil
  | @yes k i v y ys hv ht hR _ ih =>
    intro e
    subst hR
    obtain ⟨a, x, z, t1, t2, n, rfl, hp, ha⟩ := H.at i _ (by simpa using hv)
    obtain ⟨hlt, hg⟩ := List.getElem?_eq_some_iff.mp hp
    rw [List.drop_eq_getElem_cons hlt, hg]
    have ht' : f (x, z) = true := by simpa [List.getD, hp] using ht
    rw [List.filter_cons_of_pos ht']
    exact .cons ha (ih (by omega))
  | @no k i v ys hv ht _ ih =>
    intro e
    obtain ⟨a, x, z, t1, t2, n, rfl, hp, ha⟩ := H.at i _ (by simpa using hv)
    obtain ⟨hlt, hg⟩ := List.getElem?_eq_some_iff.mp hp
    rw [List.drop_eq_getElem_cons hlt, hg]
    have ht' : f (x, z) = false := by simpa [List.getD, hp] using ht
    rw [List.filter_cons_of_neg (by simp [ht'])]
    exact ih (by omega)
section
variable {w : World} {mean : ExcName → Option Value} {mg mb : Str → Option Value} {dp un : Nat} {gd : Option (List Code)} {outer : List Env} {H₀ : Heap} {s : Shared} {Q E : Value → Shared → Prop}
theorem del_spec (C : Cx w mean mg mb H₀) (st : H₀.StaysIn s.heap) (hd1 : dp + 20 < recursionLimit) {d dx hl : Addr} {hh : Int} {t0 t : Tok} {n : Nat} {refs : List Value} {ps : List (Str × Str)} {x : Str}
    (hi : s.heap.get? d = some (instObj 300 dx)) (hdi : s.heap.get? dx = some (dictOf [⟨hh, .str (Str.ofString "_headers") t0, .ref hl⟩] 1)) (hls : s.heap.get? hl = some (W.listOf refs.toArray n)) (htp : TupsAre s.heap refs ps)
    (hd0 : H₀.get? d = none) (hdx0 : H₀.get? dx = none) (hl0 : H₀.get? hl = none) (hx : x ∈ W10) (hps : ∀ p ∈ ps, p.1 ∈ W10) (hlen : refs.length ≤ 100)
    (hret : ∀ h' tk' rs n', Grow s.heap h' [hl] → (∀ g, TupsAre g refs ps → TupsAre g rs (ps.filter fun p => decide (low p.1 ≠ low x))) → rs.length ≤ refs.length → (∀ v, v ∈ rs → v ∈ refs) → h'.get? hl = some (W.listOf rs.toArray n') → Q .none { s with heap := h', toks := tk' }) :
    wpAny (model PW w) (around dp un gd outer) (call (.ref 218) [.ref d, .str x t] []) Q E s := by
  k_with_none
  w_top off
  k_with "mine:fill" => (have _kf : (PySem.Challenge.rw_wk0041_01, _root_.hd.heap_1) = (PySem.Challenge.rw_wk0041_01, _root_.hd.heap_1) := by (k_fill; rfl))
  k_with "mine:room" => (first | assumption | (simp only [around, Around.deeper, Around.mark, Around.in1, recursionLimit] at *; omega))
  k_with "mine:entercases" => (
    (case ho => k_dflt k_is)
    (case hcd => k_dflt k_is)
    (case hroom => k_extra "mine:room")
    (case hbind => first | exact BindsTo.of_eq rfl | exact binds_K (by k_in) rfl (by k_is) rfl rfl rfl | exact kp_binds (Frag.In.keeps X st) fun _ => rfl)
    (case hkind => exact rfl)
    (case hnd => decide +kernel)
    (case ht => (first | exact List.forall_mem_nil _ | (simp only [List.forall_mem_cons]; simp_all)))
    (case h0 => (first | exact List.forall_mem_nil _ | (simp only [List.forall_mem_cons]; simp_all)))
    (case c1 => exact rfl)
    (case c2 => exact rfl)
    (case c3 => exact rfl))
  k_with "mine:cells" => (
    (first | (k_cells Y') | (have hY := cellsNil Y'; subst hY))
    (try simp only [List.cons_append, List.nil_append, List.append_nil] at N')
    (try dsimp only)
    (try k_fold))
  k_with "mine:go" => (
    (fail_if_success (with_reducible show LCt.CompRestT _ _ _ _ _ _ _ _ _ _ _ _ _ _ _ _ _ _ _ _))
    (fail_if_success (with_reducible show LCg.CompRest _ _ _ _ _ _ _ _ _ _ _ _ _ _ _ _ _ _ _))
    (fail_if_success (with_reducible show ForSrc _ _ _ _ _ _ _ _ _ _ _))
    (first | (k_unfold; (try dsimp only)) | (k_end; wrow_close) | walk1 | (dsimp only; walk1) | (leave1; walk_say "STEP leave1"; try dsimp only) | fail "no step"))
  k_with "mine:same" => exact ⟨_, _, rfl, by assumption, by assumption⟩
  k_with "mine:hdp" => ((try dsimp only [around, Around.deeper]); omega)
  k_with "mine:mapsA" => (repeat' (first | exact List.forall_mem_nil _ | refine List.forall_mem_cons.mpr ⟨by with_unfolding_all rfl, ?_⟩))
  k_with "mine:memS" => ((repeat (first | (with_reducible exact List.mem_cons_self) | refine List.mem_cons_of_mem _ ?_)); done)
  k_with "mine:mapsB" => (
    (intro y hy)
    (try dsimp only)
    (repeat refine (if_neg (hy _ (by k_extra "mine:memS"))).trans ?_)
    (refine Eq.symm ?_)
    (repeat refine (if_neg (hy _ (by k_extra "mine:memS"))).trans ?_)
    rfl)
  k_with "call ref" => (
    (with_reducible show wpAny _ _ (call (Value.ref 199) _ _) _ _ _)
    (with_reducible rename Fr _ _ _ _ => F9)
    (with_unfolding_all refine convT_spec C (fun b o e => F9.keep b o (stg b o e)) ?hdp _ hsr ?_)
    (case hdp => k_extra "mine:hdp")
    (intro h9 tk9 G9)
    (have F9' := fr_grow F9 G9)
    (rename News _ _ _ _ => N9)
    (have N9' := news_grow N9 G9)
    (clear F9 N9 G9))
  k_with "call builtin:str.lower" => (
    (with_reducible rename Fr _ _ _ _ => F9)
    (with_unfolding_all refine low_is ?hx _ _ _ _ _ _ _ _ _ (Frag.In.keeps X' F9.keep) ?_)
    (case hx => assumption)
    (intro t9 k9))
  k_with "CompSrcT" => (k_here; k_dflt (refine LCt.CompSrcT.ledger (by rfl) (by k_asm) (by k_asm) (by k_mem) (by assumption) ?_; intro _))
  k_with "eval ListComp" => (k_here; lct_look; k_dflt (refine LCt.ListComp_T (F₀ := by k_asm) (by with_unfolding_all rfl) (by decide) (by rfl) (by decide) (by rfl) ?_); k_dflt lct_toSrc)
  have C0 := C
  obtain ⟨X, T⟩ := C
  have C := C0
  have hsr := srch_is (low_mem x hx)
  k_extra "mine:fill"
  refine' enterK [(d, instObj 300 dx), (dx, dictOf [⟨hh, .str (Str.ofString "_headers") t0, .ref hl⟩] 1), (hl, W.listOf refs.toArray n)] X st T.nolimit ?ho ?hcd ?hroom ?hbind ?hkind ?hnd ?ht ?h0 ?_ ?c1 ?c2 ?c3
  k_extra "mine:entercases"
  intro g' L' h' tk' cells' eL eg stg X' F' N' Y' l1
  have T' := T.keeps stg
  k_extra "mine:cells"
  have nd : ∀ b o, s.heap.get? b = some o → b ≠ d → b ≠ dx → b ≠ hl → g'.get? b = some o := fun b o e h1 h2 h3 => eg ▸ hideAll_get _ e (by simp [h1, h2, h3])
  have hl1 : @Ne Nat hl d := by intro e; subst e; rw [hls] at hi; cases hi
  have hl2 : @Ne Nat hl dx := by intro e; subst e; rw [hls] at hdi; exact absurd (congrArg Obj.cls (Option.some.inj hdi)) (by show ¬ (Value.type "list" = Value.type "dict"); decide)
  have hl3 : @Ne Nat d dx := by intro e; subst e; rw [hdi] at hi; cases hi
  have htg : TupsAre g' refs ps := htp.keeps fun b o e hc => nd b o e (by intro q; subst q; rw [hi] at e; cases e; cases hc) (by intro q; subst q; rw [hdi] at e; cases e; exact absurd hc (by show ¬ (Value.type "dict" = Value.type "tuple"); decide)) (by intro q; subst q; rw [hls] at e; cases e; exact absurd hc (by show ¬ (Value.type "list" = Value.type "tuple"); decide))
  have hsz : refs.toArray.size ≤ sizeLine := by rw [List.size_toArray, sizeLine_eq]; omega
  repeat' k_extra "mine:go"
  refine restT (fun i _ => decide (low (ps.getD i (Str.empty, Str.empty)).1 ≠ low x)) (fun _ v y => y = v) (.inr ⟨_, by k_mem, rfl, n, rfl⟩) ?turn ?elt ?fin
  case turn =>
    intro i v I' oI' C' oC' D' m' h9 tk9 ys hi' hv hC' hx' F' N' off' ne'
    obtain ⟨a, kx, vx, t1, t2, n2, rfl, hp, ha⟩ := htg.at i v (by simpa using hv)
    have hkW : kx ∈ W10 := hps _ (List.mem_of_getElem? hp)
    have htup : IsTup g' a #[.str kx t1, .str vx t2] := ⟨_, ha, rfl, n2, rfl⟩
    have hgd : (ps.getD i (Str.empty, Str.empty)).1 = kx := by simp [List.getD, hp]
    rw [hgd]
    repeat' k_extra "mine:go"
    all_goals first | (with_reducible (show (_ : Bool) = _); with_unfolding_all (show (low kx != low x) = decide (low kx ≠ low x)); simp [bne, BEq.beq]; done) | (simp only [List.nil_append] at *; k_extra "mine:same")
  case elt =>
    intro i v I' oI' C' oC' D' m' h9 tk9 ys hi' hv ht hC' hx' F' N' off' ne'
    repeat' k_extra "mine:go"
    all_goals first | (simp only [List.nil_append] at *; k_extra "mine:same")
  case fin =>
    intro rs hrs D h9 tk9 F9 N9 off9
    repeat' k_extra "mine:go"
    simp only [List.nil_append] at N9 off9
    have hhD : @Ne Nat hl D := off9.2.2.2.1
    have F10 := F9.push { cls := .type "slice", data := .fields #[.none, .none, .none] }
    have N10 := N9.pushKeep { cls := .type "slice", data := .fields #[.none, .none, .none] }
    have hrl : rs.length ≤ refs.length := by simpa using Sel.length_le hrs
    refine setItem_all (items := refs.toArray) (new := rs.toArray) (n := n) ?ho (Heap.IsSliceOf.new ..) ?hD hhD ?h ?hsz
    case ho => exact (N10 (hl, W.listOf refs.toArray n) (by k_mem)).1
    case hD => exact ⟨_, (N10 (D, LCg.lst rs) (by k_mem)).1, rfl, rs.length, rfl⟩
    case hsz => rw [List.size_toArray, List.size_toArray, sizeLine_eq]; omega
    case h =>
      intro h11 n11 hsb ho11
      have F11 := F10.update N10 (a := hl) (o := W.listOf refs.toArray n) (by k_mem) hsb
      have N11 := N10.update (a := hl) (o := W.listOf refs.toArray n) (by k_mem) hsb ho11
      dsimp only
      repeat' k_extra "mine:go"
      try dsimp only
      refine hret _ _ rs n11 (grow_back eg F11 N11 ?gb) ?tp hrl (fun v hv => by simpa using Sel.sub hrs v hv) ho11
      case tp => exact fun g hg => sel_tups (f := fun p => decide (low p.1 ≠ low x)) hg hrs (by simp only [List.size_toArray]; omega)
      case gb => simp [hi, hdi, Ne.symm hl1, Ne.symm hl2]
end
end LDelS
section LTouchS
theorem fr_touch {h₀ h h' : Heap} {L : Addr} {m : Str → Option Value} {news : List (Addr × Obj)} {bs : List Addr} (F : Fr h₀ L h m) (N : News h₀ L h news) (G : Grow h h' bs) (hb : ∀ b ∈ bs, ∃ o, (b, o) ∈ news) : Fr h₀ L h' m := by
  refine ⟨F.ns.at fun o e => G L o e fun hm => ?_, fun b o e => G b o (F.keep b o e) fun hm => ?_, F.above⟩
  · obtain ⟨o', ho'⟩ := hb L hm
    exact (N _ ho').2.1 rfl
  · obtain ⟨o', ho'⟩ := hb b hm
    rw [(N _ ho').2.2] at e
    cases e
theorem news_touch {h₀ h h' : Heap} {L : Addr} {m : Str → Option Value} {news news' : List (Addr × Obj)} {bs : List Addr} (F : Fr h₀ L h m) (N : News h₀ L h news) (G : Grow h h' bs)
    (hn : ∀ p ∈ news', (p ∈ news ∧ p.1 ∉ bs) ∨ (h'.get? p.1 = some p.2 ∧ ((∃ o, (p.1, o) ∈ news) ∨ h.get? p.1 = none))) : News h₀ L h' news' := fun p hp => by
  rcases hn p hp with ⟨h1, h2⟩ | ⟨h1, ⟨o, h2⟩ | h2⟩
  · exact ⟨G _ _ (N p h1).1 h2, (N p h1).2⟩
  · exact ⟨h1, (N _ h2).2.1, (N _ h2).2.2⟩
  · refine ⟨h1, ?_, ?_⟩
    · intro e
      obtain ⟨oL, _, _, hL, _⟩ := F.ns
      rw [e, hL] at h2
      cases h2
    · cases e : h₀.get? p.1 with
      | none => rfl
      | some o => rw [F.keep _ _ e] at h2; cases h2
end LTouchS
section LDelOwnS
theorem del_own {M : Model} {A : Around} {E : Value → Shared → Prop} {s : Shared} {K : Frag} {x C L f : Addr} {h₀ : Heap} {m : Str → Option Value} {ox : Obj} {od : Option Obj} {i : Value} {Q : Unit → Shared → Prop} (F : Fr h₀ L s.heap m) (X₀ : K.In h₀) (I : InstAt s.heap x ox C od) (hq : noSeq K C = true) (hs : findIn K (.ref C) "__delitem__" = some (some (.ref f))) (hf : isFn K (.ref f) = true)
    (h : wpAny M A (call (.ref f) [.ref x, i]) (fun _ s' => Q () s') E s) : wpAny M A (delItem (.ref x) i) Q E s := by
  have X := X₀.keeps F.keep
  unfold delItem sequenceKey
  refine wpAny_holding (wpAny_bind (wpAny_bind (I.type.here ?_)))
  refine wpAny_bind ((anyM_none X hq).here ?_)
  rw [if_pos (show (!false) = true from rfl)]
  exact wpAny_pure (wpAny_bind (special_fn X I hs (beq_iff_eq.mp hf) (wpAny_mono h (fun _ _ z => wpAny_pure z) fun _ _ z => z)))
end LDelOwnS
section LItemS
section
variable {w : World} {mean : ExcName → Option Value} {mg mb : Str → Option Value} {dp un : Nat} {gd : Option (List Code)} {outer : List Env} {H₀ : Heap} {s : Shared} {Q E : Value → Shared → Prop}
theorem set_spec (C : Cx w mean mg mb H₀) (st : H₀.StaysIn s.heap) (hd1 : dp + 40 < recursionLimit) {d dx hl : Addr} {hh : Int} {t0 t tv : Tok} {vx : Str} {n : Nat} {refs : List Value} {ps : List (Str × Str)} {x : Str}
    (hi : s.heap.get? d = some (instObj 300 dx)) (hdi : s.heap.get? dx = some (dictOf [⟨hh, .str (Str.ofString "_headers") t0, .ref hl⟩] 1)) (hls : s.heap.get? hl = some (W.listOf refs.toArray n)) (htp : TupsAre s.heap refs ps)
    (hd0 : H₀.get? d = none) (hdx0 : H₀.get? dx = none) (hl0 : H₀.get? hl = none) (hx : x ∈ W6) (hps : ∀ p ∈ ps, p.1 ∈ W10) (hlen : refs.length ≤ 100) (hv : vx = Str.ofString "in")
    (hret : ∀ h' tk' a t1 t2 k rs n', Grow s.heap h' [hl] → (∀ g, TupsAre g refs ps → TupsAre g rs (ps.filter fun p => decide (low p.1 ≠ low x))) → rs.length ≤ refs.length → (∀ v, v ∈ rs → v ∈ refs) → s.heap.get? a = none → h'.get? a = some { cls := .type "tuple", data := .seq #[.str x t1, .str vx t2] k } →
      h'.get? hl = some (W.listOf (rs ++ [Value.ref a]).toArray n') → Q .none { s with heap := h', toks := tk' }) :
    wpAny (model PW w) (around dp un gd outer) (call (.ref 213) [.ref d, .str x t, .str vx tv] []) Q E s := by
  k_with_none
  w_top off
  k_with "mine:fill" => (have _kf : (PySem.Challenge.rw_wk0041_01, _root_.hd.heap_1) = (PySem.Challenge.rw_wk0041_01, _root_.hd.heap_1) := by (k_fill; rfl))
  k_with "mine:room" => (first | assumption | (simp only [around, Around.deeper, Around.mark, Around.in1, recursionLimit] at *; omega))
  k_with "mine:entercases" => (
    (case ho => k_dflt k_is)
    (case hcd => k_dflt k_is)
    (case hroom => k_extra "mine:room")
    (case hbind => first | exact BindsTo.of_eq rfl | exact binds_K (by k_in) rfl (by k_is) rfl rfl rfl | exact kp_binds (Frag.In.keeps X st) fun _ => rfl)
    (case hkind => exact rfl)
    (case hnd => decide +kernel)
    (case ht => (first | exact List.forall_mem_nil _ | (simp only [List.forall_mem_cons]; simp_all)))
    (case h0 => (first | exact List.forall_mem_nil _ | (simp only [List.forall_mem_cons]; simp_all)))
    (case c1 => exact rfl)
    (case c2 => exact rfl)
    (case c3 => exact rfl))
  k_with "mine:cells" => (
    (first | (k_cells Y') | (have hY := cellsNil Y'; subst hY))
    (try simp only [List.cons_append, List.nil_append, List.append_nil] at N')
    (try dsimp only)
    (try k_fold))
  k_with "mine:go" => (
    (fail_if_success (with_reducible show LCt.CompRestT _ _ _ _ _ _ _ _ _ _ _ _ _ _ _ _ _ _ _ _))
    (fail_if_success (with_reducible show LCg.CompRest _ _ _ _ _ _ _ _ _ _ _ _ _ _ _ _ _ _ _))
    (fail_if_success (with_reducible show ForSrc _ _ _ _ _ _ _ _ _ _ _))
    (first | (k_unfold; (try dsimp only)) | (k_end; wrow_close) | walk1 | (dsimp only; walk1) | (leave1; walk_say "STEP leave1"; try dsimp only) | fail "no step"))
  k_with "mine:same" => exact ⟨_, _, rfl, by assumption, by assumption⟩
  k_with "mine:hdp" => ((try dsimp only [around, Around.deeper]); omega)
  k_with "mine:mapsA" => (repeat' (first | exact List.forall_mem_nil _ | refine List.forall_mem_cons.mpr ⟨by with_unfolding_all rfl, ?_⟩))
  k_with "mine:memS" => ((repeat (first | (with_reducible exact List.mem_cons_self) | refine List.mem_cons_of_mem _ ?_)); done)
  k_with "mine:mapsB" => (
    (intro y hy)
    (try dsimp only)
    (repeat refine (if_neg (hy _ (by k_extra "mine:memS"))).trans ?_)
    (refine Eq.symm ?_)
    (repeat refine (if_neg (hy _ (by k_extra "mine:memS"))).trans ?_)
    rfl)
  k_with "call ref" => (
    (with_reducible show wpAny _ _ (call (Value.ref 199) _ _) _ _ _)
    (with_reducible rename Fr _ _ _ _ => F9)
    (first
      | (with_unfolding_all refine convT_spec C (fun b o e => F9.keep b o (stg b o e)) ?hdp _ hsr ?_)
      | (with_unfolding_all refine convF_spec C (fun b o e => F9.keep b o (stg b o e)) ?hdp _ hsv ?_))
    (case hdp => k_extra "mine:hdp")
    (intro h9 tk9 G9)
    (have F9' := fr_grow F9 G9)
    (rename News _ _ _ _ => N9)
    (have N9' := news_grow N9 G9)
    (clear F9 N9 G9))
  k_with "delItem ref str" => (k_here; (with_reducible show wpAny _ _ (delItem (Value.ref _) _) _ _ _); k_dflt (refine' del_own ?F ?X ?I ?hQ ?hS ?hF ?_; (case F => k_asm); (case X => k_asm); (case I => k_inst); (case hS => k_is); (case hF => k_is); (case hQ => k_is); k_whole))
  k_with "call ref" => (
    (with_reducible show wpAny _ _ (call (Value.ref 218) _ _) _ _ _)
    (with_reducible rename Fr _ _ _ _ => F9)
    (with_reducible rename News _ _ _ _ => N9)
    (with_unfolding_all refine' del_spec C (fun b o e => F9.keep b o (stg b o e)) ?hdp (News.get N9 ?m1) (News.get N9 ?m2) (News.get N9 ?m3) (TupsAre.keeps htg fun b o e _ => F9.keep b o e) hd0 hdx0 hl0 hx10 hps hlen ?r1)
    (case hdp => k_extra "mine:hdp")
    (case m1 => k_mem)
    (case m2 => k_mem)
    (case m3 => k_mem)
    (case' r1 =>
      intro h9 tk9 rs n9 G9 htr hrl hsub H9
      with_unfolding_all
        have F9' := fr_touch F9 N9 G9 (by intro b hb; simp only [List.mem_singleton] at hb; subst hb; exact ⟨_, by k_mem⟩)
        have N9' := news_touch (news' := [(d, _), (dx, _), (hl, W.listOf (List.toArray rs) n9)]) F9 N9 G9 (by
          intro p hp
          simp only [List.mem_cons, List.not_mem_nil, or_false] at hp
          rcases hp with e9 | e9 | e9 <;> subst e9
          · exact .inl ⟨by k_mem, by simpa using Ne.symm hl1⟩
          · exact .inl ⟨by k_mem, by simpa using Ne.symm hl2⟩
          · exact .inr ⟨H9, .inl ⟨_, by k_mem⟩⟩)
      clear F9 N9 G9))
  have C0 := C
  obtain ⟨X, T⟩ := C
  have C := C0
  have hx10 := W6_sub _ hx
  have hsr := srch_is hx10
  have hsv := srch_11
  subst hv
  k_extra "mine:fill"
  refine' enterK [(d, instObj 300 dx), (dx, dictOf [⟨hh, .str (Str.ofString "_headers") t0, .ref hl⟩] 1), (hl, W.listOf refs.toArray n)] X st T.nolimit ?ho ?hcd ?hroom ?hbind ?hkind ?hnd ?ht ?h0 ?_ ?c1 ?c2 ?c3
  k_extra "mine:entercases"
  intro g' L' h' tk' cells' eL eg stg X' F' N' Y' l1
  have T' := T.keeps stg
  k_extra "mine:cells"
  try clear Y'
  replace F' : Fr g' L' h' (fun z => if z = Str.ofString "val" then some (.str (Str.ofString "in") tv) else if z = Str.ofString "name" then some (.str x t) else if z = Str.ofString "self" then some (.ref d) else none) := by with_unfolding_all exact F'
  have nd : ∀ b o, s.heap.get? b = some o → b ≠ d → b ≠ dx → b ≠ hl → g'.get? b = some o := fun b o e h1 h2 h3 => eg ▸ hideAll_get _ e (by simp [h1, h2, h3])
  have hl1 : @Ne Nat hl d := by intro e; subst e; rw [hls] at hi; cases hi
  have hl2 : @Ne Nat hl dx := by intro e; subst e; rw [hls] at hdi; exact absurd (congrArg Obj.cls (Option.some.inj hdi)) (by show ¬ (Value.type "list" = Value.type "dict"); decide)
  have hl3 : @Ne Nat d dx := by intro e; subst e; rw [hdi] at hi; cases hi
  have htg : TupsAre g' refs ps := htp.keeps fun b o e hc => nd b o e (by intro q; subst q; rw [hi] at e; cases e; cases hc) (by intro q; subst q; rw [hdi] at e; cases e; exact absurd hc (by show ¬ (Value.type "dict" = Value.type "tuple"); decide)) (by intro q; subst q; rw [hls] at e; cases e; exact absurd hc (by show ¬ (Value.type "list" = Value.type "tuple"); decide))
  have hsz : refs.toArray.size ≤ sizeLine := by rw [List.size_toArray, sizeLine_eq]; omega
  repeat' k_extra "mine:go"
  dsimp only
  rename Fr _ _ _ _ => F9
  rename News _ _ _ _ => N9
  refine' hret _ _ _ _ _ _ rs (n9 + 1) (grow_back eg F9 N9 (by simp [hi, hdi])) htr hrl hsub (fresh_back eg N9 (List.Mem.head _) ?ne) (News.get N9 (List.Mem.head _)) ?ls
  case ne =>
    rename _ < _ ∧ _ < _ ∧ _ < _ => lD
    simp only [List.map_cons, List.map_nil, List.mem_cons, List.not_mem_nil, or_false, not_or]
    exact ⟨Nat.ne_of_gt lD.1, Nat.ne_of_gt lD.2.1, Nat.ne_of_gt lD.2.2⟩
  case ls =>
    rw [← List.push_toArray]
    exact News.get N9 (List.Mem.tail _ (List.Mem.tail _ (List.Mem.tail _ (List.Mem.head _))))
end
end LItemS
section LDeskS
theorem news_set {g h h' : Heap} {L a : Addr} {o o' : Obj} {news : List (Addr × Obj)} (N : News g L h news) (G : Grow h h' [a]) (hm : (a, o) ∈ news) (ho : h'.get? a = some o') : News g L h' (news.map fun p => if p.1 = a then (a, o') else p) := fun q hq => by
  obtain ⟨p, hp, rfl⟩ := List.mem_map.mp hq
  by_cases e : p.1 = a
  · rw [if_pos e]
    exact ⟨ho, (N _ hm).2⟩
  · rw [if_neg e]
    exact ⟨G _ _ (N p hp).1 (by simpa using e), (N p hp).2⟩
theorem fr_set {g h h' : Heap} {L a : Addr} {o : Obj} {m : Str → Option Value} {news : List (Addr × Obj)} (F : Fr g L h m) (N : News g L h news) (G : Grow h h' [a]) (hm : (a, o) ∈ news) : Fr g L h' m :=
  fr_touch F N G fun b hb => by rw [List.mem_singleton.mp hb]; exact ⟨o, hm⟩
theorem map_own {a : Addr} {q : Addr × Obj} {own : List (Addr × Obj)} (h : ∀ p ∈ own, p.1 ≠ a) : (own.map fun p => if p.1 = a then q else p) = own := by
  conv => rhs; rw [← List.map_id own]
  exact List.map_congr_left fun p hp => if_neg (h p hp)
theorem clash {h : Heap} {a b : Addr} {o o' : Obj} (ha : h.get? a = some o) (hb : h.get? b = some o') (hc : o.cls ≠ o'.cls) : @Ne Nat a b := fun e => by
  subst e
  rw [ha] at hb
  cases hb
  exact hc rfl
noncomputable def tupO (x y : Str) (t1 t2 : Tok) (k : Nat) : Obj := { cls := .type "tuple", data := .seq #[.str x t1, .str y t2] k }
/-- where a list's tuples live: the old heap or the ledger's tail -/
noncomputable def Cov (g : Heap) (own : List (Addr × Obj)) (refs : List Value) : Prop := ∀ a, Value.ref a ∈ refs → (∃ o, g.get? a = some o) ∨ ∃ o, (a, o) ∈ own
theorem TupsAre.move {h h' : Heap} {refs : List Value} {ps : List (Str × Str)} (T : TupsAre h refs ps) : (∀ a o, Value.ref a ∈ refs → h.get? a = some o → h'.get? a = some o) → TupsAre h' refs ps := by
  induction T with
  | nil => intro _; exact .nil
  | cons ha _ ih => intro k; exact .cons (k _ _ (by simp) ha) (ih fun a o hm e => k a o (by simp [hm]) e)
theorem TupsAre.mono {g h h' : Heap} {L : Addr} {m m' : Str → Option Value} {own news news' : List (Addr × Obj)} {refs : List Value} {ps : List (Str × Str)} (T : TupsAre h refs ps) (V : Cov g own refs) (F : Fr g L h m) (N : News g L h news) (hs : ∀ p ∈ own, p ∈ news) (F' : Fr g L h' m') (N' : News g L h' news') (hs' : ∀ p ∈ own, p ∈ news') : TupsAre h' refs ps :=
  T.move fun a o hm e => by
    rcases V a hm with ⟨o', e'⟩ | ⟨o', e'⟩
    · have := F.keep _ _ e'
      rw [e] at this
      cases this
      exact F'.keep _ _ e'
    · have := (N _ (hs _ e')).1
      dsimp only at this
      rw [e] at this
      cases this
      exact (N' _ (hs' _ e')).1
theorem Cov.sub {g : Heap} {own : List (Addr × Obj)} {refs rs : List Value} (V : Cov g own refs) (h : ∀ v, v ∈ rs → v ∈ refs) : Cov g own rs := fun a ha => V a (h _ ha)
theorem Cov.up {g : Heap} {own own' : List (Addr × Obj)} {refs : List Value} (V : Cov g own refs) (h : ∀ p ∈ own, p ∈ own') : Cov g own' refs := fun a ha => (V a ha).imp id fun ⟨o, e⟩ => ⟨o, h _ e⟩
theorem Cov.snoc {g : Heap} {own : List (Addr × Obj)} {refs : List Value} {a : Addr} {o : Obj} (V : Cov g own refs) : Cov g ((a, o) :: own) (refs ++ [.ref a]) := fun b hb => by
  rcases List.mem_append.mp hb with hb | hb
  · exact (V.up fun p hp => List.mem_cons_of_mem _ hp) b hb
  · cases List.mem_singleton.mp hb
    exact .inr ⟨o, List.Mem.head _⟩
theorem TupsAre.snoc {h : Heap} {refs : List Value} {ps : List (Str × Str)} {a : Addr} {x y : Str} {t1 t2 : Tok} {k : Nat} (T : TupsAre h refs ps) (ha : h.get? a = some { cls := .type "tuple", data := .seq #[.str x t1, .str y t2] k }) : TupsAre h (refs ++ [.ref a]) (ps ++ [(x, y)]) := by
  induction T with
  | nil => exact .cons ha .nil
  | cons hb _ ih => exact .cons hb ih
noncomputable def delP (ps : List (Str × Str)) (x : Str) : List (Str × Str) := ps.filter fun p => decide (low p.1 ≠ low x)
noncomputable def setP (ps : List (Str × Str)) (x y : Str) : List (Str × Str) := delP ps x ++ [(x, y)]
theorem delP_mem {ps : List (Str × Str)} {x : Str} {p : Str × Str} (h : p ∈ delP ps x) : p ∈ ps := (List.mem_filter.mp h).1
section
variable {prog : Program} {w : World} {A : Around} {E : Value → Shared → Prop} {s : Shared}
open PyProof.V PySem.SeqAt

theorem shaped_tup2 {x y : Str} (hx : PyData.strOk x = true) (hy : PyData.strOk y = true) : shaped (.tuple [.str x, .str y]) = true := by
  show (PyData.canLay0 (.tuple [.str x, .str y]) && decide (PyData.depth (.tuple [.str x, .str y]) ≤ 64)) = true
  simp [PyData.canLay0, PyData.canLayAll0, PyData.depth, PyData.depthAll, hx, hy]
theorem reads_tup2 {h : Heap} {a : Addr} {x y : Str} {t1 t2 : Tok} {k : Nat} (ha : h.get? a = some { cls := .type "tuple", data := .seq #[.str x t1, .str y t2] k }) : Reads h (.ref a) (.tuple [.str x, .str y]) [] := by
  have := Reads.tuple ha rfl rfl (ReadsAll.cons (Reads.str (h := h) x t1) (ReadsAll.cons (Reads.str (h := h) y t2) .nil))
  simpa using this
theorem eq_tup2 {a b : Addr} {x y u v : Str} {t1 t2 t3 t4 : Tok} {k l : Nat} {Q : Value → Shared → Prop} (ha : s.heap.get? a = some { cls := .type "tuple", data := .seq #[.str x t1, .str y t2] k }) (hb : s.heap.get? b = some { cls := .type "tuple", data := .seq #[.str u t3, .str v t4] l })
    (hx : PyData.strOk x = true) (hy : PyData.strOk y = true) (hu' : PyData.strOk u = true) (hv : PyData.strOk v = true) (hu : A.units + 64 < cLine) (h : Q (.bool (decide ((x, y) = (u, v)))) s) : wpAny (model prog w) A (compareOp .Eq (.ref a) (.ref b)) Q E s := by
  refine eq_dataH_same (reads_tup2 ha) (reads_tup2 hb) (shaped_tup2 hx hy) (shaped_tup2 hu' hv) hu (by simp [noMix, noMixAll]) ?_
  have e : PySem.Spec.same (.tuple [.str x, .str y]) (.tuple [.str u, .str v]) = decide ((x, y) = (u, v)) := by
    simp only [PySem.Spec.same, PySem.Spec.sameAll]
    by_cases h1 : x = u <;> by_cases h2 : y = v <;> simp [h1, h2]
  rw [e]
  exact h
end
end LDeskS
section LSupS
theorem slot_wd_get : Slot "wrapper_descriptor" "__get__" "wrapper_descriptor.__get__" := .of (owner := "wrapper_descriptor") (n := "__get__") (by rw [typeLookup_type, builtinLookup_eq_fast]; kernel_rfl) (by decide +kernel) (by decide +kernel) (by decide +kernel)
  (by first | exact .inl (by decide +kernel) | exact .inr (by decide +kernel)) (by rw [isSubtype_type]; kernel_rfl)
theorem entry_wd_get : entryFor table "wrapper_descriptor.__get__" = some Builtin.«wrapper_descriptor.__get__» := entryFor_of_tree (by kernel_rfl)
theorem slot_md_get : Slot "method_descriptor" "__get__" "method_descriptor.__get__" := .of (owner := "method_descriptor") (n := "__get__") (by rw [typeLookup_type, builtinLookup_eq_fast]; kernel_rfl) (by decide +kernel) (by decide +kernel) (by decide +kernel)
  (by first | exact .inl (by decide +kernel) | exact .inr (by decide +kernel)) (by rw [isSubtype_type]; kernel_rfl)
theorem entry_md_get : entryFor table "method_descriptor.__get__" = some Builtin.«method_descriptor.__get__» := entryFor_of_tree (by kernel_rfl)
theorem wd_args (a b c : Value) : argsOk "wrapper_descriptor.__get__" ⟨[a, b, c], []⟩ := by unfold argsOk; rw [PySem.W.Fast.signatureY_eq]; kernel_rfl
theorem md_args (a b c : Value) : argsOk "method_descriptor.__get__" ⟨[a, b, c], []⟩ := by unfold argsOk; rw [PySem.W.Fast.signatureY_eq]; kernel_rfl
theorem ti_builtin {s : Shared} {id T : String} (h : typeOf (.builtin id) = pure (.type T)) : s.TypeIs (.builtin id) T := h
section
variable {prog : Program} {w : World} {A : Around} {E : Value → Shared → Prop} {h : Heap} {g : Array GenState} {d : Drawn} {t : Nat} {os : OsState}
theorem wd_len {x C : Addr} {Q : Value → Shared → Prop} (hi : Looks (model prog w) h (isInstance (.ref x) (.type "list")) true)
    (hq : Q (.ref h.objs.size) ⟨h.push { cls := .type "method-wrapper", data := .fields #[.builtin "list.__len__", .ref x] }, g, d, t, os⟩) :
    wpAny (model prog w) A (call (.builtin "wrapper_descriptor.__get__") [.builtin "list.__len__", .ref x, .ref C]) Q E ⟨h, g, d, t, os⟩ := by
  refine wpAny_call_entry slot_wd_get (s := ⟨h, g, d, t, os⟩) (self := .builtin "list.__len__") (ti_builtin (by kernel_rfl)) entry_wd_get ?_ (wd_args _ _ _)
  unfold Builtin.«wrapper_descriptor.__get__»
  refine wpAny_bind (wpAny_pure (a := (Value.builtin "list.__len__", some (Value.ref x), some (Value.ref C))) ?_)
  refine wpAny_bind (wpAny_bind (wpAny_pure (a := (Str.ofString "__len__", Value.type "list")) ?_))
  refine wpAny_bind (hi.here ?_)
  rw [if_neg (by decide)]
  refine wpAny_pure ?_
  refine wpAny_bind (wpAny_newObj_type ?_)
  exact wpAny_pure ⟨_, rfl, hq⟩
theorem wd_init {x C : Addr} {Q : Value → Shared → Prop} (hi : Looks (model prog w) h (isInstance (.ref x) (.type "list")) true)
    (hq : Q (.ref h.objs.size) ⟨h.push { cls := .type "method-wrapper", data := .fields #[.builtin "list.__init__", .ref x] }, g, d, t, os⟩) :
    wpAny (model prog w) A (call (.builtin "wrapper_descriptor.__get__") [.builtin "list.__init__", .ref x, .ref C]) Q E ⟨h, g, d, t, os⟩ := by
  refine wpAny_call_entry slot_wd_get (s := ⟨h, g, d, t, os⟩) (self := .builtin "list.__init__") (ti_builtin (by kernel_rfl)) entry_wd_get ?_ (wd_args _ _ _)
  unfold Builtin.«wrapper_descriptor.__get__»
  refine wpAny_bind (wpAny_pure (a := (Value.builtin "list.__init__", some (Value.ref x), some (Value.ref C))) ?_)
  refine wpAny_bind (wpAny_bind (wpAny_pure (a := (Str.ofString "__init__", Value.type "list")) ?_))
  refine wpAny_bind (hi.here ?_)
  rw [if_neg (by decide)]
  refine wpAny_pure ?_
  refine wpAny_bind (wpAny_newObj_type ?_)
  exact wpAny_pure ⟨_, rfl, hq⟩
theorem md_pop {x C : Addr} {Q : Value → Shared → Prop} (hi : Looks (model prog w) h (isInstance (.ref x) (.type "list")) true)
    (hq : Q (.ref h.objs.size) ⟨h.push { cls := .type "builtin_function_or_method", data := .fields #[.builtin "list.pop", .ref x] }, g, d, t, os⟩) :
    wpAny (model prog w) A (call (.builtin "method_descriptor.__get__") [.builtin "list.pop", .ref x, .ref C]) Q E ⟨h, g, d, t, os⟩ := by
  refine wpAny_call_entry slot_md_get (s := ⟨h, g, d, t, os⟩) (self := .builtin "list.pop") (ti_builtin (by kernel_rfl)) entry_md_get ?_ (md_args _ _ _)
  unfold Builtin.«method_descriptor.__get__»
  refine wpAny_bind (wpAny_pure (a := (Value.builtin "list.pop", some (Value.ref x), some (Value.ref C))) ?_)
  dsimp only
  rw [if_neg (by decide +kernel)]
  refine wpAny_bind (wpAny_bind (wpAny_pure (a := (Str.ofString "pop", Value.type "list")) ?_))
  refine wpAny_bind (hi.here ?_)
  rw [if_neg (by decide)]
  refine wpAny_pure ?_
  refine wpAny_bind (wpAny_newObj_type ?_)
  exact wpAny_pure ⟨_, rfl, hq⟩
end
end LSupS
section LSup2S
section
variable {prog : Program} {w : World} {A : Around} {E : Value → Shared → Prop} {h : Heap} {g : Array GenState} {d : Drawn} {t : Nat} {os : OsState}
/-- what super() hands out for a method of the built-in list: a record that binds it -/
theorem sup_ga {so D x C : Addr} {id gid T : String} {ob : Obj} {l₀ l : List Value} {K : Frag} {name : Str} {tk : Tok} {Q : Fin → Shared → Prop}
    (hso : h.get? so = some { cls := .type "super", dict := none, data := .fields #[.ref D, .ref x, .ref C], slots := #[] }) (hno : Looks (model prog w) h (opaqueClassAbove (.ref C)) none)
    (hC : Looks (model prog w) h (mroOf (.ref C)) l₀) (hl : (l₀.dropWhile (· != .ref D)).drop 1 = l) (X : K.In h)
    (hf : alongIn K name l = some (some (.builtin id))) (hty : typeOf (.builtin id) = pure (.type T)) (hg : typeLookup (.type T) "__get__" = pure (some (.builtin gid)))
    (hcall : ∀ {A : Around} {Q : Value → Shared → Prop} {E : Value → Shared → Prop}, Q (.ref h.objs.size) ⟨h.push ob, g, d, t, os⟩ → wpAny (model prog w) A (call (.builtin gid) [.builtin id, .ref x, .ref C]) Q E ⟨h, g, d, t, os⟩)
    (hxC : x ≠ C) (hn : (name == ("__class__" : Str)) = false)
    (hq : Q (.done (.ret (.ref h.objs.size))) ⟨h.push ob, g, d, t, os⟩) :
    wpAny (model prog w) A (Builtin.«super.__getattribute__» ⟨[.ref so, .str name tk], []⟩) Q E ⟨h, g, d, t, os⟩ := by
  have hne : (Value.ref x == Value.ref C) = false := by simp [hxC]
  have hdt : ({ cls := .type "super", dict := none, data := .fields #[.ref D, .ref x, .ref C], slots := #[] } : Obj).data = .fields #[.ref D, .ref x, .ref C] := rfl
  have f0 : (#[.ref D, .ref x, .ref C] : Array Value)[0]? = some (.ref D) := rfl
  have f1 : (#[.ref D, .ref x, .ref C] : Array Value)[1]? = some (.ref x) := rfl
  have f2 : (#[.ref D, .ref x, .ref C] : Array Value)[2]? = some (.ref C) := rfl
  unfold Builtin.«super.__getattribute__»
  repeat (first
    | (with_reducible refine wpAny_field hso hdt f0 ?_) | (with_reducible refine wpAny_field hso hdt f1 ?_) | (with_reducible refine wpAny_field hso hdt f2 ?_)
    | (with_reducible refine ks_wpAny_notOpaque hno ?_)
    | (with_reducible refine Looks.at hC ?_; rw [hl])
    | (refine ks_forIn_along X (fun _ _ => rfl) rfl ?_ hf)
    | (with_reducible refine wpAny_typeOf (ti_builtin hty) ?_)
    | (with_reducible refine wpAny_of_eq hg ?_)
    | (with_reducible refine hcall ?_)
    | (simp only [hn, hne, Bool.or_false, Bool.false_eq_true, if_false])
    | wp_step
    | dsimp only)
  all_goals exact hq
theorem sup_method {so D x C : Addr} {id gid T : String} {ob : Obj} {l₀ l : List Value} {K : Frag} {name : Str} {pl : Sem Bool} {Q : Value × List Value → Shared → Prop}
    (hso : h.get? so = some { cls := .type "super", dict := none, data := .fields #[.ref D, .ref x, .ref C], slots := #[] }) (hno : Looks (model prog w) h (opaqueClassAbove (.ref C)) none)
    (hC : Looks (model prog w) h (mroOf (.ref C)) l₀) (hl : (l₀.dropWhile (· != .ref D)).drop 1 = l) (X : K.In h)
    (hf : alongIn K name l = some (some (.builtin id))) (hty : typeOf (.builtin id) = pure (.type T)) (hg : typeLookup (.type T) "__get__" = pure (some (.builtin gid)))
    (hcall : ∀ {t : Nat} {A : Around} {Q : Value → Shared → Prop} {E : Value → Shared → Prop}, Q (.ref h.objs.size) ⟨h.push ob, g, d, t, os⟩ → wpAny (model prog w) A (call (.builtin gid) [.builtin id, .ref x, .ref C]) Q E ⟨h, g, d, t, os⟩)
    (hxC : x ≠ C) (hn : (name == ("__class__" : Str)) = false)
    (hq : Q (.ref h.objs.size, []) ⟨h.push ob, g, d, t + 1, os⟩) :
    wpAny (model prog w) A (getMethod (.ref so) name pl) Q E ⟨h, g, d, t, os⟩ := by
  have hlk := F.ks_slot_super_ga.lookup
  have hcan := F.ks_canon_super_ga
  have hT : ∀ t', (⟨h, g, d, t', os⟩ : Shared).TypeIs (.ref so) "super" := fun _ => ⟨_, hso, rfl⟩
  unfold getMethod
  refine wpAny_bind (wpAny_specialOf (hT _) hlk ?_)
  show wpAny _ _ (if (Manifest.canonical "super.__getattribute__" != "object.__getattribute__") = true then _ else _) _ _ _
  rw [if_pos hcan]
  unfold getAttr getAttrBy
  refine wpAny_bind (wpAny_bind (wpAny_mkText (wpAny_holding (wpAny_bind (wpAny_typeOf (hT _) (wpAny_bind (wpAny_of_eq hlk ?_)))))))
  show wpAny _ _ (getAttrByItsOwn (.ref so) (.str name t) (.type "super") (.builtin "super.__getattribute__") true false) _ _ _
  unfold getAttrByItsOwn hookBefore callGetattribute boundAndCalled
  refine wpAny_bind (wpAny_of_eq (show (if onTheHeap (.type "super") then typeLookup (.type "super") "__getattr__" else pure none) = pure none from rfl) ?_)
  refine wpAny_bind (wpAny_attempt (wpAny_holding ?_))
  show wpAny _ _ (bindSpecial (.builtin "super.__getattribute__") (.ref so) >>= _) _ _ _
  refine wpAny_bind (wpAny_of_eq (F.ks_slot_super_ga.bind _) ?_)
  refine wpAny_mono (Q := fun v s' => v = .ref h.objs.size ∧ s' = ⟨h.push ob, g, d, t + 1, os⟩) (E := fun _ _ => False)
    (wpAny_call_entry F.ks_slot_super_ga (hT _) F.ks_entry_super_ga (sup_ga hso hno hC hl X hf hty hg hcall hxC hn ⟨_, rfl, rfl, rfl⟩) (F.ks_gaArgs_super _ _)) (fun v s' hv => ?_) fun _ _ z => z.elim
  obtain ⟨rfl, rfl⟩ := hv
  exact wpAny_pure (wpAny_pure hq)
theorem sup_K {s : Shared} {so D x C L : Addr} {id gid T : String} {ob ox : Obj} {odx : Option Obj} {K : Frag} {name : Str} {pl : Sem Bool} {h₀ : Heap} {m : Str → Option Value} {news : List (Addr × Obj)} {Q : Value × List Value → Shared → Prop}
    (F : Fr h₀ L s.heap m) (X₀ : K.In h₀) (N : News h₀ L s.heap news) (hso : (so, ks_superObj D x C) ∈ news) (I : InstAt s.heap x ox C odx) (ho : nsIn K cStatics "thirdparty.any" = some none)
    (hm : ks_superIn K C D name = some (some (.builtin id))) (hty : typeOf (.builtin id) = pure (.type T)) (hg : typeLookup (.type T) "__get__" = pure (some (.builtin gid))) (hn : (name == ("__class__" : Str)) = false) (hfree : ob.isFreed = false)
    (hcall : ∀ {h : Heap} {g : Array GenState} {d : Drawn} {os : OsState} {t : Nat} {A : Around} {Q : Value → Shared → Prop} {E : Value → Shared → Prop}, h = s.heap → Q (.ref h.objs.size) ⟨h.push ob, g, d, t, os⟩ → wpAny (model prog w) A (call (.builtin gid) [.builtin id, .ref x, .ref C]) Q E ⟨h, g, d, t, os⟩)
    (h : ∀ q h', Fr h₀ L h' m → News h₀ L h' ((q, ob) :: news) → (∀ p ∈ news, p.1 < q) → Q (.ref q, []) { s with heap := h', toks := s.toks + 1 }) : wpAny (model prog w) A (getMethod (.ref so) name pl) Q E s := by
  have X : K.In s.heap := X₀.keeps F.keep
  obtain ⟨hh, g, d, t, os⟩ := s
  cases hc : clsIn K C with
  | none => unfold ks_superIn at hm; rw [hc] at hm; cases hm
  | some cd =>
    unfold ks_superIn at hm
    rw [hc] at hm
    refine sup_method (ob := ob) (N _ hso).1 (looks_opaque X ho) (l₀ := cd.mro) ?_ rfl X hm hty hg (fun q => hcall rfl q) (ks_ne X I hc) hn ?_
    · exact fun A Q E s k q => wpAny_bind ((looks_clsIn X hc) A _ E s k (wpAny_pure q))
    · obtain ⟨F', N', l'⟩ := ks_newsPush (s := ⟨hh, g, d, t, os⟩) (o := ob) F N rfl (Heap.get?_push_at rfl hfree) (fun b o e => Heap.get?_push_of_some _ e)
      exact h _ _ F' N' l'
theorem bound_call {b : Addr} {x : Value} {id bt : String} {bi : Builtin} {rest : List Value} {R : Result → Shared → Prop} {s : Shared} (hb : s.heap.get? b = some { cls := .type bt, dict := none, data := .fields #[.builtin id, x], slots := #[] })
    (hc : bt = "builtin_function_or_method" ∨ bt = "method-wrapper") (hpl : plainId id = true) (hen : entryFor table id = some bi)
    (hck : ∀ {A : Around} {Q : Unit → Shared → Prop} {E : Value → Shared → Prop}, Q () s → wpAny (model prog w) A (checkBoundCall id ⟨x :: rest, []⟩) Q E s)
    (hq : wpAny (model prog w) A.in1 (bi ⟨x :: rest, []⟩) (fun fin s' => ∃ v, fin = .done (.ret v) ∧ R (.ok (.ret v)) s') (fun _ _ => False) s) : codeAny (model prog w) A (.call (.ref b) ⟨rest, []⟩) R s := by
  refine codeAny_of_tree ?_
  show wpAny _ A.in1 (callAny (.ref b) ⟨rest, []⟩) _ _ _
  unfold callAny
  refine wpAny_bind (wpAny_load hb ?_)
  have fin : codeAny (model prog w) A (.builtin id ⟨x :: rest, []⟩) R s := by
    refine codeAny_builtin hen ?_
    rw [Around.under_plainId hpl _]
    refine wpAny_mono hq (fun f s' hf => ?_) fun _ _ e => e.elim
    obtain ⟨v, rfl, hv⟩ := hf
    exact hv
  rcases hc with rfl | rfl
  · exact wpAny_bind (hck (wpAny_pure ⟨plainId_quiet hpl _, fin⟩))
  · exact wpAny_bind (hck (wpAny_pure ⟨plainId_quiet hpl _, fin⟩))
end
end LSup2S
section LEnterSS
section
variable {prog : Program} {w : World} {A : Around} {s : Shared} {R : Result → Shared → Prop} {name qual : Str} {params : Arguments} {body : List Stmt} {scope : Scope} {dV kV doc pm cdv ct oc : Value} {an od : Option Addr} {osl : Array (Option Value)} {f cc : Addr} {binds : List (Str × Value)} {K : Frag} {H₀ : Heap} {vals : List Value} {kws : List (Str × Value)}
theorem enterS (touched : List (Addr × Obj)) (X : K.In H₀) (st : H₀.StaysIn s.heap) (hlim : H₀.NoLimit)
    (ho : K.lookup f = some ⟨oc, od, .func (ksFn name qual params body scope dV kV doc pm an cdv ct cc), osl⟩) (hcd : codeIn K cdv qual = true) (hroom : A.depth < recursionLimit)
    (hbind : BindsTo s (ksFn name qual params body scope dV kV doc pm an cdv ct cc) ⟨vals, kws⟩ binds) (hloc : ∀ y ∈ binds, scope.names.lookup y.1 = some .local)
    (ht : ∀ p ∈ touched, s.heap.get? p.1 = some p.2) (h0 : ∀ p ∈ touched, H₀.get? p.1 = none)
    (h : ∀ g L' h₁, L' = s.heap.objs.size → g = hideAll s.heap (touched.map (·.1)) → H₀.StaysIn g → K.In g → Fr g L' h₁ (fun y => binds.reverse.lookup y) → News g L' h₁ touched → (∀ p ∈ touched, p.1 < L') →
      _root_.PySem.wpAt (model prog w) (A.deeper (ksEnv qual scope L' f cdv cc)) (.func body (ksEnv qual scope L' f cdv cc)) (execs body (ksEnv qual scope L' f cdv cc))
        (fun fl s' => R (.ok (.ret (match fl with | .ret v => v | _ => .none))) s') (fun _ _ => False)
        { s with heap := h₁, toks := s.toks + binds.length })
    (hcell : ∀ x ∈ scope.names, x.2 ≠ .cell := by decide) (hco : scope.isCoroutine = false := by rfl) (hgen : scope.isGenerator = false := by rfl) (hk : scope.kind = .function := by rfl) : codeAny (model prog w) A (.call (.ref f) ⟨vals, kws⟩) R s := by
  refine ks_codeAny_call_defAt (fd := ksFn name qual params body scope dV kV doc pm an cdv ct cc) (body := body) (binds := binds) hroom ((X.keeps st) _ _ ho) rfl (hlim.keeps st) (codeRec_of (X.keeps st) hcd) rfl hbind hcell hloc (fun h₁ hns hk₁ => ?_) hco hgen hk
  have st' : H₀.StaysIn (hideAll s.heap (touched.map (·.1))) := fun b o e => hideAll_get _ (st b o e) fun q => by
    obtain ⟨p, hp, rfl⟩ := List.mem_map.mp q
    rw [h0 p hp] at e; cases e
  exact ks_wpAt_mono (h _ s.heap.objs.size h₁ rfl rfl st' (X.keeps st') ⟨hns, fun b o e => hk₁ b o (of_hideAll _ e), Nat.le_of_eq (hideAll_size _ _)⟩
    (fun p hp => ⟨hk₁ _ _ (ht p hp), Nat.ne_of_lt (Heap.lt_size (ht p hp)), hideAll_none _ (List.mem_map_of_mem hp)⟩) (fun p hp => Heap.lt_size (ht p hp))) (fun fl s' hl => hl) fun _ _ y => y.elim
end
end LEnterSS
section LNewLS
noncomputable abbrev accObj (dx : Addr) (xs : List Value) (n : Nat) : Obj := { cls := .ref 163, dict := some dx, data := .seq xs.toArray n }
noncomputable abbrev accD (hz : Int) (t0 t1 : Tok) : Obj := dictOf [⟨hz, .str (Str.ofString "_initial_size") t0, .int 0 t1⟩] 1
noncomputable def makesL (K : Frag) (C : Addr) : Bool := match K.lookup C with
  | some ⟨_, _, .cls cd, sl⟩ => !cd.abstract && !cd.hasDel && (sl.toList[4]?).join == some (.builtin "list.__new__") && !cd.mro.isEmpty && cd.mro.contains (.ref C) && cd.mro.contains (.type "list") &&
      specialIn K (.ref C) "__call__" == some (some (.builtin "type.__call__")) && instIn K (.ref C) (.type "type") == some true
  | _ => false
structure MadeL (M : Model) (h : Heap) (C : Addr) : Prop where
  obj : ∃ oc od cd sl, h.get? C = some ⟨oc, od, .cls cd, sl⟩ ∧ cd.abstract = false ∧ cd.hasDel = false ∧ cd.mro.isEmpty = false
  made : Looks M h (Bind.madeBy (.ref C)) (some "list.__new__")
  base : Looks M h (Bind.staticBase (.ref C)) (.ref C)
  self : Looks M h (isSubtype (.ref C) (.ref C)) true
  top : Looks M h (isSubtype (.ref C) (.type "list")) true
  call : Looks M h (specialOf (.ref C) "__call__") (some (.builtin "type.__call__"))
  typ : Looks M h (isInstance (.ref C) (.type "type")) true
theorem madeL_of {K : Frag} {M : Model} {h : Heap} (X : K.In h) {C : Addr} (e : makesL K C = true) : MadeL M h C := by
  unfold makesL at e
  split at e
  · rename_i oc od cd sl ho
    simp only [Bool.and_eq_true, Bool.not_eq_true', beq_iff_eq] at e
    obtain ⟨⟨⟨⟨⟨⟨⟨e1, e2⟩, e3⟩, e4⟩, e5⟩, e6⟩, e7⟩, e8⟩ := e
    have hc : clsIn K C = some cd := by unfold clsIn; rw [ho]
    have hm : Looks M h (mroOf (.ref C)) cd.mro := (looks_clsIn X hc).andThen .now
    obtain ⟨c, l, hl⟩ : ∃ c l, cd.mro = c :: l := by cases q : cd.mro with | nil => rw [q] at e4; cases e4 | cons c l => exact ⟨c, l, rfl⟩
    have made : Looks M h (Bind.madeBy (.ref C)) (some "list.__new__") := by
      intro A Q E s k q
      unfold Bind.madeBy
      refine wpAny_bind (hm A _ E s k ?_)
      rw [hl, List.forIn_cons]
      refine wpAny_bind (wpAny_bind (wpAny_bind (wpAny_bind (wpAny_loadPart (k _ _ (X _ _ ho)) (wpAny_pure ?_)))))
      dsimp only
      rw [← Array.getElem?_toList, e3]
      exact wpAny_pure (wpAny_pure (wpAny_pure q))
    refine ⟨⟨oc, od, cd, sl, X _ _ ho, e1, e2, e4⟩, made, ?_, looks_mroIn X ?_, looks_mroIn X ?_, looks_specialIn X e7, looks_instIn X e8⟩
    · intro A Q E s k q
      unfold Bind.staticBase
      refine wpAny_bind (hm A _ E s k ?_)
      rw [hl, List.forIn_cons]
      exact wpAny_bind (wpAny_bind (wpAny_bind (made A _ E s k (wpAny_pure (wpAny_pure (wpAny_pure q))))))
    · unfold mroIn; rw [hc, Option.bind_some, if_neg (by rw [e4]; decide), e5]
    · unfold mroIn; rw [hc, Option.bind_some, if_neg (by rw [e4]; decide), e6]
  · cases e
noncomputable abbrev accIn (C dx : Addr) : Obj := { cls := .ref C, dict := some dx, data := .seq #[] 0 }
section
variable {prog : Program} {w : World} {A : Around} {K : Frag} {C : Addr} {R : Result → Shared → Prop} {h : Heap} {g : Array GenState} {d : Drawn} {t : Nat} {os : OsState}
theorem ln_kind : builtinKind "list.__new__" = some .builtinFn := by decide +kernel
theorem ln_split : splitId "list.__new__" = some ("list", "__new__") := by decide +kernel
theorem newL (Y : MadeL (model prog w) h C)
    (hq : R (.ok (.ret (.ref (h.objs.size + 1)))) ⟨(h.push emptyDict).push (accIn C h.objs.size), g, d, t, os⟩) :
    codeAny (model prog w) A (.call (.builtin "list.__new__") ⟨[.ref C], []⟩) R ⟨h, g, d, t, os⟩ := by
  obtain ⟨⟨oc, od, cd, sl, hC, e1, e2, e4⟩, made, base, self, top, call, typ⟩ := Y
  refine codeAny_of_tree ?_
  show wpAny _ A.in1 (do checkBuiltinCall "list.__new__" ⟨[.ref C], []⟩; again (.builtin "list.__new__" ⟨[.ref C], []⟩)) _ _ _
  refine wpAny_bind ?_
  simp only [checkBuiltinCall, ln_kind, ln_split]
  repeat (first | simp only [bne_self_eq_false, Bool.false_eq_true, if_false, Bool.not_true] | lk)
  refine ⟨plainId_quiet F.plain_list_new _, codeAny_builtin_stack F.entry_list_new rfl fun p st => ?_⟩
  rw [Around.under_plainId F.plain_list_new _]
  have hown := owner_list_new
  simp only [hown]
  repeat (first | simp only [Bool.false_eq_true, if_false, Bool.not_true] | lk)
  refine wpAny_load (Heap.get?_push_of_some _ (Heap.get?_push_of_some _ hC)) ?_
  dsimp only
  refine wpAny_pure ?_
  rw [e2]
  refine wpAny_pure (wpAny_pure ?_)
  dsimp only
  rw [Heap.size_push]
  exact hq
theorem make_L {init : Value} (Y : MadeL (model prog w) h C) (hi : Looks (model prog w) h (typeLookup (.ref C) "__init__") (some init))
    (hb : ∀ self, Looks (model prog w) h (bindSpecial init self) (init, [self]))
    (hq : codeAny (model prog w) (A.under (.builtin "type.__call__" ⟨[.ref C], []⟩)) (.call init ⟨[.ref (h.objs.size + 1)], []⟩) (InitBack (h.objs.size + 1) R) ⟨(h.push emptyDict).push (accIn C h.objs.size), g, d, t, os⟩) :
    codeAny (model prog w) A (.call (.ref C) ⟨[], []⟩) R ⟨h, g, d, t, os⟩ := by
  have Y' := Y
  obtain ⟨⟨oc, od, cd, sl, hC, e1, e2, e4⟩, made, base, self, top, call, typ⟩ := Y
  refine codeAny_of_tree ?_
  show wpAny _ _ (callAny (.ref C) _) _ _ _
  refine nd_load hC ?_
  show wpAny _ _ (callAny.viaDunder (.ref C) _) _ _ _
  unfold callAny.viaDunder
  refine wpAny_bind (call.at ?_)
  dsimp only
  rw [tc_bind]
  refine wpAny_bind (wpAny_pure (wpAny_bind (wpAny_pure ?_)))
  refine wpAny_pure (a := Fin.again (.call (.builtin "type.__call__") ⟨[.ref C], []⟩)) (And.intro rfl ?_)
  refine codeAny_call_builtin_at (Code.quiet_builtin _ (by decide +kernel)) entry_typeCall (check_slot tc_kind tc_split typ (tc_args _ _ _) ?_)
  unfold Builtin.«type.__call__»
  have hm : Looks (model prog w) h (mroOf (.ref C)) cd.mro := ((Looks.ld (part := none) hC).andThen .now).andThen .now
  repeat (first | simp only [e4, Bool.false_eq_true, if_false] | with_reducible refine wpAny_call ?_ | lk)
  refine newL Y' ?_
  have k : ∀ b o, h.get? b = some o → ((h.push emptyDict).push (accIn C h.objs.size)).get? b = some o := fun b o e => Heap.get?_push_of_some _ (Heap.get?_push_of_some _ e)
  have hx : ((h.push emptyDict).push (accIn C h.objs.size)).get? (h.objs.size + 1) = some (accIn C h.objs.size) := by heap_get
  have t1 : Looks (model prog w) ((h.push emptyDict).push (accIn C h.objs.size)) (typeOf (.ref (h.objs.size + 1))) (.ref C) := (Looks.ld hx).andThen .now
  have s1 := self.keeps k
  have i1 := hi.keeps k
  have b1 := (hb (.ref (h.objs.size + 1))).keeps k
  unfold isInstance callSpecial? specialOf
  repeat (first | with_reducible refine wpAny_call ?_ | lk)
  refine codeAny_mono hq fun r s' z => ?_
  rcases r with e | (v | _ | _ | _) <;> first | exact z | exact z.elim | skip
  obtain ⟨rfl, z⟩ := z
  exact wpAny_pure (wpAny_pure z)
end
theorem of_acc {h₀ h : Heap} {L x dx : Addr} {news : List (Addr × Obj)} {xs : List Value} {n : Nat} {od : Obj} (N : News h₀ L h news) (h1 : (x, accObj dx xs n) ∈ news) (h2 : (dx, od) ∈ news) :
    InstAt h x (accObj dx xs n) 163 (some od) := ⟨(N _ h1).1, rfl, rfl, (N _ h2).1⟩
end LNewLS
section LAccS
theorem callWith_B0 {M : Model} {A : Around} {E : Value → Shared → Prop} {s : Shared} {env : Env} {pos : Pos} {first : List Value} {Q : Value → Shared → Prop} {q : Addr} {self : Value} {id bt : String} (hq : s.heap.get? q = some { cls := .type bt, dict := none, data := .fields #[.builtin id, self], slots := #[] })
    (hbt : bt = "builtin_function_or_method" ∨ bt = "method-wrapper") (h : wpAny M A (call (.ref q) (first ++ [])) Q E s) : wpAny M A (callWith pos (.ref q) first (backTo pos (starEach [] env)) []) Q E s := by
  rcases hbt with rfl | rfl
  · exact callWith_of (P := fun h => h.get? q = some { cls := .type "builtin_function_or_method", dict := none, data := .fields #[.builtin id, self], slots := #[] }) rfl (fun h e => ⟨.machine, .inr (.inl rfl), (Looks.ld (part := none) e).andThen .now⟩) (evalArgs_nil3 ⟨hq, h⟩)
  · exact callWith_of (P := fun h => h.get? q = some { cls := .type "method-wrapper", dict := none, data := .fields #[.builtin id, self], slots := #[] }) rfl (fun h e => ⟨.machine, .inr (.inl rfl), (Looks.ld (part := none) e).andThen .now⟩) (evalArgs_nil3 ⟨hq, h⟩)
section
variable {w : World} {mean : ExcName → Option Value} {mg mb : Str → Option Value} {dp un : Nat} {gd : Option (List Code)} {outer : List Env} {H₀ : Heap} {s : Shared} {Q E : Value → Shared → Prop}
theorem acc_isList {M : Model} {K : Frag} {h : Heap} {x dx : Addr} {xs : List Value} {n : Nat} {od : Option Obj} (X : K.In h) (I : InstAt h x (accObj dx xs n) 163 od) (hm : mroIn K 163 (.type "list") = some true) : Looks M h (isInstance (.ref x) (.type "list")) true := I.type.andThen (looks_mroIn X hm)
theorem len_at {M : Model} {A : Around} {E : Value → Shared → Prop} {s : Shared} {x dx : Addr} {xs : List Value} {n : Nat} {Q : Fin → Shared → Prop} (hx : s.heap.get? x = some (accObj dx xs n))
    (h : Q (.done (.ret (.int xs.length s.toks))) { s with toks := s.toks + 1 }) : wpAny M A (Builtin.«list.__len__» ⟨[.ref x], []⟩) Q E s := by
  show wpAny _ _ (do retInt (← seqSize x)) _ _ s
  unfold seqSize
  refine wpAny_bind (wpAny_bind (wpAny_load hx ?_))
  dsimp only
  refine wpAny_pure (wpAny_bind (wpAny_mkInt (wpAny_pure ?_)))
  rw [List.size_toArray]
  exact h
set_option maxHeartbeats 1000000 in
theorem pc_spec (C : Cx w mean mg mb H₀) (st : H₀.StaysIn s.heap) (hd1 : dp + 10 < recursionLimit) {x dx : Addr} {od : Obj} {n : Nat} {xs : List Value}
    (hi : s.heap.get? x = some (accObj dx xs n)) (hdi : s.heap.get? dx = some od)
    (hx0 : H₀.get? x = none) (hdx0 : H₀.get? dx = none) (hlen : xs.length ≤ 100)
    (hret : ∀ h' tk' t', Grow s.heap h' [] → Q (.int xs.length t') { s with heap := h', toks := tk' }) :
    wpAny (model PW w) (around dp un gd outer) (call (.ref 160) [.ref x] []) Q E s := by
  k_with_none
  w_top off
  k_with "mine:fill" => (have _kf : (PySem.Challenge.rw_wk0041_01, _root_.hd.heap_1) = (PySem.Challenge.rw_wk0041_01, _root_.hd.heap_1) := by (k_fill; rfl))
  k_with "mine:room" => (first | assumption | (simp only [around, Around.deeper, Around.mark, Around.in1, recursionLimit] at *; omega))
  k_with "mine:entercases" => (
    (case ho => k_dflt k_is)
    (case hcd => k_dflt k_is)
    (case hroom => k_extra "mine:room")
    (case hbind => first | exact BindsTo.of_eq rfl | exact binds_K (by k_in) rfl (by k_is) rfl rfl rfl | exact kp_binds (Frag.In.keeps X st) fun _ => rfl)
    (case hkind => exact rfl)
    (case hnd => decide +kernel)
    (case ht => (first | exact List.forall_mem_nil _ | (simp only [List.forall_mem_cons]; simp_all)))
    (case h0 => (first | exact List.forall_mem_nil _ | (simp only [List.forall_mem_cons]; simp_all)))
    (case c1 => exact rfl)
    (case c2 => exact rfl)
    (case c3 => exact rfl))
  k_with "mine:cells" => (
    (first | (k_cells Y') | (have hY := cellsNil Y'; subst hY))
    (try simp only [List.cons_append, List.nil_append, List.append_nil] at N')
    (try dsimp only)
    (try k_fold))
  k_with "mine:go" => (
    (fail_if_success (with_reducible show LCt.CompRestT _ _ _ _ _ _ _ _ _ _ _ _ _ _ _ _ _ _ _ _))
    (fail_if_success (with_reducible show LCg.CompRest _ _ _ _ _ _ _ _ _ _ _ _ _ _ _ _ _ _ _))
    (fail_if_success (with_reducible show ForSrc _ _ _ _ _ _ _ _ _ _ _))
    (first | (k_unfold; (try dsimp only)) | (k_end; wrow_close) | walk1 | (dsimp only; walk1) | (leave1; walk_say "STEP leave1"; try dsimp only) | fail "no step"))
  k_with "mine:same" => exact ⟨_, _, rfl, by assumption, by assumption⟩
  k_with "mine:hdp" => ((try dsimp only [around, Around.deeper]); omega)
  k_with "mine:mapsA" => (repeat' (first | exact List.forall_mem_nil _ | refine List.forall_mem_cons.mpr ⟨by with_unfolding_all rfl, ?_⟩))
  k_with "mine:memS" => ((repeat (first | (with_reducible exact List.mem_cons_self) | refine List.mem_cons_of_mem _ ?_)); done)
  k_with "mine:mapsB" => (
    (intro y hy)
    (try dsimp only)
    (repeat refine (if_neg (hy _ (by k_extra "mine:memS"))).trans ?_)
    (refine Eq.symm ?_)
    (repeat refine (if_neg (hy _ (by k_extra "mine:memS"))).trans ?_)
    rfl)
  k_with "wpAt" => (ks_step "attributeBase Call"; k_here; k_dflt (
    (refine' ks_node ?f1 ?f2 ?f3 ?f4 ?a1 ?a2 ?a3 (show InstAt _ _ (accObj _ _ _) 163 (some _) from ⟨News.get ?n1 (List.Mem.head _), rfl, rfl, News.get ?n2 (List.Mem.tail _ (List.Mem.head _))⟩) ?a4 ?a5 ?a6 ?a7 ?a8 ?a9 ?b1 ?b2 ?b3 ?b4 ?b5 ?b6 ?b7 ?b8 ?_)
    (case f1 => k_asm)
    (case f2 => k_asm)
    (case f3 => k_asm)
    (case f4 => k_asm)
    (case n1 => k_asm)
    (case n2 => k_asm)
    (case a1 => k_is)
    (case a2 => rfl)
    (case a3 => rfl)
    (case a4 => k_is)
    (case a5 => rfl)
    (case a6 => first | rfl | decide +kernel)
    (case a7 => k_is)
    (case a8 => k_is)
    (case a9 => k_is)
    (case b1 => k_is)
    (case b2 => decide)
    (case b3 => rfl)
    (case b4 => rfl)
    (case b5 => rfl)
    (case b6 => rfl)
    (case b7 => decide +kernel)
    (case b8 => first | boot_by_name | rfl | kernel_rfl)
    (intro so' h' F' N' l1)))
  have C0 := C
  obtain ⟨X, T⟩ := C
  have C := C0
  k_extra "mine:fill"
  refine wpAny_call ?_
  refine' enterS [(x, accObj dx xs n), (dx, od)] X st T.nolimit ?ho ?hcd ?hroom ?hbind ?hloc ?ht ?h0 ?_ ?hcell ?c1 ?c2 ?c3
  case ho => k_dflt k_is
  case hcd => k_dflt k_is
  case hroom => k_extra "mine:room"
  case hbind => first | exact BindsTo.of_eq rfl | exact kp_binds (Frag.In.keeps X st) fun _ => rfl
  case hloc => exact locs rfl
  case hcell => decide
  case ht =>
    simp only [List.forall_mem_cons]
    exact ⟨hi, hdi, by simp⟩
  case h0 =>
    simp only [List.forall_mem_cons]
    exact ⟨hx0, hdx0, by simp⟩
  case c1 => exact rfl
  case c2 => exact rfl
  case c3 => exact rfl
  intro g' L' h' eL eg stg X' F' N' l1
  have T' := T.keeps stg
  repeat' k_extra "mine:go"
  rename Fr _ _ _ _ => F9
  rename News _ _ _ _ => N9
  have I9 : InstAt _ x (accObj dx xs n) 163 (some od) := ⟨News.get N9 (by k_mem), rfl, rfl, News.get N9 (by k_mem)⟩
  have hmr : mroIn (hd.heap_1 w.params) 163 (.type "list") = some true := by k_dflt k_is
  refine' sup_K (T := "wrapper_descriptor") (D := 163) F9 X' N9 ?hso I9 ?ho ?hm ?hty ?hg ?hn ?hfree (fun e q => wd_len (by subst e; exact acc_isList (X'.keeps F9.keep) I9 hmr) q) ?_
  case hso => k_mem
  case ho => k_dflt k_is
  case hm => k_dflt ks_is
  case hty => kernel_rfl
  case hg => exact slot_wd_get.lookup
  case hn => decide
  case hfree => rfl
  intro q9 h9 F8 N8 l8
  clear F9 N9
  have hx9 : h9.get? x = some (accObj dx xs n) := News.get N8 (by k_mem)
  refine callWith_B0 (News.get N8 (List.Mem.head _)) (.inr rfl) (wpAny_call (bound_call (News.get N8 (List.Mem.head _)) (.inr rfl) (by decide +kernel) entry_list_len (fun q => ?_) ?_))
  · exact wpAny_of_eq (by kernel_rfl) q
  · refine len_at hx9 ?_
    dsimp only
    repeat' k_extra "mine:go"
    exact hret _ _ _ (grow_back eg F8 N8 (by simp [hi, hdi]))
end
end LAccS
section LMethLS
theorem canon_list_ga : (Manifest.canonical "list.__getattribute__" != "object.__getattribute__") = false := by rw [PySem.W.Fast.canonicalY_eq]; kernel_rfl
section
variable {prog : Program} {w : World} {A : Around} {E : Value → Shared → Prop} {s : Shared} {K : Frag} {x C L : Addr} {h₀ : Heap} {m : Str → Option Value} {ox : Obj} {od : Option Obj} {es : List DictEntry} {n : Nat} {name : Str} {Q : Value × List Value → Shared → Prop} {pl : Sem Bool}
theorem meth_L {f tf : Value} (F : Fr h₀ L s.heap m) (X₀ : K.In h₀) (I : InstAt s.heap x ox C (some (dictOf es n))) (hga : findIn K (.ref C) "__getattribute__" = some (some (.builtin "list.__getattribute__"))) (hk : findIn K (.ref C) "__getattr__" = some none)
    (hf : findIn K (.ref C) name = some (some f)) (ht : typeIn K f = some tf) (htf : (tf != .type "function" && tf != .type "method_descriptor" && tf != .type "wrapper_descriptor") = false) (hl : getL name es = some none) (h : Q (f, [.ref x]) s) :
    wpAny (model prog w) A (getMethod (.ref x) name pl) Q E s := by
  have X := X₀.keeps F.keep
  have hs : shadowIn (some (dictOf es n)) name = some false := by show (lookIn name (dictOf es n)).map _ = _; rw [lookIn_dict, hl]; rfl
  unfold getMethod specialOf
  refine wpAny_bind (wpAny_bind (I.type.here ((looks_findIn X hga).here ?_)))
  dsimp only
  rw [canon_list_ga, if_neg (by decide)]
  refine wpAny_bind (wpAny_bind (I.type.here ((looks_findIn X hk).here ?_)))
  refine wpAny_bind (wpAny_bind (I.type.here ((looks_findIn X hf).here (wpAny_bind ((looks_typeIn X ht).here ?_)))))
  rw [htf, if_neg (by decide)]
  refine wpAny_bind (wpAny_loadPart I.at_ ?_)
  have hd := I.dict
  cases e : ox.dict with
  | none => exact wpAny_bind (wpAny_rule (wpAny_pure h))
  | some dx =>
    rw [e] at hd
    obtain ⟨r, a, b⟩ := Option.map_eq_some_iff.mp hs
    refine wpAny_bind (wpAny_bind (wpAny_loadPart hd ?_))
    rw [nsLook_of a]
    refine wpAny_pure ?_
    rw [b]
    exact wpAny_bind (wpAny_rule (wpAny_pure h))
end
end LMethLS
section LAccBS
section
variable {M : Model} {A : Around} {E : Value → Shared → Prop} {s : Shared}
theorem acc_upd {x dx : Addr} {xs ys : List Value} {n : Nat} {f : Array Value → Array Value} {Q : Unit → Shared → Prop} (hx : s.heap.get? x = some (accObj dx xs n)) (hf : f xs.toArray = ys.toArray) (h1 : xs.length ≤ 1000) (h2 : ys.length ≤ 1000)
    (h : ∀ h' n', Heap.SameBut x s.heap h' → h'.get? x = some (accObj dx ys n') → Q () { s with heap := h' }) : wpAny M A (Builtin.List.listUpdate (.ref x) f) Q E s := by
  have z1 : xs.toArray.size ≤ sizeLine := by rw [List.size_toArray, sizeLine_eq]; omega
  have z2 : (f xs.toArray).size ≤ sizeLine + 1 := by rw [hf, List.size_toArray, sizeLine_eq]; omega
  refine listUpdate_at hx rfl (h _ (if (f xs.toArray).size == xs.toArray.size then n else n + 1) (Heap.SameBut.update _ _ _) ?_) z1 z2
  refine (Heap.get?_update_self _ hx rfl).trans ?_
  have e : ∀ (q : Array Value) k, q = ys.toArray → some ({ cls := .ref 163, dict := some dx, data := .seq q k } : Obj) = some (accObj dx ys k) := fun q k h => by rw [h]
  exact e _ _ hf
theorem init_at {x dx : Addr} {xs : List Value} {n : Nat} {Q : Fin → Shared → Prop} (hx : s.heap.get? x = some (accObj dx xs n)) (h1 : xs.length ≤ 1000)
    (h : ∀ h' n', Heap.SameBut x s.heap h' → h'.get? x = some (accObj dx [] n') → Q (.done (.ret .none)) { s with heap := h' }) : wpAny M A (Builtin.«list.__init__» ⟨[.ref x], []⟩) Q E s := by
  show wpAny _ _ (Builtin.List.listItems (.ref x) >>= fun old => Builtin.List.listUpdate (.ref x) (fun _ => #[]) >>= fun _ => letGo old.toList.reverse >>= fun _ => ret .none) _ _ s
  refine wpAny_bind (listItems_at hx rfl (wpAny_bind (acc_upd (ys := []) hx rfl h1 (by simp) fun h' n' hs hx' => ?_)))
  exact wpAny_bind (wpAny_letGo (wpAny_pure (h h' n' hs hx')))
theorem pop_at {x dx : Addr} {ys : List Value} {v : Value} {n : Nat} {Q : Fin → Shared → Prop} (hx : s.heap.get? x = some (accObj dx (ys ++ [v]) n)) (h1 : (ys ++ [v]).length ≤ 1000)
    (h : ∀ h' n', Heap.SameBut x s.heap h' → h'.get? x = some (accObj dx ys n') → Q (.done (.ret v)) { s with heap := h' }) : wpAny M A (Builtin.«list.pop» ⟨[.ref x], []⟩) Q E s := by
  have h2 : ys.length ≤ 1000 := by simp at h1; omega
  have e1 : (ys ++ [v]).toArray.size = ys.length + 1 := by simp
  unfold Builtin.«list.pop»
  refine wpAny_bind (wpAny_pure (a := (Value.ref x, [])) ?_)
  refine wpAny_bind (wpAny_pure ?_)
  refine wpAny_bind (listItems_at hx rfl ?_)
  dsimp only
  rw [if_neg (by simp)]
  have e2 : (seqIndex? (-1) (ys ++ [v]).toArray.size).bind (fun k => (ys ++ [v]).toArray[k]?.map (k, ·)) = some (ys.length, v) := by
    rw [e1]
    have : seqIndex? (-1) (ys.length + 1) = some ys.length := by
      unfold seqIndex?
      have q : ((-1 : Int) + ((ys.length + 1 : Nat) : Int)) = (ys.length : Int) := by omega
      have q0 : (if (-1 : Int) < 0 then -1 + ((ys.length + 1 : Nat) : Int) else -1) = (ys.length : Int) := by rw [if_pos (by decide), q]
      show (if (decide (0 ≤ (if (-1 : Int) < 0 then -1 + ((ys.length + 1 : Nat) : Int) else -1)) && decide ((if (-1 : Int) < 0 then -1 + ((ys.length + 1 : Nat) : Int) else -1) < ((ys.length + 1 : Nat) : Int))) = true then some (if (-1 : Int) < 0 then -1 + ((ys.length + 1 : Nat) : Int) else -1).toNat else none) = _
      rw [q0, if_pos (by simp; omega), Int.toNat_natCast]
    rw [this]
    simp
  rw [e2]
  refine wpAny_bind (acc_upd (ys := ys) hx (by simp [List.eraseIdx_append_of_length_le]) h1 h2 fun h' n' hs hx' => wpAny_pure (h h' n' hs hx'))
theorem append_at {x dx : Addr} {xs : List Value} {v : Value} {n : Nat} {Q : Fin → Shared → Prop} (hx : s.heap.get? x = some (accObj dx xs n)) (h1 : xs.length + 1 ≤ 1000)
    (h : ∀ h' n', Heap.SameBut x s.heap h' → h'.get? x = some (accObj dx (xs ++ [v]) n') → Q (.done (.ret .none)) { s with heap := h' }) : wpAny M A (Builtin.«list.append» ⟨[.ref x, v], []⟩) Q E s := by
  show wpAny _ _ (Builtin.List.listUpdate (.ref x) (·.push v) >>= fun _ => ret .none) _ _ s
  exact wpAny_bind (acc_upd (ys := xs ++ [v]) hx (by simp) (by omega) (by simp; omega) fun h' n' hs hx' => wpAny_pure (h h' n' hs hx'))
end
section
variable {prog : Program} {w : World} {A : Around} {E : Value → Shared → Prop} {s : Shared}
theorem call_accapp {x dx : Addr} {xs : List Value} {v : Value} {n : Nat} {Q : Value → Shared → Prop} (hx : s.heap.get? x = some (accObj dx xs n)) (h1 : xs.length + 1 ≤ 1000) (hi : Looks (model prog w) s.heap (isInstance (.ref x) (.type "list")) true)
    (h : ∀ h' n', Heap.SameBut x s.heap h' → h'.get? x = some (accObj dx (xs ++ [v]) n') → Q .none { s with heap := h' }) : wpAny (model prog w) A (call (.builtin "list.append") [.ref x, v]) Q E s :=
  wpAny_call (codeAny_call_builtin (by decide +kernel) entry_list_append (kfo_check (n := "append") (by decide +kernel) (by decide +kernel) hi (args_list_append _ _) (append_at hx h1 h)))
end
end LAccBS
section LPushS
section
variable {w : World} {mean : ExcName → Option Value} {mg mb : Str → Option Value} {dp un : Nat} {gd : Option (List Code)} {outer : List Env} {H₀ : Heap} {s : Shared} {Q E : Value → Shared → Prop}
set_option maxHeartbeats 1000000 in
theorem push_spec (C : Cx w mean mg mb H₀) (st : H₀.StaysIn s.heap) (hd1 : dp + 20 < recursionLimit) {x dx : Addr} {hz : Int} {z0 z1 : Tok} {n : Nat} {xs : List Value} {g1 g2 : Str} {tg1 tg2 : Tok}
    (hi : s.heap.get? x = some (accObj dx xs n)) (hdi : s.heap.get? dx = some (accD hz z0 z1))
    (hx0 : H₀.get? x = none) (hdx0 : H₀.get? dx = none) (hlen : xs.length + 1 ≤ 100)
    (hret : ∀ h' tk' a t1 t2 k n', Grow s.heap h' [x] → s.heap.get? a = none → h'.get? a = some { cls := .type "tuple", data := .seq #[.str g1 t1, .str g2 t2] k } → h'.get? x = some (accObj dx (xs ++ [.ref a]) n') → Q .none { s with heap := h', toks := tk' }) :
    wpAny (model PW w) (around dp un gd outer) (call (.ref 107) [.ref x, .str g1 tg1, .str g2 tg2] []) Q E s := by
  k_with_none
  w_top off
  k_with "mine:fill" => (have _kf : (PySem.Challenge.rw_wk0041_01, _root_.hd.heap_1) = (PySem.Challenge.rw_wk0041_01, _root_.hd.heap_1) := by (k_fill; rfl))
  k_with "mine:room" => (first | assumption | (simp only [around, Around.deeper, Around.mark, Around.in1, recursionLimit] at *; omega))
  k_with "mine:entercases" => (
    (case ho => k_dflt k_is)
    (case hcd => k_dflt k_is)
    (case hroom => k_extra "mine:room")
    (case hbind => first | exact BindsTo.of_eq rfl | exact binds_K (by k_in) rfl (by k_is) rfl rfl rfl | exact kp_binds (Frag.In.keeps X st) fun _ => rfl)
    (case hkind => exact rfl)
    (case hnd => decide +kernel)
    (case ht => (first | exact List.forall_mem_nil _ | (simp only [List.forall_mem_cons]; simp_all)))
    (case h0 => (first | exact List.forall_mem_nil _ | (simp only [List.forall_mem_cons]; simp_all)))
    (case c1 => exact rfl)
    (case c2 => exact rfl)
    (case c3 => exact rfl))
  k_with "mine:cells" => (
    (first | (k_cells Y') | (have hY := cellsNil Y'; subst hY))
    (try simp only [List.cons_append, List.nil_append, List.append_nil] at N')
    (try dsimp only)
    (try k_fold))
  k_with "mine:go" => (
    (fail_if_success (with_reducible show LCt.CompRestT _ _ _ _ _ _ _ _ _ _ _ _ _ _ _ _ _ _ _ _))
    (fail_if_success (with_reducible show LCg.CompRest _ _ _ _ _ _ _ _ _ _ _ _ _ _ _ _ _ _ _))
    (fail_if_success (with_reducible show ForSrc _ _ _ _ _ _ _ _ _ _ _))
    (first | (k_unfold; (try dsimp only)) | (k_end; wrow_close) | walk1 | (dsimp only; walk1) | (leave1; walk_say "STEP leave1"; try dsimp only) | fail "no step"))
  k_with "mine:same" => exact ⟨_, _, rfl, by assumption, by assumption⟩
  k_with "mine:hdp" => ((try dsimp only [around, Around.deeper]); omega)
  k_with "mine:mapsA" => (repeat' (first | exact List.forall_mem_nil _ | refine List.forall_mem_cons.mpr ⟨by with_unfolding_all rfl, ?_⟩))
  k_with "mine:memS" => ((repeat (first | (with_reducible exact List.mem_cons_self) | refine List.mem_cons_of_mem _ ?_)); done)
  k_with "mine:mapsB" => (
    (intro y hy)
    (try dsimp only)
    (repeat refine (if_neg (hy _ (by k_extra "mine:memS"))).trans ?_)
    (refine Eq.symm ?_)
    (repeat refine (if_neg (hy _ (by k_extra "mine:memS"))).trans ?_)
    rfl)
  k_with "wpAt" => (ks_step "attributeBase Call"; k_here; k_dflt (
    (refine' ks_node ?f1 ?f2 ?f3 ?f4 ?a1 ?a2 ?a3 (show InstAt _ _ (accObj _ _ _) 163 (some _) from ⟨News.get ?n1 (List.Mem.head _), rfl, rfl, News.get ?n2 (List.Mem.tail _ (List.Mem.head _))⟩) ?a4 ?a5 ?a6 ?a7 ?a8 ?a9 ?b1 ?b2 ?b3 ?b4 ?b5 ?b6 ?b7 ?b8 ?_)
    (case f1 => k_asm)
    (case f2 => k_asm)
    (case f3 => k_asm)
    (case f4 => k_asm)
    (case n1 => k_asm)
    (case n2 => k_asm)
    (case a1 => k_is)
    (case a2 => rfl)
    (case a3 => rfl)
    (case a4 => k_is)
    (case a5 => rfl)
    (case a6 => first | rfl | decide +kernel)
    (case a7 => k_is)
    (case a8 => k_is)
    (case a9 => k_is)
    (case b1 => k_is)
    (case b2 => decide)
    (case b3 => rfl)
    (case b4 => rfl)
    (case b5 => rfl)
    (case b6 => rfl)
    (case b7 => decide +kernel)
    (case b8 => first | boot_by_name | rfl | kernel_rfl)
    (intro so' h' F' N' l1)))
  k_with "m:k_inst" => (refine' of_acc ?N ?h1 ?h2; (case N => k_asm); (case h1 => k_mem); (case h2 => k_mem))
  k_with "getMethod ref" => (k_here; (with_reducible show wpAny _ _ (getMethod (Value.ref _) _ _) _ _ _); k_dflt (refine' meth_L ?k1 ?k2 ?k3 ?k4 ?k5 ?k6 ?k7 ?k8 ?k9 ?_; (case k1 => k_asm); (case k2 => k_asm); (case k3 => k_inst); (case k4 => k_is); (case k5 => k_is); (case k6 => k_is); (case k7 => k_is); (case k8 => rfl); (case k9 => k_get); k_whole))
  k_with "call ref" => (
    (with_reducible show wpAny _ _ (call (Value.ref 160) _ _) _ _ _)
    (with_reducible rename Fr _ _ _ _ => F9)
    (with_reducible rename News _ _ _ _ => N9)
    (with_unfolding_all refine' pc_spec C (fun b o e => F9.keep b o (stg b o e)) ?hdp (News.get N9 ?m1) (News.get N9 ?m2) hx0 hdx0 hlen ?hr)
    (case hdp => k_extra "mine:hdp")
    (case m1 => k_mem)
    (case m2 => k_mem)
    (case' hr => intro h9 tk9 t9 G9)
    (have F9' := fr_grow F9 G9)
    (have N9' := news_grow N9 G9)
    (clear F9 N9 G9))
  have C0 := C
  obtain ⟨X, T⟩ := C
  have C := C0
  k_extra "mine:fill"
  refine' enterK [(x, accObj dx xs n), (dx, accD hz z0 z1)] X st T.nolimit ?ho ?hcd ?hroom ?hbind ?hkind ?hnd ?ht ?h0 ?_ ?c1 ?c2 ?c3
  k_extra "mine:entercases"
  intro g' L' h' tk' cells' eL eg stg X' F' N' Y' l1
  have T' := T.keeps stg
  k_extra "mine:cells"
  repeat' k_extra "mine:go"
  rename Fr _ _ _ _ => F9
  rename News _ _ _ _ => N9
  rename _ < _ ∧ _ < _ => lD
  have I9 := of_acc N9 (List.Mem.tail _ (List.Mem.head _)) (List.Mem.tail _ (List.Mem.tail _ (List.Mem.head _)))
  have hmr : mroIn (hd.heap_1 w.params) 163 (.type "list") = some true := by k_dflt k_is
  refine call_accapp (xs := xs) (n := n) (dx := dx) (N9 _ (List.Mem.tail _ (List.Mem.head _))).1 (by omega) (acc_isList (X'.keeps F9.keep) I9 hmr) fun h6 n6 hs6 hx6 => ?_
  have F6 := F9.update N9 (a := x) (o := accObj dx xs n) (by k_mem) hs6
  have N6 := N9.update (a := x) (o := accObj dx xs n) (by k_mem) hs6 hx6
  have hxd : @Ne Nat x dx := by intro e; subst e; rw [hdi] at hi; cases hi
  simp only [List.map_cons, List.map_nil, if_true, if_neg (Ne.symm hxd), if_neg (Nat.ne_of_gt lD.1)] at N6
  clear F9 N9 I9
  repeat' k_extra "mine:go"
  dsimp only
  refine hret _ _ _ _ _ _ _ (grow_back eg F6 N6 (by simp [hdi])) (fresh_back eg N6 (List.Mem.head _) ?ne) (News.get N6 (List.Mem.head _)) hx6
  case ne =>
    simp only [List.map_cons, List.map_nil, List.mem_cons, List.not_mem_nil, or_false, not_or]
    exact ⟨Nat.ne_of_gt lD.1, Nat.ne_of_gt lD.2⟩
end
end LPushS
section LChkS
open Manifest in
theorem sig_list_pop : Manifest.signature? "list.pop" = some ⟨.positional, "list.pop", "pop", .self, [⟨"index", .posOnly, false⟩]⟩ := by
  rw [signature?_of (id := "list.pop") (n := ['p', 'o', 'p']) (o := ['t', 's', 'i', 'l']) (by kernel_rfl) PySem.F.owner_list]; kernel_rfl
noncomputable def qnIn (K : Frag) (C : Addr) : Bool := (clsIn K C).any fun cd => cd.qualname.toString == "_Accumulator"
section
variable {prog : Program} {w : World} {A : Around} {K : Frag} {C x : Addr} {s : Shared} {ox : Obj} {od : Option Obj} {E : Value → Shared → Prop}
theorem check_pop {Q : Unit → Shared → Prop} (X : K.In s.heap) (I : InstAt s.heap x ox C od) (hm : mroIn K C (.type "module") = some false) (hq : qnIn K C = true) (ht0 : typeIn K (.ref C) = some (.type "type")) (q : Q () s) :
    wpAny (model prog w) A (checkBoundCall "list.pop" ⟨[.ref x], []⟩) Q E s := by
  obtain ⟨cd, hc, hqn⟩ := any_some hq
  have hqn : cd.qualname.toString = "_Accumulator" := beq_iff_eq.mp hqn
  have mo : Looks (model prog w) s.heap (isInstance (.ref x) (.type "module")) false := I.type.andThen (looks_mroIn X hm)
  have ht := I.type (M := model prog w)
  have hk : builtinKind "list.pop" = some .method := by decide +kernel
  have hva : Manifest.varargsMethods.contains "list.pop" = false := by decide +kernel
  have hcd : Looks (model prog w) s.heap (classData C) cd := looks_clsIn X hc
  have nc : ∀ c, ox.data ≠ .cls c := fun c e => by have := I.no; unfold notCls at this; rw [e] at this; cases this
  obtain ⟨hp, g, d, t, os⟩ := s
  unfold checkBoundCall
  rw [sig_list_pop]
  simp only [hk]
  rw [if_neg (by decide)]
  refine wpAny_bind (mo.here ?_)
  rw [hva]
  rw [if_neg (by decide)]
  refine wpAny_bind (wpAny_bind (wpAny_loadPart I.at_ (wpAny_pure ?_)))
  rw [if_neg (by cases e : ox.data <;> first | exact Bool.false_ne_true | exact absurd e (nc _))]
  refine wpAny_bind (ht.here ?_)
  dsimp only
  refine wpAny_bind (hcd.here ?_)
  refine wpAny_bind ((looks_typeIn X ht0).here ?_)
  rw [if_pos (by decide), hqn]
  refine wpAny_of_eq ?_ q
  kernel_rfl
end
end LChkS
section LPopS
section
variable {w : World} {mean : ExcName → Option Value} {mg mb : Str → Option Value} {dp un : Nat} {gd : Option (List Code)} {outer : List Env} {H₀ : Heap} {s : Shared} {Q E : Value → Shared → Prop}
set_option maxHeartbeats 1000000 in
theorem pop_spec (C : Cx w mean mg mb H₀) (st : H₀.StaysIn s.heap) (hd1 : dp + 20 < recursionLimit) {x dx : Addr} {hz : Int} {z0 z1 : Tok} {n : Nat} {xs : List Value}
    (hi : s.heap.get? x = some (accObj dx xs n)) (hdi : s.heap.get? dx = some (accD hz z0 z1))
    (hx0 : H₀.get? x = none) (hdx0 : H₀.get? dx = none) (hlen : xs.length ≤ 100)
    (hret0 : xs = [] → ∀ h' tk' a t1 t2 k, Grow s.heap h' [] → s.heap.get? a = none → h'.get? a = some { cls := .type "tuple", data := .seq #[.str Str.empty t1, .str Str.empty t2] k } → Q (.ref a) { s with heap := h', toks := tk' })
    (hret1 : ∀ ys v, xs = ys ++ [v] → ∀ h' tk' n', Grow s.heap h' [x] → h'.get? x = some (accObj dx ys n') → Q v { s with heap := h', toks := tk' }) :
    wpAny (model PW w) (around dp un gd outer) (call (.ref 123) [.ref x] []) Q E s := by
  k_with_none
  w_top off
  k_with "mine:fill" => (have _kf : (PySem.Challenge.rw_wk0041_01, _root_.hd.heap_1) = (PySem.Challenge.rw_wk0041_01, _root_.hd.heap_1) := by (k_fill; rfl))
  k_with "mine:room" => (first | assumption | (simp only [around, Around.deeper, Around.mark, Around.in1, recursionLimit] at *; omega))
  k_with "mine:entercases" => (
    (case ho => k_dflt k_is)
    (case hcd => k_dflt k_is)
    (case hroom => k_extra "mine:room")
    (case hbind => first | exact BindsTo.of_eq rfl | exact binds_K (by k_in) rfl (by k_is) rfl rfl rfl | exact kp_binds (Frag.In.keeps X st) fun _ => rfl)
    (case hkind => exact rfl)
    (case hnd => decide +kernel)
    (case ht => (first | exact List.forall_mem_nil _ | (simp only [List.forall_mem_cons]; simp_all)))
    (case h0 => (first | exact List.forall_mem_nil _ | (simp only [List.forall_mem_cons]; simp_all)))
    (case c1 => exact rfl)
    (case c2 => exact rfl)
    (case c3 => exact rfl))
  k_with "mine:cells" => (
    (first | (k_cells Y') | (have hY := cellsNil Y'; subst hY))
    (try simp only [List.cons_append, List.nil_append, List.append_nil] at N')
    (try dsimp only)
    (try k_fold))
  k_with "mine:go" => (
    (fail_if_success (with_reducible show LCt.CompRestT _ _ _ _ _ _ _ _ _ _ _ _ _ _ _ _ _ _ _ _))
    (fail_if_success (with_reducible show LCg.CompRest _ _ _ _ _ _ _ _ _ _ _ _ _ _ _ _ _ _ _))
    (fail_if_success (with_reducible show ForSrc _ _ _ _ _ _ _ _ _ _ _))
    (first | (k_unfold; (try dsimp only)) | (k_end; wrow_close) | walk1 | (dsimp only; walk1) | (leave1; walk_say "STEP leave1"; try dsimp only) | fail "no step"))
  k_with "mine:same" => exact ⟨_, _, rfl, by assumption, by assumption⟩
  k_with "mine:hdp" => ((try dsimp only [around, Around.deeper]); omega)
  k_with "mine:mapsA" => (repeat' (first | exact List.forall_mem_nil _ | refine List.forall_mem_cons.mpr ⟨by with_unfolding_all rfl, ?_⟩))
  k_with "mine:memS" => ((repeat (first | (with_reducible exact List.mem_cons_self) | refine List.mem_cons_of_mem _ ?_)); done)
  k_with "mine:mapsB" => (
    (intro y hy)
    (try dsimp only)
    (repeat refine (if_neg (hy _ (by k_extra "mine:memS"))).trans ?_)
    (refine Eq.symm ?_)
    (repeat refine (if_neg (hy _ (by k_extra "mine:memS"))).trans ?_)
    rfl)
  k_with "wpAt" => (ks_step "attributeBase Call"; k_here; k_dflt (
    (refine' ks_node ?f1 ?f2 ?f3 ?f4 ?a1 ?a2 ?a3 (show InstAt _ _ (accObj _ _ _) 163 (some _) from ⟨News.get ?n1 (List.Mem.head _), rfl, rfl, News.get ?n2 (List.Mem.tail _ (List.Mem.head _))⟩) ?a4 ?a5 ?a6 ?a7 ?a8 ?a9 ?b1 ?b2 ?b3 ?b4 ?b5 ?b6 ?b7 ?b8 ?_)
    (case f1 => k_asm)
    (case f2 => k_asm)
    (case f3 => k_asm)
    (case f4 => k_asm)
    (case n1 => k_asm)
    (case n2 => k_asm)
    (case a1 => k_is)
    (case a2 => rfl)
    (case a3 => rfl)
    (case a4 => k_is)
    (case a5 => rfl)
    (case a6 => first | rfl | decide +kernel)
    (case a7 => k_is)
    (case a8 => k_is)
    (case a9 => k_is)
    (case b1 => k_is)
    (case b2 => decide)
    (case b3 => rfl)
    (case b4 => rfl)
    (case b5 => rfl)
    (case b6 => rfl)
    (case b7 => decide +kernel)
    (case b8 => first | boot_by_name | rfl | kernel_rfl)
    (intro so' h' F' N' l1)))
  k_with "m:k_inst" => (refine' of_acc ?N ?h1 ?h2; (case N => k_asm); (case h1 => k_mem); (case h2 => k_mem))
  k_with "getMethod ref" => (k_here; (with_reducible show wpAny _ _ (getMethod (Value.ref _) _ _) _ _ _); k_dflt (refine' meth_L ?k1 ?k2 ?k3 ?k4 ?k5 ?k6 ?k7 ?k8 ?k9 ?_; (case k1 => k_asm); (case k2 => k_asm); (case k3 => k_inst); (case k4 => k_is); (case k5 => k_is); (case k6 => k_is); (case k7 => k_is); (case k8 => rfl); (case k9 => k_get); k_whole))
  k_with "call ref" => (
    (with_reducible show wpAny _ _ (call (Value.ref 160) _ _) _ _ _)
    (with_reducible rename Fr _ _ _ _ => F9)
    (with_reducible rename News _ _ _ _ => N9)
    (with_unfolding_all refine' pc_spec C (fun b o e => F9.keep b o (stg b o e)) ?hdp (News.get N9 ?m1) (News.get N9 ?m2) hx0 hdx0 hlen ?hr)
    (case hdp => k_extra "mine:hdp")
    (case m1 => k_mem)
    (case m2 => k_mem)
    (case' hr => intro h9 tk9 t9 G9)
    (have F9' := fr_grow F9 G9)
    (have N9' := news_grow N9 G9)
    (clear F9 N9 G9))
  have C0 := C
  obtain ⟨X, T⟩ := C
  have C := C0
  k_extra "mine:fill"
  refine wpAny_call ?_
  refine' enterS [(x, accObj dx xs n), (dx, accD hz z0 z1)] X st T.nolimit ?ho ?hcd ?hroom ?hbind ?hloc ?ht ?h0 ?_ ?hcell ?c1 ?c2 ?c3
  case ho => k_dflt k_is
  case hcd => k_dflt k_is
  case hroom => k_extra "mine:room"
  case hbind => first | exact BindsTo.of_eq rfl | exact kp_binds (Frag.In.keeps X st) fun _ => rfl
  case hloc => exact locs rfl
  case hcell => decide
  case ht =>
    simp only [List.forall_mem_cons]
    exact ⟨hi, hdi, by simp⟩
  case h0 =>
    simp only [List.forall_mem_cons]
    exact ⟨hx0, hdx0, by simp⟩
  case c1 => exact rfl
  case c2 => exact rfl
  case c3 => exact rfl
  intro g' L' h' eL eg stg X' F' N' l1
  have T' := T.keeps stg
  have hxd : @Ne Nat x dx := by intro e; subst e; rw [hdi] at hi; cases hi
  refine ks_wpAt_execs_cons ?_
  refine wpAt_of_wpAny ?_
  repeat' ((fail_if_success (with_reducible show _root_.PySem.wpAt _ _ _ _ _ _ _)); k_extra "mine:go")
  · rename Fr _ _ _ _ => F9
    rename News _ _ _ _ => N9
    rename _ < _ ∧ _ < _ => lD
    have hnil : xs = [] := List.length_eq_zero_iff.mp (by omega)
    refine hret0 hnil _ _ _ _ _ _ (grow_back eg F9 N9 (by simp [hi, hdi])) (fresh_back eg N9 (List.Mem.head _) ?ne) (News.get N9 (List.Mem.head _))
    case ne =>
      simp only [List.map_cons, List.map_nil, List.mem_cons, List.not_mem_nil, or_false, not_or]
      exact ⟨Nat.ne_of_gt lD.1, Nat.ne_of_gt lD.2⟩
  · refine ks_wpAt_execs_cons ?_
    refine ks_wpAt_Return_some ?_
    refine ks_wpAt_MethodCall ?_
    k_extra "mine:go"
    rename Fr _ _ _ _ => F9
    rename News _ _ _ _ => N9
    have I9 := of_acc N9 (List.Mem.tail _ (List.Mem.head _)) (List.Mem.tail _ (List.Mem.tail _ (List.Mem.head _)))
    have hmr : mroIn (hd.heap_1 w.params) 163 (.type "list") = some true := by k_dflt k_is
    refine' sup_K (T := "method_descriptor") (D := 163) F9 X' N9 ?hso I9 ?ho ?hm ?hty ?hg ?hn ?hfree (fun e q => md_pop (by subst e; exact acc_isList (X'.keeps F9.keep) I9 hmr) q) ?_
    case hso => k_mem
    case ho => k_dflt k_is
    case hm => k_dflt ks_is
    case hty => kernel_rfl
    case hg => exact slot_md_get.lookup
    case hn => decide
    case hfree => rfl
    intro q9 h9 F7 N7 l7
    clear F9 N9 I9
    obtain ⟨ys, v, rfl⟩ : ∃ ys v, xs = ys ++ [v] := by
      rcases List.eq_nil_or_concat xs with e | ⟨ys, v, e⟩
      · subst e; exact absurd rfl (by assumption)
      · exact ⟨ys, v, by simpa using e⟩
    refine callWith_B0 (News.get N7 (List.Mem.head _)) (.inl rfl) (wpAny_call (bound_call (News.get N7 (List.Mem.head _)) (.inl rfl) (by decide +kernel) PySem.F.entry_list_pop (fun q => ?_) ?_))
    · exact check_pop (X'.keeps F7.keep) (of_acc N7 (List.Mem.tail _ (List.Mem.tail _ (List.Mem.head _))) (List.Mem.tail _ (List.Mem.tail _ (List.Mem.tail _ (List.Mem.head _))))) (by k_dflt k_is) (by kernel_rfl) (by k_dflt k_is) q
    · refine pop_at (News.get N7 (List.Mem.tail _ (List.Mem.tail _ (List.Mem.head _)))) (by omega) fun h6 n6 hs6 hx6 => ?_
      have F6 := F7.update N7 (a := x) (o := accObj dx (ys ++ [v]) n) (by k_mem) hs6
      have N6 := N7.update (a := x) (o := accObj dx (ys ++ [v]) n) (by k_mem) hs6 hx6
      dsimp only
      repeat' k_extra "mine:go"
      exact hret1 ys v rfl _ _ _ (grow_back eg F6 N6 (by simp [hdi, Ne.symm hxd])) hx6
end
end LPopS
section LHoldsS
section
open PyProof.V PySem.SeqAt
noncomputable def rk (x : Str) : Nat := [Str.ofString "0x100000", Str.ofString "0x100000000", Str.ofString "NEWLOCALS", Str.ofString "OPTIMIZED", Str.ofString "VARARGS", Str.ofString "VARKEYWORDS"].idxOf x
theorem rk_le : ∀ x ∈ W6, ∀ y ∈ W6, (!ltCps y.cps.toList x.cps.toList) = true → rk x ≤ rk y := by decide +kernel
theorem rk_inj : ∀ x ∈ W6, ∀ y ∈ W6, rk x = rk y → x = y := by decide +kernel
theorem ok_W6 : ∀ x ∈ W6, PyData.strOk x = true := by decide +kernel
theorem rising_pw : ∀ (l : List Str) (p : Str), p ∈ W6 → (∀ x ∈ l, x ∈ W6) → risingS p l = true → (∀ y ∈ l, rk p ≤ rk y) ∧ l.Pairwise fun x y => rk x ≤ rk y
  | [], _, _, _, _ => ⟨by simp, .nil⟩
  | x :: r, p, hp, hl, h => by
    rw [risingS, Bool.and_eq_true] at h
    have hx := hl x (by simp)
    obtain ⟨a, b⟩ := rising_pw r x hx (fun y hy => hl y (by simp [hy])) h.2
    have c := rk_le p hp x hx h.1
    refine ⟨fun y hy => ?_, .cons a b⟩
    rcases List.mem_cons.mp hy with rfl | hy
    · exact c
    · exact Nat.le_trans c (a y hy)
theorem sortedS_pw {l : List Str} (hl : ∀ x ∈ l, x ∈ W6) (h : sortedS l = true) : l.Pairwise fun x y => rk x ≤ rk y := by
  rcases l with _ | ⟨x, r⟩
  · exact .nil
  · obtain ⟨a, b⟩ := rising_pw r x (hl x (by simp)) (fun y hy => hl y (by simp [hy])) h
    exact .cons a b
theorem sorted_eq {a b : List Str} (ha : ∀ x ∈ a, x ∈ W6) (hab : a.Perm b) (sa : sortedS a = true) (sb : sortedS b = true) : a = b :=
  hab.eq_of_pairwise (fun x y hx hy h1 h2 => rk_inj x (ha x hx) y (ha y (hab.mem_iff.mpr hy)) (Nat.le_antisymm h1 h2)) (sortedS_pw ha sa) (sortedS_pw (fun x hx => ha x (hab.mem_iff.mpr hx)) sb)
theorem shaped_strs {ss : List Str} (h : ∀ x ∈ ss, x ∈ W6) : shaped (.list (ss.map .str)) = true := by
  show (PyData.canLay0 (.list (ss.map .str)) && decide (PyData.depth (.list (ss.map .str)) ≤ 64)) = true
  rw [Bool.and_eq_true]
  constructor
  · simp only [PyData.canLay0, canLayAll_strs']
    exact List.all_eq_true.mpr fun x hx => ok_W6 x (h x hx)
  · simp only [PyData.depth, depthAll_strs']; decide
theorem same_strs : ∀ ss : List Str, PySem.Spec.sameAll (ss.map PyData.str) (ss.map PyData.str) = true
  | [] => by simp [PySem.Spec.sameAll]
  | x :: r => by simp [PySem.Spec.sameAll, PySem.Spec.same, same_strs r]
theorem noMix_strs : ∀ ss : List Str, noMixAll (ss.map PyData.str) (ss.map PyData.str) = true
  | [] => by simp [noMixAll]
  | x :: r => by simp [noMixAll, noMix, noMix_strs r]
theorem noMix_list (ss : List Str) : noMix (.list (ss.map PyData.str)) (.list (ss.map PyData.str)) = true := by simp only [noMix]; exact noMix_strs ss
theorem reads_strs {h : Heap} {a : Addr} {vs : List Value} {ss : List Str} (hl : h.IsList a vs.toArray) (hi : StrsAre vs ss) : Reads h (.ref a) (.list (ss.map PyData.str)) [a] := by
  obtain ⟨o, ho, hc, n, hd⟩ := hl
  exact Reads.list ho hc hd (by simpa using StrsAre.reads h hi)
theorem words_W6 : ∀ mk ∈ List.range 16, ∀ x ∈ wordsOf (mk : Int), x ∈ W6 := by decide +kernel
end
section
variable {w : World} {mean : ExcName → Option Value} {mg mb : Str → Option Value} {dp un : Nat} {gd : Option (List Code)} {outer : List Env} {H₀ : Heap} {s : Shared} {Q E : Value → Shared → Prop}
theorem holds_spec (C : Cx w mean mg mb H₀) (st : H₀.StaysIn s.heap) (hd1 : dp + 60 < recursionLimit) (hun : un + 200 < cLine) {d dx hl : Addr} {hh : Int} {t0 tm : Tok} {n : Nat} {refs : List Value} {ps : List (Str × Str)} {mk : Int}
    (hi : s.heap.get? d = some (instObj 300 dx)) (hdi : s.heap.get? dx = some (dictOf [⟨hh, .str (Str.ofString "_headers") t0, .ref hl⟩] 1)) (hls : s.heap.get? hl = some (W.listOf refs.toArray n)) (htp : TupsAre s.heap refs ps)
    (hd0 : H₀.get? d = none) (hdx0 : H₀.get? dx = none) (hl0 : H₀.get? hl = none) (hlen30 : refs.length ≤ 30) (hr0 : ∀ a, Value.ref a ∈ refs → H₀.get? a = none) (hm : 0 ≤ mk ∧ mk < 16)
    (hperm : (ps.map (·.1)).Perm ([Str.ofString "0x100000", Str.ofString "0x100000000"] ++ wordsOf mk))
    (hret : ∀ h' tk', Grow s.heap h' [] → Q (.bool true) { s with heap := h', toks := tk' }) :
    wpAny (model PW w) (around dp un gd outer) (call (.ref 347) [.ref d, .int mk tm] []) Q E s := by
  k_with_none
  w_top off
  k_with "mine:fill" => (have _kf : (PySem.Challenge.rw_wk0041_01, _root_.hd.heap_1) = (PySem.Challenge.rw_wk0041_01, _root_.hd.heap_1) := by (k_fill; rfl))
  k_with "mine:room" => (first | assumption | (simp only [around, Around.deeper, Around.mark, Around.in1, recursionLimit] at *; omega))
  k_with "mine:entercases" => (
    (case ho => k_dflt k_is)
    (case hcd => k_dflt k_is)
    (case hroom => k_extra "mine:room")
    (case hbind => first | exact BindsTo.of_eq rfl | exact binds_K (by k_in) rfl (by k_is) rfl rfl rfl | exact kp_binds (Frag.In.keeps X st) fun _ => rfl)
    (case hkind => exact rfl)
    (case hnd => decide +kernel)
    (case ht => (first | exact List.forall_mem_nil _ | (simp only [List.forall_mem_cons]; simp_all)))
    (case h0 => (first | exact List.forall_mem_nil _ | (simp only [List.forall_mem_cons]; simp_all)))
    (case c1 => exact rfl)
    (case c2 => exact rfl)
    (case c3 => exact rfl))
  k_with "mine:cells" => (
    (first | (k_cells Y') | (have hY := cellsNil Y'; subst hY))
    (try simp only [List.cons_append, List.nil_append, List.append_nil] at N')
    (try dsimp only)
    (try k_fold))
  k_with "mine:go" => (
    (fail_if_success (with_reducible show LCt.CompRestT _ _ _ _ _ _ _ _ _ _ _ _ _ _ _ _ _ _ _ _))
    (fail_if_success (with_reducible show LCg.CompRest _ _ _ _ _ _ _ _ _ _ _ _ _ _ _ _ _ _ _))
    (fail_if_success (with_reducible show ForSrc _ _ _ _ _ _ _ _ _ _ _))
    (first | (k_unfold; (try dsimp only)) | (k_end; wrow_close) | walk1 | (dsimp only; walk1) | (leave1; walk_say "STEP leave1"; try dsimp only) | fail "no step"))
  k_with "mine:same" => exact ⟨_, _, rfl, by assumption, by assumption⟩
  k_with "mine:hdp" => ((try dsimp only [around, Around.deeper]); omega)
  k_with "mine:mapsA" => (repeat' (first | exact List.forall_mem_nil _ | refine List.forall_mem_cons.mpr ⟨by with_unfolding_all rfl, ?_⟩))
  k_with "mine:memS" => ((repeat (first | (with_reducible exact List.mem_cons_self) | refine List.mem_cons_of_mem _ ?_)); done)
  k_with "mine:mapsB" => (
    (intro y hy)
    (try dsimp only)
    (repeat refine (if_neg (hy _ (by k_extra "mine:memS"))).trans ?_)
    (refine Eq.symm ?_)
    (repeat refine (if_neg (hy _ (by k_extra "mine:memS"))).trans ?_)
    rfl)
  k_with "call ref" => (
    (with_reducible show wpAny _ _ (call (Value.ref 316) _ _) _ _ _)
    (with_reducible rename Fr _ _ _ _ => F9)
    (with_reducible rename News _ _ _ _ => N9)
    (with_unfolding_all refine words_spec C (fun b o e => F9.keep b o (stg b o e)) ?hdp hm ?_)
    (case hdp => k_extra "mine:hdp")
    (intro lw h9 tk9 vw G9 n9 e9 hSw)
    (have F9' := fr_grow F9 G9)
    (have hlw := news_ne N9 n9)
    (have N9' := news_fresh F9 N9 G9 n9 e9)
    (clear F9 N9 G9 n9 e9))
  k_with "call ref" => (
    (with_reducible show wpAny _ _ (call (Value.ref 252) _ _) _ _ _)
    (with_reducible rename Fr _ _ _ _ => F9)
    (with_reducible rename News _ _ _ _ => N9)
    (with_unfolding_all refine' keys_spec C (fun b o e => F9.keep b o (stg b o e)) ?hdp (News.get N9 ?m1) (News.get N9 ?m2) (F9.keep _ _ hlg) (TupsAre.keeps htg fun b o e _ => F9.keep b o e) hd0 hdx0 hl0 hlen hr0 ?r1)
    (case hdp => k_extra "mine:hdp")
    (case m1 => k_mem)
    (case m2 => k_mem)
    (case' r1 =>
      intro h9 tk9 lk vk G9 n9 e9 hSk
      have F9' := fr_grow F9 G9
      have N9' := news_fresh F9 N9 G9 n9 e9
      clear F9 N9 G9 n9 e9))
  have C0 := C
  obtain ⟨X, T⟩ := C
  have C := C0
  k_extra "mine:fill"
  refine' enterK [(d, instObj 300 dx), (dx, dictOf [⟨hh, .str (Str.ofString "_headers") t0, .ref hl⟩] 1)] X st T.nolimit ?ho ?hcd ?hroom ?hbind ?hkind ?hnd ?ht ?h0 ?_ ?c1 ?c2 ?c3
  k_extra "mine:entercases"
  intro g' L' h' tk' cells' eL eg stg X' F' N' Y' l1
  have T' := T.keeps stg
  k_extra "mine:cells"
  clear Y'
  replace F' : Fr g' L' h' (fun y => if y = Str.ofString "mask" then some (.int mk tm) else if y = Str.ofString "desk" then some (.ref d) else none) := by with_unfolding_all exact F'
  have nd : ∀ b o, s.heap.get? b = some o → b ≠ d → b ≠ dx → g'.get? b = some o := fun b o e h1 h2 => eg ▸ hideAll_get _ e (by simp [h1, h2])
  have hl1 : @Ne Nat hl d := by intro e; subst e; rw [hls] at hi; cases hi
  have hl2 : @Ne Nat hl dx := by intro e; subst e; rw [hls] at hdi; exact absurd (congrArg Obj.cls (Option.some.inj hdi)) (by show ¬ (Value.type "list" = Value.type "dict"); decide)
  have hlg := nd _ _ hls hl1 hl2
  have htg : TupsAre g' refs ps := htp.keeps fun b o e hc => nd b o e (by intro q; subst q; rw [hi] at e; cases e; cases hc) (by intro q; subst q; rw [hdi] at e; cases e; exact absurd hc (by show ¬ (Value.type "dict" = Value.type "tuple"); decide))
  have hlen : refs.length ≤ 100 := by omega
  repeat' k_extra "mine:go"
  rename Fr _ _ _ _ => F9
  rename News _ _ _ _ => N9
  have hvk : vk.length < 64 := by
    have h1 := strs_length hSk
    rw [List.length_map, ← htp.length] at h1
    rw [h1]; omega
  with_unfolding_all refine sorted_N_str F9 N9 (News.isList N9 (List.Mem.head _)) hSk hvk fun h8 v8 s8 e8 F8 N8 hS8 hP8 hO8 => ?_
  clear F9 N9
  repeat' k_extra "mine:go"
  rename Fr _ _ _ _ => F9
  rename News _ _ _ ((lw, _) :: (_, W.listOf _ _) :: _) => N9
  have hwl : vw.length ≤ 4 := by rw [strs_length hSw]; exact wordsOf_len mk
  with_unfolding_all refine add_lists (ws := vw) F9 N9 (News.isList N9 (List.Mem.tail _ (List.Mem.head _))) (News.isList N9 (List.Mem.head _)) (fun h7 F7 N7 => ?_) ?hsz7
  case hsz7 => rw [sizeLine_eq]; show 2 + vw.length ≤ _; omega
  clear F9 N9
  k_extra "mine:go"
  with_unfolding_all refine sorted_N_str F7 N7 (News.isList N7 (List.Mem.head _)) (.cons _ _ (.cons _ _ hSw)) ?h64 fun h6 v6 s6 e6 F6 N6 hS6 hP6 hO6 => ?_
  case h64 => simp only [List.length_append, List.length_cons, List.length_nil]; omega
  clear F7 N7
  have h8W : ∀ x ∈ s8, x ∈ W6 := fun x hx => by
    have := hperm.mem_iff.mp (hP8.mem_iff.mp hx)
    rcases List.mem_append.mp this with h | h
    · simp only [List.mem_cons, List.not_mem_nil, or_false] at h
      rcases h with rfl | rfl <;> decide +kernel
    · exact words_W6 mk.toNat (List.mem_range.mpr (by omega)) x (by rw [Int.toNat_of_nonneg hm.1]; exact h)
  have he : s8 = s6 := sorted_eq h8W (hP8.trans (hperm.trans hP6.symm)) hO8 hO6
  subst he
  have hL6 := News.isList N6 (List.Mem.head _)
  have hL8 := News.isList N6 (List.Mem.tail _ (List.Mem.tail _ (List.Mem.tail _ (List.Mem.tail _ (List.Mem.head _)))))
  refine eq_dataH_same (reads_strs hL8 hS8) (reads_strs hL6 hS6) (shaped_strs h8W) (shaped_strs h8W) (by units_room) (noMix_list _) ?_
  rw [show PySem.Spec.same (.list (s8.map PyData.str)) (.list (s8.map PyData.str)) = true by simp only [PySem.Spec.same]; exact same_strs s8]
  repeat' k_extra "mine:go"
  exact hret _ _ (grow_back eg F6 N6 (by simp [hi, hdi]))
end
end LHoldsS
section LUndoneS
noncomputable def W4 : List Str := [Str.ofString "OPTIMIZED", Str.ofString "NEWLOCALS", Str.ofString "VARARGS", Str.ofString "VARKEYWORDS"]
noncomputable def W5 : List Str := Str.empty :: W4
theorem W5_ok : ∀ x ∈ W5, PyData.strOk x = true := by decide +kernel
theorem W5_low : ∀ x ∈ W5, x ≠ Str.empty → low x ∈ W10 ∧ x ∈ W6 ∧ x ∈ W10 := by decide +kernel
/-- tuples that a list holds: they live in the old heap or in the ledger's tail -/
noncomputable def TupsIn (g : Heap) (own : List (Addr × Obj)) (refs : List Value) (ps : List (Str × Str)) : Prop := ∀ h, (∀ b o, g.get? b = some o → h.get? b = some o) → (∀ p ∈ own, h.get? p.1 = some p.2) → TupsAre h refs ps
theorem TupsIn.up {g : Heap} {own own' : List (Addr × Obj)} {refs : List Value} {ps : List (Str × Str)} (T : TupsIn g own refs ps) (h : ∀ p ∈ own, p ∈ own') : TupsIn g own' refs ps := fun k a b => T k a fun p hp => b p (h p hp)
theorem TupsIn.old {g : Heap} {own : List (Addr × Obj)} {refs : List Value} {ps : List (Str × Str)} (T : TupsAre g refs ps) : TupsIn g own refs ps := fun k a _ => T.keeps fun b o e _ => a b o e
theorem TupsIn.here {g h : Heap} {L : Addr} {m : Str → Option Value} {own news : List (Addr × Obj)} {refs : List Value} {ps : List (Str × Str)} (T : TupsIn g own refs ps) (F : Fr g L h m) (N : News g L h news) (hs : ∀ p ∈ own, p ∈ news) : TupsAre h refs ps := T h F.keep fun p hp => (N p (hs p hp)).1
theorem news_put {g h h' : Heap} {L a : Addr} {o o' : Obj} {pre post : List (Addr × Obj)} (N : News g L h (pre ++ (a, o) :: post)) (G : Grow h h' [a]) (ho : h'.get? a = some o') (hp : ∀ p ∈ pre, p.1 ≠ a) (hq : ∀ p ∈ post, p.1 ≠ a) : News g L h' (pre ++ (a, o') :: post) := fun q hq' => by
  rcases List.mem_append.mp hq' with e | e
  · exact ⟨G _ _ (N q (List.mem_append_left _ e)).1 (by simpa using hp q e), (N q (List.mem_append_left _ e)).2⟩
  · rcases List.mem_cons.mp e with e | e
    · subst e
      exact ⟨ho, (N (a, o) (by simp)).2⟩
    · exact ⟨G _ _ (N q (by simp [e])).1 (by simpa using hq q e), (N q (by simp [e])).2⟩
theorem bne_f {x : Str} (h : (x != Str.ofString "") = false) : x = Str.empty := by
  have : x = Str.ofString "" := by simpa using h
  exact this
noncomputable def undo1 (ps : List (Str × Str)) (g : Str × Str) : List (Str × Str) :=
  let ps1 := if g.2 ≠ Str.empty then delP ps (low g.2) else ps
  if g.1 ≠ Str.empty then setP ps1 g.1 (Str.ofString "in") else ps1
theorem undo1_yx {ps : List (Str × Str)} {gx gy : Str} (hy : gy ≠ Str.empty) (hx : gx ≠ Str.empty) : undo1 ps (gx, gy) = setP (delP ps (low gy)) gx (Str.ofString "in") := by simp [undo1, hx, hy]
theorem undo1_y {ps : List (Str × Str)} {gx gy : Str} (hy : gy ≠ Str.empty) (hx : gx = Str.empty) : undo1 ps (gx, gy) = delP ps (low gy) := by simp [undo1, hx, hy]
theorem undo1_x {ps : List (Str × Str)} {gx gy : Str} (hy : gy = Str.empty) (hx : gx ≠ Str.empty) : undo1 ps (gx, gy) = setP ps gx (Str.ofString "in") := by simp [undo1, hx, hy]
section
variable {w : World} {mean : ExcName → Option Value} {mg mb : Str → Option Value} {dp un : Nat} {gd : Option (List Code)} {outer : List Env} {H₀ : Heap} {s : Shared} {Q E : Value → Shared → Prop}
theorem undone_spec (C : Cx w mean mg mb H₀) (st : H₀.StaysIn s.heap) (hd1 : dp + 60 < recursionLimit) (hun : un + 200 < cLine) {d dx hl x px : Addr} {hh hz : Int} {t0 z0 z1 : Tok} {n m : Nat} {refs xs : List Value} {ps gs : List (Str × Str)}
    (hi : s.heap.get? d = some (instObj 300 dx)) (hdi : s.heap.get? dx = some (dictOf [⟨hh, .str (Str.ofString "_headers") t0, .ref hl⟩] 1)) (hls : s.heap.get? hl = some (W.listOf refs.toArray n)) (htp : TupsAre s.heap refs ps)
    (hxi : s.heap.get? x = some (accObj px xs m)) (hpx : s.heap.get? px = some (accD hz z0 z1)) (hxt : TupsAre s.heap xs gs)
    (hd0 : H₀.get? d = none) (hdx0 : H₀.get? dx = none) (hl0 : H₀.get? hl = none) (hx0 : H₀.get? x = none) (hpx0 : H₀.get? px = none) (hlen : refs.length ≤ 40) (hr0 : ∀ a, Value.ref a ∈ refs → H₀.get? a = none) (hps : ∀ p ∈ ps, p.1 ∈ W10)
    (hgl : gs.length ≤ 16) (hgs : ∀ g ∈ gs, g.1 ∈ W5 ∧ g.2 ∈ W5 ∧ g ≠ (Str.empty, Str.empty))
    (hret : ∀ h' tk' l vs k refs' n', Grow s.heap h' [hl, x] → s.heap.get? l = none → h'.get? l = some (W.listOf (List.toArray vs) k) → StrsAre vs (gs.reverse.map (·.1)) → h'.get? hl = some (W.listOf (List.toArray refs') n') → TupsAre h' refs' (gs.reverse.foldl undo1 ps) → refs'.length ≤ 60 → (∀ a, Value.ref a ∈ refs' → H₀.get? a = none) → Q (.ref l) { s with heap := h', toks := tk' }) :
    wpAny (model PW w) (around dp un gd outer) (call (.ref 354) [.ref d, .ref x] []) Q E s := by
  k_with_none
  w_top off
  k_with "mine:fill" => (have _kf : (PySem.Challenge.rw_wk0041_01, _root_.hd.heap_1) = (PySem.Challenge.rw_wk0041_01, _root_.hd.heap_1) := by (k_fill; rfl))
  k_with "mine:room" => (first | assumption | (simp only [around, Around.deeper, Around.mark, Around.in1, recursionLimit] at *; omega))
  k_with "mine:entercases" => (
    (case ho => k_dflt k_is)
    (case hcd => k_dflt k_is)
    (case hroom => k_extra "mine:room")
    (case hbind => first | exact BindsTo.of_eq rfl | exact binds_K (by k_in) rfl (by k_is) rfl rfl rfl | exact kp_binds (Frag.In.keeps X st) fun _ => rfl)
    (case hkind => exact rfl)
    (case hnd => decide +kernel)
    (case ht => (first | exact List.forall_mem_nil _ | (simp only [List.forall_mem_cons]; simp_all)))
    (case h0 => (first | exact List.forall_mem_nil _ | (simp only [List.forall_mem_cons]; simp_all)))
    (case c1 => exact rfl)
    (case c2 => exact rfl)
    (case c3 => exact rfl))
  k_with "mine:cells" => (
    (first | (k_cells Y') | (have hY := cellsNil Y'; subst hY))
    (try simp only [List.cons_append, List.nil_append, List.append_nil] at N')
    (try dsimp only)
    (try k_fold))
  k_with "mine:go" => (
    (fail_if_success (with_reducible show LCt.CompRestT _ _ _ _ _ _ _ _ _ _ _ _ _ _ _ _ _ _ _ _))
    (fail_if_success (with_reducible show LCg.CompRest _ _ _ _ _ _ _ _ _ _ _ _ _ _ _ _ _ _ _))
    (fail_if_success (with_reducible show ForSrc _ _ _ _ _ _ _ _ _ _ _))
    (first | (k_unfold; (try dsimp only)) | (k_end; wrow_close) | walk1 | (dsimp only; walk1) | (leave1; walk_say "STEP leave1"; try dsimp only) | fail "no step"))
  k_with "mine:same" => exact ⟨_, _, rfl, by assumption, by assumption⟩
  k_with "mine:hdp" => ((try dsimp only [around, Around.deeper]); omega)
  k_with "mine:mapsA" => (repeat' (first | exact List.forall_mem_nil _ | refine List.forall_mem_cons.mpr ⟨by with_unfolding_all rfl, ?_⟩))
  k_with "mine:memS" => ((repeat (first | (with_reducible exact List.mem_cons_self) | refine List.mem_cons_of_mem _ ?_)); done)
  k_with "mine:mapsB" => (
    (intro y hy)
    (try dsimp only)
    (repeat refine (if_neg (hy _ (by k_extra "mine:memS"))).trans ?_)
    (refine Eq.symm ?_)
    (repeat refine (if_neg (hy _ (by k_extra "mine:memS"))).trans ?_)
    rfl)
  k_with "mine:tmap" => (
    (refine maps_eq [Str.ofString "turn", Str.ofString "goes", Str.ofString "comes"] ?_ ?_)
    · k_extra "mine:mapsA"
    · k_extra "mine:mapsB")
  k_with "exec For" => (with_unfolding_all refine For_src ?_ (by intro _; rfl))
  k_with "exec For Name Call cons nil" => (with_unfolding_all refine For_src ?_ (by intro _; rfl))
  k_with "m:k_inst" => (refine' of_acc ?N ?h1 ?h2; (case N => k_asm); (case h1 => k_mem); (case h2 => k_mem))
  k_with "getMethod ref" => (k_here; (with_reducible show wpAny _ _ (getMethod (Value.ref _) _ _) _ _ _); k_dflt (refine' meth_L ?k1 ?k2 ?k3 ?k4 ?k5 ?k6 ?k7 ?k8 ?k9 ?_; (case k1 => k_asm); (case k2 => k_asm); (case k3 => k_inst); (case k4 => k_is); (case k5 => k_is); (case k6 => k_is); (case k7 => k_is); (case k8 => rfl); (case k9 => k_get); k_whole))
  k_with "call builtin:str.lower" => (
    (with_reducible rename Fr _ _ _ _ => F9)
    (with_unfolding_all refine low_is ?hx _ _ _ _ _ _ _ _ _ (Frag.In.keeps X' F9.keep) ?_)
    (case hx => first | assumption | exact (hgy (bne_iff_ne.mp (by assumption))).2.2)
    (intro t9 k9))
  k_with "delItem ref str" => (k_here; (with_reducible show wpAny _ _ (delItem (Value.ref _) _) _ _ _); k_dflt (refine' del_own ?F ?X ?I ?hQ ?hS ?hF ?_; (case F => k_asm); (case X => k_asm); (case I => k_inst); (case hS => k_is); (case hF => k_is); (case hQ => k_is); k_whole))
  k_with "mine:fin213" => (
    (with_reducible rename Fr _ _ _ _ => F9)
    (with_reducible rename News _ _ _ ((_, _) :: (_, W.listOf _ _) :: _) => N9)
    (have hx1 := bne_iff_ne.mp hxb)
    (refine' set_spec C (fun b o e => F9.keep b o (stg b o e)) ?_ (News.get N9 (by k_mem)) (News.get N9 (by k_mem)) (News.get N9 (by k_mem)) ((ht2).here F9 N9 fun p hp => by simp [hp]) hd0 hdx0 hl0 (hgx hx1).2.1 hpi2 (by omega) rfl ?_)
    · k_extra "mine:hdp"
    (intro h8 tk8 a8 u1 u2 k8 rs8 nn8 G8 htr8 hrl8 hsub8 hn8 ha8 hl8
     have F8 := fr_set F9 N9 G8 (a := hl) (by k_mem)
     have N8 := news_put (pre := [(I, oI), (l6, _), (d, _), (dx, _)]) N9 G8 hl8 (by
        simp only [List.forall_mem_cons]
        exact ⟨Ne.symm (off' (hl, _) (by k_mem)), Ne.symm (Nat.ne_of_lt lo6.2.2.1), n2, n5, by simp⟩) (by
        simp only [List.forall_mem_cons]
        exact ⟨Ne.symm n7, Ne.symm n8, hoh⟩)
     have hnI := news_ne N9 hn8 (I, oI) (List.Mem.head _)
     have N7 := show News _ _ _ ((I, oI) :: (l6, _) :: (d, _) :: (dx, _) :: (hl, _) :: (x, _) :: (px, _) :: (a8, tupO gx (Str.ofString "in") u1 u2 k8) :: own) from fun q hq => by
        by_cases e : q = (a8, tupO gx (Str.ofString "in") u1 u2 k8)
        · subst e
          exact ⟨ha8, fun e => frame_ne F9 hn8 e.symm, nold F9.keep hn8⟩
        · refine N8 q ?_
          simp only [List.mem_cons, e, false_or] at hq
          simpa only [List.cons_append, List.nil_append, List.mem_cons] using hq
     have ti8 := show TupsIn _ ((a8, tupO gx (Str.ofString "in") u1 u2 k8) :: own) (rs8 ++ [.ref a8]) (setP ps2 gx (Str.ofString "in")) from fun k a b => (htr8 _ (ht2 k a fun p hp => b p (List.mem_cons_of_mem _ hp))).snoc (b _ (List.Mem.head _))
     have rl8 := show (rs8 ++ [Value.ref a8]).length ≤ 40 + (i + 1) from by rw [List.length_append, List.length_singleton]; omega
     have rf8 := show ∀ a, Value.ref a ∈ rs8 ++ [Value.ref a8] → H₀.get? a = none from fun a ha => by
        rcases List.mem_append.mp ha with ha | ha
        · exact hrf2 a (hsub8 _ ha)
        · cases List.mem_singleton.mp ha; exact nold (fun b o e => F9.keep b o (stg b o e)) hn8
     have pi8 := show ∀ p ∈ setP ps2 gx (Str.ofString "in"), p.1 ∈ W10 from fun p hp => by
        rcases List.mem_append.mp hp with hp | hp
        · exact hpi2 p (delP_mem hp)
        · cases List.mem_singleton.mp hp; exact (hgx hx1).2.2
     have oc8 := show ∀ p ∈ (a8, tupO gx (Str.ofString "in") u1 u2 k8) :: own, p.2.cls = Value.type "tuple" from by
        simp only [List.forall_mem_cons]
        exact ⟨rfl, hoc⟩
     have of8 := show ∀ p ∈ (a8, tupO gx (Str.ofString "in") u1 u2 k8) :: own, p.1 ≠ I from by
        simp only [List.forall_mem_cons]
        exact ⟨Ne.symm hnI, fun p hp => off' p (by simp [hp])⟩
     clear F9 N9 G8 N8 hl8))
  k_with "mine:turned" => (
    (with_reducible rename Fr _ _ _ _ => F9)
    (with_reducible rename News _ _ _ ((_, _) :: (_, W.listOf _ _) :: _) => N9)
    (refine hTF _ _ ?_)
    (dsimp only [Turned])
    (refine ⟨_, _, _, _, rfl, F9, N9, ?off, trivial, _, _, _, _, _, _, ?mp, rfl, oc8, by omega, ?gv, ?ti, rl8, rf8, ?pi⟩)
    (case off =>
      simp only [List.forall_mem_cons]
      exact ⟨off' (l6, _) (by k_mem), off' (d, _) (by k_mem), off' (dx, _) (by k_mem), off' (hl, _) (by k_mem), off' (x, _) (by k_mem), off' (px, _) (by k_mem), (by first | exact of8 | exact List.forall_mem_cons.mp of8)⟩)
    (case mp => k_extra "mine:tmap")
    (case gv =>
      rw [htk, List.map_append]
      exact StrsAre.append' hgv (.cons _ _ .nil))
    (case ti =>
      rw [htk, List.foldl_append, List.foldl_cons, List.foldl_nil, ← eu]
      exact ti8)
    (case pi =>
      rw [htk, List.foldl_append, List.foldl_cons, List.foldl_nil, ← eu]
      exact pi8))
  have C0 := C
  obtain ⟨X, T⟩ := C
  have C := C0
  k_extra "mine:fill"
  refine' enterK [(d, instObj 300 dx), (dx, dictOf [⟨hh, .str (Str.ofString "_headers") t0, .ref hl⟩] 1), (hl, W.listOf refs.toArray n), (x, accObj px xs m), (px, accD hz z0 z1)] X st T.nolimit ?ho ?hcd ?hroom ?hbind ?hkind ?hnd ?ht ?h0 ?_ ?c1 ?c2 ?c3
  k_extra "mine:entercases"
  intro g' L' h' tk' cells' eL eg stg X' F' N' Y' l1
  have T' := T.keeps stg
  k_extra "mine:cells"
  clear Y'
  replace F' : Fr g' L' h' (fun y => if y = Str.ofString "pile" then some (.ref x) else if y = Str.ofString "desk" then some (.ref d) else none) := by with_unfolding_all exact F'
  have n1 : @Ne Nat d dx := clash hi hdi (by show ¬ (Value.ref 300 = Value.type "dict"); decide)
  have n2 : @Ne Nat d hl := clash hi hls (by show ¬ (Value.ref 300 = Value.type "list"); decide)
  have n3 : @Ne Nat d x := clash hi hxi (by show ¬ (Value.ref 300 = Value.ref 163); decide)
  have n4 : @Ne Nat d px := clash hi hpx (by show ¬ (Value.ref 300 = Value.type "dict"); decide)
  have n5 : @Ne Nat dx hl := clash hdi hls (by show ¬ (Value.type "dict" = Value.type "list"); decide)
  have n6 : @Ne Nat dx x := clash hdi hxi (by show ¬ (Value.type "dict" = Value.ref 163); decide)
  have n7 : @Ne Nat hl x := clash hls hxi (by show ¬ (Value.type "list" = Value.ref 163); decide)
  have n8 : @Ne Nat hl px := clash hls hpx (by show ¬ (Value.type "list" = Value.type "dict"); decide)
  have n9 : @Ne Nat x px := clash hxi hpx (by show ¬ (Value.ref 163 = Value.type "dict"); decide)
  have nd : ∀ b o, s.heap.get? b = some o → o.cls = .type "tuple" → g'.get? b = some o := fun b o e hc => by
    refine eg ▸ hideAll_get _ e ?_
    simp only [List.map_cons, List.map_nil, List.mem_cons, List.not_mem_nil, or_false, not_or]
    refine ⟨clash e hi ?_, clash e hdi ?_, clash e hls ?_, clash e hxi ?_, clash e hpx ?_⟩ <;> rw [hc]
    · show ¬ (Value.type "tuple" = Value.ref 300); decide
    · show ¬ (Value.type "tuple" = Value.type "dict"); decide
    · show ¬ (Value.type "tuple" = Value.type "list"); decide
    · show ¬ (Value.type "tuple" = Value.ref 163); decide
    · show ¬ (Value.type "tuple" = Value.type "dict"); decide
  have htg : TupsAre g' refs ps := htp.keeps nd
  have hxg : TupsAre g' xs gs := hxt.keeps nd
  repeat' k_extra "mine:go"
  rename_i l6 h7 lo6 h8 F7 N7 h9 tk9 t9 u9 v9 hR F6 N6 up6
  clear F7 N7 up6
  have hps0 : gs.reverse.length = gs.length := List.length_reverse
  refine ForSrc.rangeQ (n := 17) (fun i m₁ news₁ => ∃ vg kg refsI nI mI own, m₁ = (fun y => if y = Str.ofString "turn" then m₁ y else if y = Str.ofString "goes" then m₁ y else if y = Str.ofString "comes" then m₁ y else if y = Str.ofString "gone" then some (.ref l6) else if y = Str.ofString "pile" then some (.ref x) else if y = Str.ofString "desk" then some (.ref d) else none)
      ∧ news₁ = (l6, W.listOf (List.toArray vg) kg) :: (d, instObj 300 dx) :: (dx, dictOf [⟨hh, .str (Str.ofString "_headers") t0, .ref hl⟩] 1) :: (hl, W.listOf (List.toArray refsI) nI) :: (x, accObj px (xs.take (gs.length - i)) mI) :: (px, accD hz z0 z1) :: own
      ∧ (∀ p ∈ own, p.2.cls = .type "tuple") ∧ i ≤ gs.length ∧ StrsAre vg ((gs.reverse.take i).map (·.1)) ∧ TupsIn g' own refsI ((gs.reverse.take i).foldl undo1 ps) ∧ refsI.length ≤ 40 + i ∧ (∀ a, Value.ref a ∈ refsI → H₀.get? a = none) ∧ ∀ p ∈ (gs.reverse.take i).foldl undo1 ps, p.1 ∈ W10) (by rfl) F6 N6 hR (by decide +kernel) (by decide +kernel) ?J0 ?turn ?done
  case J0 =>
    refine ⟨[], 0, refs, n, m, [], ?_, ?_, by simp, Nat.zero_le _, .nil, .old htg, hlen, hr0, hps⟩
    · k_extra "mine:tmap"
    · rw [Nat.sub_zero, ← hxt.length, List.take_length]
  case done =>
    rintro m₁ news₁ h tk ⟨vg, kg, refsI, nI, mI, own, hm₁, rfl, hoc, hil, _⟩
    exfalso; omega
  case turn =>
    clear F6 N6
    rintro i m₁ news₁ I oI h tk t' TF hTF hi17 ⟨vg, kg, refsI, nI, mI, own, hm₁, rfl, hoc, hil, hgv, hti, hri, hrf, hpi⟩ F' N' off'
    rw [hm₁] at F'
    clear hm₁
    repeat' k_extra "mine:go"
    dsimp only
    rename Fr _ _ _ _ => F5
    rename News _ _ _ _ => N5
    have hox : ∀ p ∈ own, p.1 ≠ x := fun p hp => clash (N5 p (by simp [hp])).1 (News.get N5 (a := x) (by k_mem)) (by rw [hoc p hp]; show ¬ (Value.type "tuple" = Value.ref 163); decide)
    have hoh : ∀ p ∈ own, p.1 ≠ hl := fun p hp => clash (N5 p (by simp [hp])).1 (News.get N5 (a := hl) (by k_mem)) (by rw [hoc p hp]; show ¬ (Value.type "tuple" = Value.type "list"); decide)
    have hol : ∀ p ∈ own, p.1 ≠ l6 := fun p hp => clash (N5 p (by simp [hp])).1 (News.get N5 (a := l6) (by k_mem)) (by rw [hoc p hp]; show ¬ (Value.type "tuple" = Value.type "list"); decide)
    with_unfolding_all refine pop_spec C (fun b o e => F5.keep b o (stg b o e)) ?hdp (News.get N5 (o := accObj px (xs.take (gs.length - i)) mI) ?m1) (News.get N5 (o := accD hz z0 z1) ?m2) hx0 hpx0 ?len ?r0 ?r1
    case hdp => k_extra "mine:hdp"
    case m1 => k_mem
    case m2 => k_mem
    case len => rw [List.length_take, hxt.length]; omega
    case r0 =>
      intro e0 h4 tk4 a4 t4 u4 k4 G4 nn e4
      have F4 := fr_grow F5 G4
      have N4 := news_fresh F5 N5 G4 nn e4
      have hi0 : i = gs.length := by
        have := congrArg List.length e0
        rw [List.length_take, hxt.length, List.length_nil] at this
        omega
      clear F5 N5 G4
      repeat' k_extra "mine:go"
      rename Fr _ _ _ _ => F3
      rename News _ _ _ _ => N3
      have e1 : gs.reverse.take i = gs.reverse := List.take_of_length_le (by omega)
      rw [e1] at hgv hti hpi
      refine hTF _ _ ?_
      dsimp only [Turned]
      refine hret _ _ l6 vg kg refsI nI (grow_back eg F3 N3 ?gb) (fresh_back (a := l6) eg N3 (by k_mem) ?ne) (News.get N3 (by k_mem)) hgv (News.get N3 (by k_mem)) (hti.here F3 N3 fun p hp => by simp [hp]) (by omega) hrf
      case gb =>
        simp only [List.map_cons, List.map_nil, List.forall_mem_cons]
        refine ⟨fun _ o e => ?_, fun _ o e => ?_, fun q => absurd (by simp) q, fun q => absurd (by simp) q, fun _ o e => ?_, by simp⟩
        · cases hi.symm.trans e; k_mem
        · cases hdi.symm.trans e; k_mem
        · cases hpx.symm.trans e; k_mem
      case ne =>
        simp only [List.map_cons, List.map_nil, List.mem_cons, List.not_mem_nil, or_false, not_or]
        exact ⟨Nat.ne_of_gt lo6.1, Nat.ne_of_gt lo6.2.1, Nat.ne_of_gt lo6.2.2.1, Nat.ne_of_gt lo6.2.2.2.1, Nat.ne_of_gt lo6.2.2.2.2⟩
    case r1 =>
      intro ys v e0 h4 tk4 n4 G4 hx4
      have F4 := fr_set F5 N5 G4 (a := x) (by k_mem)
      have N4 := news_put (pre := [(I, oI), (l6, _), (d, _), (dx, _), (hl, _)]) N5 G4 hx4 (by
        simp only [List.forall_mem_cons]
        exact ⟨Ne.symm (off' (x, _) (by k_mem)), Ne.symm (Nat.ne_of_lt lo6.2.2.2.1), n3, n6, n7, by simp⟩) (by
        simp only [List.forall_mem_cons]
        exact ⟨Ne.symm n9, hox⟩)
      clear F5 N5 G4
      have hlt : ys.length + 1 = gs.length - i := by
        have := congrArg List.length e0
        rw [List.length_take, hxt.length, List.length_append, List.length_singleton] at this
        omega
      have hys : ys = xs.take (gs.length - (i + 1)) := by
        have := congrArg (List.take ys.length) e0
        rw [List.take_take, List.take_left' rfl] at this
        rw [← this]
        congr 1
        omega
      have hvx : xs[ys.length]? = some v := by
        have := congrArg (fun l => l[ys.length]?) e0
        simpa [List.getElem?_take, show ys.length < gs.length - i by omega] using this
      obtain ⟨b, gx, gy, t1, t2, kk, rfl, hp, hb⟩ := hxg.at _ _ hvx
      have htk : gs.reverse.take (i + 1) = gs.reverse.take i ++ [(gx, gy)] := by
        rw [List.take_add_one, List.getElem?_reverse (by omega), show gs.length - 1 - i = ys.length by omega, hp]
        rfl
      have hgm := hgs _ (List.mem_of_getElem? hp)
      dsimp only [List.cons_append, List.nil_append] at N4
      have hbt : IsTup h4 b #[.str gx t1, .str gy t2] := ⟨_, F4.keep _ _ hb, rfl, kk, rfl⟩
      repeat' k_extra "mine:go"
      rename Fr _ _ _ _ => F3
      rename News _ _ _ _ => N3
      refine eq_tup2 (News.get N3 (List.Mem.tail _ (List.Mem.head _))) (News.get N3 (List.Mem.head _)) (W5_ok _ hgm.1) (W5_ok _ hgm.2.1) (by decide +kernel) (by decide +kernel) (by units_room) ?_
      rw [show decide ((gx, gy) = (Str.ofString "", Str.ofString "")) = false from decide_eq_false hgm.2.2]
      have hsz6 : vg.toArray.size ≤ sizeLine := by rw [List.size_toArray, sizeLine_eq, strs_length hgv, List.length_map, List.length_take]; omega
      have hgy : gy ≠ Str.empty → low gy ∈ W10 ∧ gy ∈ W6 ∧ gy ∈ W10 := W5_low _ hgm.2.1
      have hgx : gx ≠ Str.empty → low gx ∈ W10 ∧ gx ∈ W6 ∧ gx ∈ W10 := W5_low _ hgm.1
      have N3 := news_tail (news_tail N3)
      clear hbt
      repeat' k_extra "mine:go"
      refine _root_.PyProof.Rows.append_at (News.get N3 (o := W.listOf (List.toArray vg) kg) (by k_mem)) (fun h2 hs2 e2 => ?_) hsz6
      have G2 : Grow _ h2 [l6] := fun b o e hb => (hs2.2 b (by simpa using hb)).trans e
      have F2 := fr_set F3 N3 G2 (a := l6) (by k_mem)
      have N2 := news_put (pre := [(I, oI)]) N3 G2 e2 (by
        simp only [List.forall_mem_cons]
        exact ⟨Ne.symm (off' (l6, _) (by k_mem)), by simp⟩) (by
        simp only [List.forall_mem_cons]
        exact ⟨Nat.ne_of_lt lo6.1, Nat.ne_of_lt lo6.2.1, Nat.ne_of_lt lo6.2.2.1, Nat.ne_of_lt lo6.2.2.2.1, Nat.ne_of_lt lo6.2.2.2.2, hol⟩)
      dsimp only [List.cons_append, List.nil_append] at N2
      rw [List.push_toArray] at N2
      clear F3 N3 G2 hs2 e2
      subst hys
      repeat' k_extra "mine:go"
      · have hyb : (gy != Str.ofString "") = true := by assumption
        have hy1 := bne_iff_ne.mp hyb
        with_reducible rename Fr _ _ _ _ => F2
        refine' del_spec C (fun b o e => F2.keep b o (stg b o e)) ?hdp (News.get N2 ?m1) (News.get N2 ?m2) (News.get N2 ?m3) (hti.here F2 N2 fun p hp => by simp [hp]) hd0 hdx0 hl0 (hgy hy1).1 hpi (by omega) ?r1
        case hdp => k_extra "mine:hdp"
        case m1 => k_mem
        case m2 => k_mem
        case m3 => k_mem
        case r1 =>
          intro h1 tk1 rs nr G1 htr hrl hsub hl1
          have F1 := fr_set F2 N2 G1 (a := hl) (by k_mem)
          have N1 := news_put (pre := [(I, oI), (l6, _), (d, _), (dx, _)]) N2 G1 hl1 (by
            simp only [List.forall_mem_cons]
            exact ⟨Ne.symm (off' (hl, _) (by k_mem)), Ne.symm (Nat.ne_of_lt lo6.2.2.1), n2, n5, by simp⟩) (by
            simp only [List.forall_mem_cons]
            exact ⟨Ne.symm n7, Ne.symm n8, hoh⟩)
          dsimp only [List.cons_append, List.nil_append] at N1
          obtain ⟨ps2, hps2⟩ : ∃ p, p = delP ((gs.reverse.take i).foldl undo1 ps) (low gy) := ⟨_, rfl⟩
          have ht2 : TupsIn g' own rs ps2 := hps2 ▸ fun k a b => htr k (hti k a b)
          have hpi2 : ∀ p ∈ ps2, p.1 ∈ W10 := hps2 ▸ fun p hp => hpi p (delP_mem hp)
          have hrf2 : ∀ a, Value.ref a ∈ rs → H₀.get? a = none := fun a ha => hrf a (hsub _ ha)
          have hrl2 : rs.length ≤ 40 + i := Nat.le_trans hrl hri
          clear F2 N2 G1 hl1
          repeat' k_extra "mine:go"
          · have hxb : (gx != Str.ofString "") = true := by assumption
            k_extra "mine:fin213"
            have eu : setP ps2 gx (Str.ofString "in") = undo1 ((gs.reverse.take i).foldl undo1 ps) (gx, gy) := by
              rw [hps2]; exact (undo1_yx hy1 (bne_iff_ne.mp hxb)).symm
            repeat' k_extra "mine:go"
            k_extra "mine:turned"
          · have hxb : (gx != Str.ofString "") = false := by assumption
            have hx1 : gx = Str.empty := bne_f hxb
            have eu : ps2 = undo1 ((gs.reverse.take i).foldl undo1 ps) (gx, gy) := by
              rw [hps2]; exact (undo1_y hy1 hx1).symm
            have ti8 := ht2
            have rl8 : rs.length ≤ 40 + (i + 1) := Nat.le_succ_of_le hrl2
            have rf8 := hrf2
            have pi8 := hpi2
            have oc8 := hoc
            have of8 : ∀ p ∈ own, p.1 ≠ I := fun p hp => off' p (by simp [hp])
            k_extra "mine:turned"
      · have hxb : (gx != Str.ofString "") = true := by assumption
        have hyb : (gy != Str.ofString "") = false := by assumption
        have hy1 : gy = Str.empty := bne_f hyb
        obtain ⟨ps2, hps2⟩ : ∃ p, p = (gs.reverse.take i).foldl undo1 ps := ⟨_, rfl⟩
        have ht2 : TupsIn g' own refsI ps2 := hps2 ▸ hti
        have hpi2 : ∀ p ∈ ps2, p.1 ∈ W10 := hps2 ▸ hpi
        have hrf2 := hrf
        have hrl2 := hri
        k_extra "mine:fin213"
        have eu : setP ps2 gx (Str.ofString "in") = undo1 ((gs.reverse.take i).foldl undo1 ps) (gx, gy) := by
          rw [hps2]; exact (undo1_x hy1 (bne_iff_ne.mp hxb)).symm
        repeat' k_extra "mine:go"
        k_extra "mine:turned"
      · exfalso
        have hxb : (gx != Str.ofString "") = false := by assumption
        have hyb : (gy != Str.ofString "") = false := by assumption
        have hx1 : gx = Str.empty := bne_f hxb
        have hy1 : gy = Str.empty := bne_f hyb
        exact hgm.2.2 (by rw [hx1, hy1])
end
end LUndoneS
section LEnterMS
section
variable {prog : Program} {w : World} {A : Around} {s : Shared} {R : Result → Shared → Prop} {name qual : Str} {params : Arguments} {body : List Stmt} {scope : Scope} {dV kV doc pm cdv ct oc : Value} {an od : Option Addr} {osl : Array (Option Value)} {f : Addr} {binds : List (Str × Value)} {K : Frag} {H₀ : Heap} {vals : List Value} {kws : List (Str × Value)}
theorem peekA0 {α : Type} {K : Frag} {M : Model} {A : Around} {E : Value → Shared → Prop} {Q : α → Shared → Prop} {s : Shared} {o : Obj} (X : K.In s.heap) :
    ∀ (t : Sem α) (g : Addr → Sem α), peekA K ⟨M.prog, M.w.params⟩ t = some (o, g) → wpAny M A (g s.heap.objs.size) Q E { s with heap := s.heap.push o } → wpAny M A t Q E s := by
  intro t
  induction t with
  | rule _ k ih => intro g e q Γ p hΓ; exact ih () g e q Γ p hΓ
  | point _ k ih => intro g e q Γ p hΓ; exact ih () g e q Γ p hΓ
  | ask k ih => intro g e q Γ p hΓ; exact ih _ g e q Γ p hΓ
  | load a _ k ih =>
    intro g e q Γ p hΓ
    simp only [peekA] at e
    split at e
    · rename_i ob ho; exact ⟨ob, X _ _ ho, ih ob g e q Γ p hΓ⟩
    · cases e
  | alloc ob k _ =>
    intro g e q
    have e : some (ob, k) = some (o, g) := e
    obtain ⟨e1, e2⟩ := Prod.mk.inj (Option.some.inj e)
    subst e1
    subst e2
    show wpAny M A (alloc ob >>= k) Q E s
    exact wpAny_bind (wpAny_alloc q)
  | _ => intro g e; cases e
theorem set_one {E : Value → Shared → Prop} {D : Addr} {k : Str} {v : Value} {Q : Unit → Shared → Prop} (hD : s.heap.get? D = some (dictOf [] 0))
    (h : ∀ h', Heap.SameBut D s.heap h' → h'.get? D = some (dictOf [⟨PyData.keyHash w.params k, .str k s.toks, v⟩] 1) → Q () { s with heap := h', toks := s.toks + 1 }) : wpAny (model prog w) A (nsSet D k v) Q E s := by
  have e : Obj.putName k (PyData.keyHash w.params k) (.str k s.toks) v (dictOf [] 0) = dictOf [⟨PyData.keyHash w.params k, .str k s.toks, v⟩] 1 := by rw [putName_dict]; rfl
  have c : aRefKeyMayBeTheName k (([] : List DictEntry).toArray) = false := by rw [aRefKeyMayBeTheName_at]; simp
  unfold nsSet
  refine wpAny_bind (wpAny_bind (wpAny_askSetting (wpAny_pure (wpAny_bind (wpAny_mkText (wpAny_bind (wpAny_loadPart hD ?_)))))))
  dsimp only
  rw [c]
  refine wpAny_updatePart hD (h _ (Heap.SameBut.update _ _ _) ?_)
  have z := Heap.get?_update_self (Obj.putName k (PyData.keyHash w.params k) (.str k s.toks) v) hD (by rw [e]; rfl)
  rw [e] at z
  exact z
theorem enterM {nm k1 : Str} {v1 : Value} {front : List (Str × Value)} {g₁ : Addr → Sem (List (Str × Value))} (X : K.In H₀) (st : H₀.StaysIn s.heap) (hlim : H₀.NoLimit)
    (ho : K.lookup f = some ⟨oc, od, .func (fnOf name qual params body scope dV kV doc pm an cdv ct), osl⟩) (hcd : codeIn K cdv qual = true) (hroom : A.depth < recursionLimit)
    (hp : peekA K ⟨prog, w.params⟩ (bindArgs (fnOf name qual params body scope dV kV doc pm an cdv ct) ⟨vals, kws⟩) = some (dictOf [] 0, g₁))
    (hk₁ : ∀ D, g₁ D = (forIn [(k1, v1)] PUnit.unit (fun x _ => (nsSet D x.1 x.2 >>= fun _ => pure (ForInStep.yield PUnit.unit))) >>= fun _ => pure (front ++ [(nm, Value.ref D)])))
    (hkind : ∀ D, ((front ++ [(nm, Value.ref D)]).all fun y => scope.names.lookup y.1 == some .local || scope.names.lookup y.1 == some .cell) = true)
    (hnd : cellsFrom 0 scope.names [] = [])
    (h : ∀ D t' L' h₁ tk, K.In s.heap → D = s.heap.objs.size → D < L' → Fr s.heap L' h₁ (bindL (envOfC qual scope L' f cdv).kindOf (front ++ [(nm, Value.ref D)]) fun _ => none) →
      News s.heap L' h₁ [(D, dictOf [⟨PyData.keyHash w.params k1, .str k1 t', v1⟩] 1)] →
      wpAny (model prog w) (A.deeper (envOfC qual scope L' f cdv)) (execs body (envOfC qual scope L' f cdv))
        (fun fl s' => R (.ok (.ret (match fl with | .ret v => v | _ => .none))) s') (fun _ _ => False)
        { s with heap := h₁, toks := tk })
    (hco : scope.isCoroutine = false := by rfl) (hgen : scope.isGenerator = false := by rfl) (hk : scope.kind = .function := by rfl) : codeAny (model prog w) A (.call (.ref f) ⟨vals, kws⟩) R s := by
  have Xs := X.keeps st
  refine codeAny_call_function (fd := fnOf name qual params body scope dV kV doc pm an cdv ct) hroom (Xs _ _ ho) rfl hco hgen rfl (codeRec_of Xs hcd) ?_
  refine peekA0 Xs _ g₁ hp ?_
  rw [hk₁, List.forIn_cons]
  have hD : (s.heap.push (dictOf [] 0)).get? s.heap.objs.size = some (dictOf [] 0) := Heap.get?_push_size _ rfl
  refine wpAny_bind (wpAny_bind (wpAny_bind (set_one (s := { s with heap := s.heap.push (dictOf [] 0) }) hD fun h2 hs2 hd2 => wpAny_pure ?_)))
  dsimp only
  rw [List.forIn_nil]
  refine wpAny_pure (wpAny_pure ?_)
  have hk2 : ∀ b o, s.heap.get? b = some o → h2.get? b = some o := fun b o e => (hs2.2 b (Nat.ne_of_lt (Heap.lt_size e))).trans (Heap.get?_push_of_some _ e)
  have hz2 : s.heap.objs.size < h2.objs.size := Heap.lt_size hd2
  refine wpAny_newFunctionEnv_cells hk (kindsX (hkind _) _) fun env' he s' x => ?_
  subst he
  refine ⟨(hlim.keeps st).keeps (fun b o e => x.toInCall.keep b o (hk2 b o e)), codeAny_func ?_⟩
  obtain ⟨h₁, tk, rfl, _⟩ := x.done
  have hk₁ := x.toInCall.keep
  refine wpAny_mono (h s.heap.objs.size s.toks h2.objs.size h₁ tk Xs rfl hz2 ⟨x.toInCall.ns, fun b o e => hk₁ b o (hk2 b o e), Nat.le_of_lt hz2⟩ (fun p hp => ?_)) (fun fl s' hl => hl) fun _ _ y => y.elim
  obtain rfl := List.mem_singleton.mp hp
  exact ⟨hk₁ _ _ hd2, Nat.ne_of_lt hz2, Heap.get?_none_of_le (Nat.le_refl _)⟩
end
end LEnterMS
section LKwS
section
variable {prog : Program} {w : World} {A : Around} {E : Value → Shared → Prop} {s : Shared}
theorem merge_one {D m : Addr} {hz : Int} {k : Str} {t : Tok} {v : Value} {Q : Unit → Shared → Prop} (hD : s.heap.get? D = some (dictOf [] 0)) (hm : s.heap.get? m = some (dictOf [⟨hz, .str k t, v⟩] 1)) (hDm : m ≠ D) (hs : (m == sysModules) = false)
    (h : ∀ h', Heap.SameBut D s.heap h' → h'.get? D = some (dictOf [⟨hz, .str k t, v⟩] 1) → Q () { s with heap := h' }) : wpAny (model prog w) A (mergeMapping D (.ref m) true) Q E s := by
  have hT : s.TypeIs (.ref m) "dict" := ⟨_, hm, rfl⟩
  unfold mergeMapping
  refine wpAny_bind (wpAny_isInstance hT isSubtype_dict_dict ?_)
  dsimp only
  rw [if_pos rfl]
  refine wpAny_bind (wpAny_specialOf hT PySem.F.slot_dict_iter.lookup ?_)
  refine wpAny_bind (wpAny_pure ?_)
  rw [beq_self_eq_true]
  dsimp only
  rw [hs, if_neg Bool.false_ne_true]
  refine wpAny_bind (wpAny_dictEntries hD rfl ?_)
  rw [if_pos (by rfl)]
  refine wpAny_bind (wpAny_dictEntries hm rfl ?_)
  rw [← Array.forIn_toList, List.forIn_cons]
  refine wpAny_bind (wpAny_bind (wpAny_pure ?_))
  dsimp only
  rw [List.forIn_nil]
  refine wpAny_pure ?_
  refine wpAny_bind (wpAny_dictEntries hm rfl ?_)
  refine wpAny_bind (wpAny_dictEpoch hm rfl ?_)
  show wpAny _ _ (forIn [0] PUnit.unit _ >>= _) _ _ _
  rw [List.forIn_cons]
  refine wpAny_bind (wpAny_bind (wpAny_bind (wpAny_dictEntries hm rfl ?_)))
  refine wpAny_bind (wpAny_holding ?_)
  rw [if_pos rfl]
  have fnd : ∀ (Q' : Option Nat → Shared → Prop), Q' none s → wpAny (model prog w) A (dictFind D (.str k t) hz) Q' E s := fun Q' hq => KTD.kt_dictFind_strs hD rfl (by simp) (by simpa using hq)
  refine wpAny_bind (fnd _ ?_)
  rw [if_neg (by simp)]
  unfold dictPut
  refine wpAny_bind (fnd _ ?_)
  dsimp only
  refine wpAny_updateDictKeys hD rfl ?_
  have e := Heap.get?_update_self (Obj.mapDictKeys fun x : Array DictEntry => x.push ⟨hz, .str k t, v⟩) hD rfl
  have hsb : Heap.SameBut D s.heap _ := Heap.SameBut.update s.heap D (Obj.mapDictKeys fun x : Array DictEntry => x.push ⟨hz, .str k t, v⟩)
  have hm' := (hsb.2 m hDm).trans hm
  refine wpAny_bind (wpAny_dictEpoch hm' rfl ?_)
  rw [if_neg (by simp)]
  refine wpAny_pure ?_
  dsimp only
  rw [List.forIn_nil]
  exact wpAny_pure (wpAny_pure (h _ hsb e))
end
section
variable {prog : Program} {w : World} {A : Around} {E : Value → Shared → Prop} {s : Shared}
theorem callWith_D {env : Env} {pos : Pos} {b g : Addr} {self : Value} {e1 e2 : Expr} {kp : Pos} {Q : Value → Shared → Prop}
    (h : wpAny (model prog w) A (eval e1 env) (fun v1 s1 => wpAny (model prog w) A (eval e2 env) (fun v2 s2 => ∃ m hz k t v, v2 = .ref m ∧ m ≠ s1.heap.objs.size ∧ (m == sysModules) = false ∧ s2.heap.get? s1.heap.objs.size = some (dictOf [] 0) ∧ s2.heap.get? m = some (dictOf [⟨hz, .str k t, v⟩] 1) ∧
      (∀ h', Heap.SameBut s1.heap.objs.size s2.heap h' → h'.get? b = some (methodObj (.ref g) self) ∧ (∃ og fd, h'.get? g = some og ∧ og.data = .func fd) ∧
        wpAny (model prog w) A (call (.ref b) [v1] [(k, v)]) Q E { s2 with heap := h' })) (fun _ _ => False) { s1 with heap := s1.heap.push (dictOf [] 0) }) (fun _ _ => False) s)
    (he : starEach [e1] env = [(false, eval e1 env)] := by rfl) :
    wpAny (model prog w) A (callWith pos (.ref b) [] (backTo pos (starEach [e1] env)) (backToKw pos (keywordEach [{ arg := none, value := e2, pos := kp }] env))) Q E s := by
  rw [he]
  unfold callWith evalArgs
  refine wpAny_bind (wpAny_holding ?_)
  refine wpAny_bind ?_
  show wpAny _ _ (spliced [(false, eval e1 env)]) _ _ _
  rw [spliced]
  refine wpAny_bind (wpAny_mono h (fun v1 s1 h1 => ?_) fun _ _ e => e.elim)
  rw [if_neg Bool.false_ne_true]
  refine wpAny_bind (wpAny_pure ?_)
  rw [spliced]
  refine wpAny_bind (wpAny_holding (wpAny_pure (wpAny_pure ?_)))
  refine wpAny_bind (wpAny_pure ?_)
  dsimp only
  refine wpAny_holding ?_
  have hkw : backToKw pos (keywordEach [{ arg := none, value := e2, pos := kp }] env) = [(none, do let v ← eval e2 env; standAt pos; pure v)] := rfl
  rw [hkw, if_neg (by simp)]
  refine wpAny_bind ?_
  unfold mergedKeywords
  refine wpAny_bind (wpAny_alloc (wpAny_bind (wpAny_holding ?_)))
  dsimp only
  rw [List.forIn_cons]
  refine wpAny_bind (wpAny_bind ?_)
  dsimp only
  rw [if_pos (by rfl)]
  refine wpAny_bind (wpAny_pure (wpAny_bind (wpAny_bind (wpAny_mono h1 (fun v2 s2 h2 => wpAny_bind (wpAny_standAt (wpAny_pure ?_))) fun _ _ e => e.elim))))
  obtain ⟨m, hz, k, t, v, rfl, hmD, hms, hD, hm, hrest⟩ := h2
  refine wpAny_bind (wpAny_onRaise (wpAny_holding (wpAny_tryCatch (wpAny_onRaise (merge_one hD hm hmD hms fun h' hs' hd' => ?_)))))
  refine wpAny_pure ?_
  dsimp only
  rw [List.forIn_nil]
  refine wpAny_pure ?_
  rw [if_pos (by rfl)]
  refine wpAny_pure (wpAny_pure ?_)
  refine wpAny_bind (wpAny_pure ?_)
  refine wpAny_bind (wpAny_holding ?_)
  unfold keywordsIn
  refine wpAny_bind (wpAny_dictEntries hd' rfl ?_)
  rw [← Array.forIn_toList, List.forIn_cons]
  refine wpAny_bind (wpAny_bind (wpAny_pure ?_))
  dsimp only
  rw [List.forIn_nil]
  refine wpAny_pure (wpAny_pure (wpAny_pure ?_))
  obtain ⟨hb, ⟨og, fd, hg, hfd⟩, hc⟩ := hrest h' hs'
  refine wpAny_bind (wpAny_standAt ?_)
  have kp : ∀ (Q' : Keeper → Shared → Prop), Q' .boundFrame { s2 with heap := h' } → wpAny (model prog w) A (keeperOf (.ref b)) Q' E { s2 with heap := h' } := by
    intro Q' hq
    unfold keeperOf
    refine wpAny_bind (wpAny_load hb ?_)
    dsimp only
    rw [if_neg (by decide)]
    show wpAny _ _ (load g >>= _) _ _ _
    refine wpAny_bind (wpAny_load hg ?_)
    rw [hfd]
    exact wpAny_pure hq
  refine wpAny_bind (kp _ ?_)
  have tail : ∀ {vs : List Value}, wpAny (model prog w) A (operate vs (call (.ref b) [v1] [(k, v)]) >>= fun r => holding [r] point >>= fun _ => pure r) Q E { s2 with heap := h' } :=
    wpAny_bind (wpAny_operating (wpAny_mono hc (fun r s₂ hr => wpAny_bind (wpAny_holding (wpAny_point (wpAny_pure hr)))) fun _ _ x => x))
  exact tail
end
end LKwS
section LInfoS
section
variable {w : World} {mean : ExcName → Option Value} {mg mb : Str → Option Value} {dp un : Nat} {gd : Option (List Code)} {outer : List Env} {H₀ : Heap} {s : Shared} {Q E : Value → Shared → Prop}
theorem fn_of {K : Frag} {h : Heap} {f : Addr} {o : Obj} (X : K.In h) (e : K.lookup f = some o) (hd : ∃ fd, o.data = .func fd) : ∃ og fd, h.get? f = some og ∧ og.data = .func fd := by
  obtain ⟨fd, hd⟩ := hd
  exact ⟨o, fd, X _ _ e, hd⟩
theorem info_spec (C : Cx w mean mg mb H₀) (st : H₀.StaysIn s.heap) (hd1 : dp + 30 < recursionLimit) {d dx hl b : Addr} {hh : Int} {t0 t ty : Tok} {yv : Str} {n : Nat} {refs : List Value} {ps : List (Str × Str)} {x : Str}
    (hb : s.heap.get? b = some (methodObj (.ref 247) (.ref d)))
    (hi : s.heap.get? d = some (instObj 300 dx)) (hdi : s.heap.get? dx = some (dictOf [⟨hh, .str (Str.ofString "_headers") t0, .ref hl⟩] 1)) (hls : s.heap.get? hl = some (W.listOf refs.toArray n)) (htp : TupsAre s.heap refs ps)
    (hd0 : H₀.get? d = none) (hdx0 : H₀.get? dx = none) (hx : x ∈ W10) (hps : ∀ p ∈ ps, p.1 ∈ W10)
    (hret : ∀ v h' tk' a t1 t2 k, ((∃ p ∈ ps, low p.1 = low x ∧ v = p.2) ∨ ((∀ p ∈ ps, low p.1 ≠ low x) ∧ v = yv)) → Grow s.heap h' [] → s.heap.get? a = none → h'.get? a = some { cls := .type "tuple", data := .seq #[.str v t1, .str v t2] k } → Q (.ref a) { s with heap := h', toks := tk' }) :
    wpAny (model PW w) (around dp un gd outer) (call (.ref 76) [.str x t, .ref b] [(Str.ofString "default", .str yv ty)]) Q E s := by
  k_with_none
  w_top off
  k_with "mine:fill" => (have _kf : (PySem.Challenge.rw_wk0041_01, _root_.hd.heap_1) = (PySem.Challenge.rw_wk0041_01, _root_.hd.heap_1) := by (k_fill; rfl))
  k_with "mine:room" => (first | assumption | (simp only [around, Around.deeper, Around.mark, Around.in1, recursionLimit] at *; omega))
  k_with "mine:entercases" => (
    (case ho => k_dflt k_is)
    (case hcd => k_dflt k_is)
    (case hroom => k_extra "mine:room")
    (case hbind => first | exact BindsTo.of_eq rfl | exact binds_K (by k_in) rfl (by k_is) rfl rfl rfl | exact kp_binds (Frag.In.keeps X st) fun _ => rfl)
    (case hkind => exact rfl)
    (case hnd => decide +kernel)
    (case ht => (first | exact List.forall_mem_nil _ | (simp only [List.forall_mem_cons]; simp_all)))
    (case h0 => (first | exact List.forall_mem_nil _ | (simp only [List.forall_mem_cons]; simp_all)))
    (case c1 => exact rfl)
    (case c2 => exact rfl)
    (case c3 => exact rfl))
  k_with "mine:cells" => (
    (first | (k_cells Y') | (have hY := cellsNil Y'; subst hY))
    (try simp only [List.cons_append, List.nil_append, List.append_nil] at N')
    (try dsimp only)
    (try k_fold))
  k_with "mine:go" => (
    (fail_if_success (with_reducible show LCt.CompRestT _ _ _ _ _ _ _ _ _ _ _ _ _ _ _ _ _ _ _ _))
    (fail_if_success (with_reducible show LCg.CompRest _ _ _ _ _ _ _ _ _ _ _ _ _ _ _ _ _ _ _))
    (fail_if_success (with_reducible show ForSrc _ _ _ _ _ _ _ _ _ _ _))
    (first | (k_unfold; (try dsimp only)) | (k_end; wrow_close) | walk1 | (dsimp only; walk1) | (leave1; walk_say "STEP leave1"; try dsimp only) | fail "no step"))
  k_with "mine:same" => exact ⟨_, _, rfl, by assumption, by assumption⟩
  k_with "mine:hdp" => ((try dsimp only [around, Around.deeper]); omega)
  k_with "mine:mapsA" => (repeat' (first | exact List.forall_mem_nil _ | refine List.forall_mem_cons.mpr ⟨by with_unfolding_all rfl, ?_⟩))
  k_with "mine:memS" => ((repeat (first | (with_reducible exact List.mem_cons_self) | refine List.mem_cons_of_mem _ ?_)); done)
  k_with "mine:mapsB" => (
    (intro y hy)
    (try dsimp only)
    (repeat refine (if_neg (hy _ (by k_extra "mine:memS"))).trans ?_)
    (refine Eq.symm ?_)
    (repeat refine (if_neg (hy _ (by k_extra "mine:memS"))).trans ?_)
    rfl)
  have C0 := C
  obtain ⟨X, T⟩ := C
  have C := C0
  k_extra "mine:fill"
  refine wpAny_call ?_
  refine' enterM X st T.nolimit ?ho ?hcd ?hroom ?hp ?hk1 ?hkind ?hnd ?_ ?c1 ?c2 ?c3
  case ho => k_dflt k_is
  case hcd => k_dflt k_is
  case hroom => k_extra "mine:room"
  case hp => exact rfl
  case hk1 => exact fun _ => rfl
  case hkind => exact fun _ => rfl
  case hnd => decide +kernel
  case c1 => exact rfl
  case c2 => exact rfl
  case c3 => exact rfl
  intro D' t' L' h' tk' X' eD lD F' N'
  have T' := T.keeps st
  repeat' k_extra "mine:go"
  refine callWith_D (g := 247) (self := .ref d) ?_
  k_extra "mine:go"
  rename Fr _ _ _ _ => F9
  rename News _ _ _ _ => N9
  have F8 := F9.push (dictOf [] 0)
  have N8 := N9.push F9 (dictOf [] 0)
  k_extra "mine:go"
  have hD8 := News.get N8 (List.Mem.head _)
  have hm8 := News.get N8 (List.Mem.tail _ (List.Mem.head _))
  have hDm : D' ≠ _ := Nat.ne_of_lt (Heap.lt_size (News.get N9 (List.Mem.head _)))
  have hms : (D' == sysModules) = false := beq_eq_false_iff_ne.mpr (by rw [eD]; exact Nat.ne_of_gt (modules_low T'.nolimit))
  refine ⟨D', _, _, _, _, rfl, hDm, hms, hD8, hm8, fun h7 hs7 => ?_⟩
  have k7 : ∀ b o, s.heap.get? b = some o → h7.get? b = some o := fun b o e => (hs7.2 b (Nat.ne_of_lt (Heap.lt_size (F9.keep b o e)))).trans (F8.keep b o e)
  have F7 := F8.update N8 (List.Mem.head _) hs7
  have N7 : News s.heap L' h7 [(D', _)] := fun p hp => by
    obtain rfl := List.mem_singleton.mp hp
    exact ⟨(hs7.2 _ hDm).trans hm8, (N8 _ (List.Mem.tail _ (List.Mem.head _))).2⟩
  have hf7 : ∃ og fd, h7.get? 247 = some og ∧ og.data = .func fd := by
    refine' fn_of (X'.keeps k7) ?e ?_
    case e => k_dflt k_is
    exact ⟨_, rfl⟩
  refine ⟨k7 _ _ hb, hf7, wpAny_call (method_call (k7 _ _ hb) ?_)⟩
  refine get_code C (fun b o e => k7 b o (st b o e)) ?hdp (k7 _ _ hi) (k7 _ _ hdi) (k7 _ _ hls) (htp.keeps fun b o e _ => k7 b o e) hd0 hdx0 hx hps _ _ get_kw ?r1 ?r0
  case hdp => k_extra "mine:hdp"
  case r1 =>
    intro p9 hp1 hl1' h9 tk9 t9 G9
    have F6 := fr_grow F7 G9
    have N6 := news_grow N7 G9
    clear F9 N9 F8 N8 F7 N7 G9 hD8 hm8
    repeat' k_extra "mine:go"
    rename Fr _ _ _ _ => F5
    rename News _ _ _ _ => N5
    rename _ < _ => lD5
    refine hret _ _ _ _ _ _ _ (.inl ⟨p9, hp1, hl1', rfl⟩) (fun b o e _ => F5.keep b o e) ?n (News.get N5 (List.Mem.head _))
    case n => exact (N5 _ (List.Mem.head _)).2.2
  case r0 =>
    intro hp0 h9 tk9 G9
    have F6 := fr_grow F7 G9
    have N6 := news_grow N7 G9
    clear F9 N9 F8 N8 F7 N7 G9 hD8 hm8
    repeat' k_extra "mine:go"
    rename Fr _ _ _ _ => F5
    rename News _ _ _ _ => N5
    rename _ < _ => lD5
    refine hret _ _ _ _ _ _ _ (.inr ⟨hp0, rfl⟩) (fun b o e _ => F5.keep b o e) ?n (News.get N5 (List.Mem.head _))
    case n => exact (N5 _ (List.Mem.head _)).2.2
end
end LInfoS
section LSetdS
section
variable {w : World} {mean : ExcName → Option Value} {mg mb : Str → Option Value} {dp un : Nat} {gd : Option (List Code)} {outer : List Env} {H₀ : Heap} {s : Shared} {Q E : Value → Shared → Prop}
theorem setd_spec (C : Cx w mean mg mb H₀) (st : H₀.StaysIn s.heap) (hd1 : dp + 30 < recursionLimit) {d dx hl : Addr} {hh : Int} {t0 t tv : Tok} {vx : Str} {n : Nat} {refs : List Value} {ps : List (Str × Str)} {x : Str}
    (hi : s.heap.get? d = some (instObj 300 dx)) (hdi : s.heap.get? dx = some (dictOf [⟨hh, .str (Str.ofString "_headers") t0, .ref hl⟩] 1)) (hls : s.heap.get? hl = some (W.listOf refs.toArray n)) (htp : TupsAre s.heap refs ps)
    (hd0 : H₀.get? d = none) (hdx0 : H₀.get? dx = none) (hl0 : H₀.get? hl = none) (hx : x ∈ W10) (hps : ∀ p ∈ ps, p.1 ∈ W10) (hlen : refs.length ≤ 100)
    (hret1 : ∀ p ∈ ps, low p.1 = low x → ∀ h' tk' t', Grow s.heap h' [] → Q (.str p.2 t') { s with heap := h', toks := tk' })
    (hret0 : (∀ p ∈ ps, low p.1 ≠ low x) → vx = Str.ofString "in" ∧ ∀ h' tk' a t1 t2 k, Grow s.heap h' [hl] → s.heap.get? a = none → h'.get? a = some { cls := .type "tuple", data := .seq #[.str x t1, .str vx t2] k } →
      h'.get? hl = some (W.listOf (refs ++ [Value.ref a]).toArray (n + 1)) → Q (.str vx tv) { s with heap := h', toks := tk' }) :
    wpAny (model PW w) (around dp un gd outer) (call (.ref 290) [.ref d, .str x t, .str vx tv] []) Q E s := by
  k_with_none
  w_top off
  k_with "mine:fill" => (have _kf : (PySem.Challenge.rw_wk0041_01, _root_.hd.heap_1) = (PySem.Challenge.rw_wk0041_01, _root_.hd.heap_1) := by (k_fill; rfl))
  k_with "mine:room" => (first | assumption | (simp only [around, Around.deeper, Around.mark, Around.in1, recursionLimit] at *; omega))
  k_with "mine:entercases" => (
    (case ho => k_dflt k_is)
    (case hcd => k_dflt k_is)
    (case hroom => k_extra "mine:room")
    (case hbind => first | exact BindsTo.of_eq rfl | exact binds_K (by k_in) rfl (by k_is) rfl rfl rfl | exact kp_binds (Frag.In.keeps X st) fun _ => rfl)
    (case hkind => exact rfl)
    (case hnd => decide +kernel)
    (case ht => (first | exact List.forall_mem_nil _ | (simp only [List.forall_mem_cons]; simp_all)))
    (case h0 => (first | exact List.forall_mem_nil _ | (simp only [List.forall_mem_cons]; simp_all)))
    (case c1 => exact rfl)
    (case c2 => exact rfl)
    (case c3 => exact rfl))
  k_with "mine:cells" => (
    (first | (k_cells Y') | (have hY := cellsNil Y'; subst hY))
    (try simp only [List.cons_append, List.nil_append, List.append_nil] at N')
    (try dsimp only)
    (try k_fold))
  k_with "mine:go" => (
    (fail_if_success (with_reducible show LCt.CompRestT _ _ _ _ _ _ _ _ _ _ _ _ _ _ _ _ _ _ _ _))
    (fail_if_success (with_reducible show LCg.CompRest _ _ _ _ _ _ _ _ _ _ _ _ _ _ _ _ _ _ _))
    (fail_if_success (with_reducible show ForSrc _ _ _ _ _ _ _ _ _ _ _))
    (first | (k_unfold; (try dsimp only)) | (k_end; wrow_close) | walk1 | (dsimp only; walk1) | (leave1; walk_say "STEP leave1"; try dsimp only) | fail "no step"))
  k_with "mine:same" => exact ⟨_, _, rfl, by assumption, by assumption⟩
  k_with "mine:hdp" => ((try dsimp only [around, Around.deeper]); omega)
  k_with "mine:mapsA" => (repeat' (first | exact List.forall_mem_nil _ | refine List.forall_mem_cons.mpr ⟨by with_unfolding_all rfl, ?_⟩))
  k_with "mine:memS" => ((repeat (first | (with_reducible exact List.mem_cons_self) | refine List.mem_cons_of_mem _ ?_)); done)
  k_with "mine:mapsB" => (
    (intro y hy)
    (try dsimp only)
    (repeat refine (if_neg (hy _ (by k_extra "mine:memS"))).trans ?_)
    (refine Eq.symm ?_)
    (repeat refine (if_neg (hy _ (by k_extra "mine:memS"))).trans ?_)
    rfl)
  k_with "call ref" => (
    (with_reducible show wpAny _ _ (call (Value.ref 247) _ _) _ _ _)
    (with_reducible rename Fr _ _ _ _ => F9)
    (with_reducible rename News _ _ _ _ => N9)
    (with_unfolding_all refine' get_core C (fun b o e => F9.keep b o (stg b o e)) ?hdp (News.get N9 ?m1) (News.get N9 ?m2) (News.get N9 ?m3) (TupsAre.keeps htg fun b o e _ => F9.keep b o e) hd0 hdx0 hx hps _ _ get_one ?r1 ?r0)
    (case hdp => k_extra "mine:hdp")
    (case m1 => k_mem)
    (case m2 => k_mem)
    (case m3 => k_mem)
    (case' r1 => (intro p9 hp1 hl1' h9 tk9 t9 G9; have F9' := fr_grow F9 G9; have N9' := news_grow N9 G9; clear F9 N9 G9))
    (case' r0 => (intro hp0 h9 tk9 G9; obtain ⟨hv9, hq0⟩ := hret0 hp0; subst hv9; have F9' := fr_grow F9 G9; have N9' := news_grow N9 G9; clear F9 N9 G9)))
  k_with "call ref" => (
    (with_reducible show wpAny _ _ (call (Value.ref 199) _ _) _ _ _)
    (with_reducible rename Fr _ _ _ _ => F9)
    (first
      | (with_unfolding_all refine convT_spec C (fun b o e => F9.keep b o (stg b o e)) ?hdp _ hsr ?_)
      | (with_unfolding_all refine convF_spec C (fun b o e => F9.keep b o (stg b o e)) ?hdp _ hsv ?_))
    (case hdp => k_extra "mine:hdp")
    (intro h9 tk9 G9)
    (have F9' := fr_grow F9 G9)
    (rename News _ _ _ _ => N9)
    (have N9' := news_grow N9 G9)
    (clear F9 N9 G9))
  have C0 := C
  obtain ⟨X, T⟩ := C
  have C := C0
  have hsr := srch_is hx
  have hsv := srch_11
  k_extra "mine:fill"
  refine' enterK [(d, instObj 300 dx), (dx, dictOf [⟨hh, .str (Str.ofString "_headers") t0, .ref hl⟩] 1), (hl, W.listOf refs.toArray n)] X st T.nolimit ?ho ?hcd ?hroom ?hbind ?hkind ?hnd ?ht ?h0 ?_ ?c1 ?c2 ?c3
  k_extra "mine:entercases"
  intro g' L' h' tk' cells' eL eg stg X' F' N' Y' l1
  have T' := T.keeps stg
  k_extra "mine:cells"
  clear Y'
  replace F' : Fr g' L' h' (fun z => if z = Str.ofString "value" then some (.str vx tv) else if z = Str.ofString "name" then some (.str x t) else if z = Str.ofString "self" then some (.ref d) else none) := by with_unfolding_all exact F'
  have nd : ∀ b o, s.heap.get? b = some o → b ≠ d → b ≠ dx → b ≠ hl → g'.get? b = some o := fun b o e h1 h2 h3 => eg ▸ hideAll_get _ e (by simp [h1, h2, h3])
  have hl1 : @Ne Nat hl d := by intro e; subst e; rw [hls] at hi; cases hi
  have hl2 : @Ne Nat hl dx := by intro e; subst e; rw [hls] at hdi; exact absurd (congrArg Obj.cls (Option.some.inj hdi)) (by show ¬ (Value.type "list" = Value.type "dict"); decide)
  have hl3 : @Ne Nat d dx := by intro e; subst e; rw [hdi] at hi; cases hi
  have htg : TupsAre g' refs ps := htp.keeps fun b o e hc => nd b o e (by intro q; subst q; rw [hi] at e; cases e; cases hc) (by intro q; subst q; rw [hdi] at e; cases e; exact absurd hc (by show ¬ (Value.type "dict" = Value.type "tuple"); decide)) (by intro q; subst q; rw [hls] at e; cases e; exact absurd hc (by show ¬ (Value.type "list" = Value.type "tuple"); decide))
  repeat' k_extra "mine:go"
  · dsimp only
    rename Fr _ _ _ _ => F9
    rename News _ _ _ _ => N9
    refine hq0 _ _ _ _ _ _ (grow_back eg F9 N9 (by simp [hi, hdi])) (fresh_back eg N9 (List.Mem.head _) ?ne) (News.get N9 (List.Mem.head _)) ?ls
    case ne =>
      rename _ < _ ∧ _ < _ ∧ _ < _ => lD
      simp only [List.map_cons, List.map_nil, List.mem_cons, List.not_mem_nil, or_false, not_or]
      exact ⟨Nat.ne_of_gt lD.1, Nat.ne_of_gt lD.2.1, Nat.ne_of_gt lD.2.2⟩
    case ls =>
      rw [← List.push_toArray]
      exact News.get N9 (List.Mem.tail _ (List.Mem.tail _ (List.Mem.tail _ (List.Mem.head _))))
  · dsimp only
    rename Fr _ _ _ _ => F9
    rename News _ _ _ _ => N9
    exact hret1 _ hp1 hl1' _ _ _ (grow_back eg F9 N9 (by simp [hi, hdi, hls]))
end
end LSetdS
section LStepS
theorem split_a : ((List.range' 0 4).all fun k => Txt.split (Txt.join (Str.ofString ", ") (prettyWords (4296015872 + ((k : Nat) : Int)))) (Str.ofString ", ") == prettyWords (4296015872 + ((k : Nat) : Int))) = true := by rw [PySem.W.Fast.sDec_eq]; kernel_rfl
theorem split_b : ((List.range' 4 4).all fun k => Txt.split (Txt.join (Str.ofString ", ") (prettyWords (4296015872 + ((k : Nat) : Int)))) (Str.ofString ", ") == prettyWords (4296015872 + ((k : Nat) : Int))) = true := by rw [PySem.W.Fast.sDec_eq]; kernel_rfl
theorem split_c : ((List.range' 8 4).all fun k => Txt.split (Txt.join (Str.ofString ", ") (prettyWords (4296015872 + ((k : Nat) : Int)))) (Str.ofString ", ") == prettyWords (4296015872 + ((k : Nat) : Int))) = true := by rw [PySem.W.Fast.sDec_eq]; kernel_rfl
theorem split_d : ((List.range' 12 4).all fun k => Txt.split (Txt.join (Str.ofString ", ") (prettyWords (4296015872 + ((k : Nat) : Int)))) (Str.ofString ", ") == prettyWords (4296015872 + ((k : Nat) : Int))) = true := by rw [PySem.W.Fast.sDec_eq]; kernel_rfl
theorem split_e : ((List.range' 1 7).all fun k => Txt.split (Txt.join (Str.ofString ", ") (prettyWords ((k : Nat) : Int))) (Str.ofString ", ") == prettyWords ((k : Nat) : Int)) = true := by rw [PySem.W.Fast.sDec_eq]; kernel_rfl
theorem split_f : ((List.range' 8 8).all fun k => Txt.split (Txt.join (Str.ofString ", ") (prettyWords ((k : Nat) : Int))) (Str.ofString ", ") == prettyWords ((k : Nat) : Int)) = true := by rw [PySem.W.Fast.sDec_eq]; kernel_rfl
theorem split_NS : ∀ n ∈ NS, Txt.split (Txt.join (Str.ofString ", ") (prettyWords n)) (Str.ofString ", ") = prettyWords n := by
  intro n hn
  rcases List.mem_append.mp hn with h | h
  · obtain ⟨k, hk, rfl⟩ := List.mem_map.mp h
    have hk := List.mem_range.mp hk
    by_cases h1 : k < 4
    · exact beq_iff_eq.mp (List.all_eq_true.mp split_a k (List.mem_range'_1.mpr (by omega)))
    by_cases h2 : k < 8
    · exact beq_iff_eq.mp (List.all_eq_true.mp split_b k (List.mem_range'_1.mpr (by omega)))
    by_cases h3 : k < 12
    · exact beq_iff_eq.mp (List.all_eq_true.mp split_c k (List.mem_range'_1.mpr (by omega)))
    · exact beq_iff_eq.mp (List.all_eq_true.mp split_d k (List.mem_range'_1.mpr (by omega)))
  · obtain ⟨k, hk, rfl⟩ := List.mem_map.mp h
    have hk := List.mem_range'_1.mp hk
    by_cases h1 : k < 8
    · exact beq_iff_eq.mp (List.all_eq_true.mp split_e k (List.mem_range'_1.mpr (by omega)))
    · exact beq_iff_eq.mp (List.all_eq_true.mp split_f k (List.mem_range'_1.mpr (by omega)))
theorem join_NS : ∀ n ∈ NS, (Txt.join (Str.ofString ", ") (prettyWords n)).length + 2 ≤ 1000 := by decide +kernel
noncomputable def fewB (x : Int) : Bool := [0, 1, 2, 4, 8].any fun y => y == x
noncomputable def nb (m n : Int) : Bool := fewB (Builtin.bitAnd m (Builtin.bitNot n)) && fewB (Builtin.bitAnd n (Builtin.bitNot m))
noncomputable def w0 (m : Int) : Str := (wordsOf m).headD Str.empty
noncomputable def baseW : List Str := [Str.ofString "0x100000", Str.ofString "0x100000000"]
noncomputable def Tab (ps : List (Str × Str)) (mk : Int) : Prop := (ps.map (·.1)).Perm (baseW ++ wordsOf mk) ∧ ∀ p ∈ ps, p.2 = Str.ofString "in"
noncomputable def togK (st : List Str × Str × Str) (w : Str) : List Str × Str × Str := if w ∈ st.1 then (st.1.filter fun k => decide (low k ≠ low w), w, st.2.2) else (st.1 ++ [w], st.2.1, w)
noncomputable def togs (a : Int) (ws : List Str) : List Str × Str × Str := ws.foldl togK (baseW ++ wordsOf a, Str.empty, Str.empty)
theorem tog_end_all : ∀ a ∈ List.range 16, ∀ b ∈ List.range 16, a ≠ b → nb (a : Int) (b : Int) = true → ((togs (a : Int) (prettyWords (Builtin.bitXor (a : Int) (b : Int)))).1.isPerm (baseW ++ wordsOf (b : Int)) = true ∧ (togs (a : Int) (prettyWords (Builtin.bitXor (a : Int) (b : Int)))).2.1 = w0 (Builtin.bitAnd (a : Int) (Builtin.bitNot (b : Int))) ∧ (togs (a : Int) (prettyWords (Builtin.bitXor (a : Int) (b : Int)))).2.2 = w0 (Builtin.bitAnd (b : Int) (Builtin.bitNot (a : Int)))) ∧ (∀ x ∈ prettyWords (Builtin.bitXor (a : Int) (b : Int)), x ∈ W6) ∧ (prettyWords (Builtin.bitXor (a : Int) (b : Int))).length ≤ 2 := by decide +kernel
theorem tog_end {a b : Int} (ha : 0 ≤ a ∧ a < 16) (hb : 0 ≤ b ∧ b < 16) (hn : a ≠ b) (hnb : nb a b = true) : ((togs a (prettyWords (Builtin.bitXor a b))).1.Perm (baseW ++ wordsOf b) ∧ (togs a (prettyWords (Builtin.bitXor a b))).2.1 = w0 (Builtin.bitAnd a (Builtin.bitNot b)) ∧ (togs a (prettyWords (Builtin.bitXor a b))).2.2 = w0 (Builtin.bitAnd b (Builtin.bitNot a))) ∧ (∀ x ∈ prettyWords (Builtin.bitXor a b), x ∈ W6) ∧ (prettyWords (Builtin.bitXor a b)).length ≤ 2 := by
  have := tog_end_all a.toNat (List.mem_range.mpr (by omega)) b.toNat (List.mem_range.mpr (by omega)) (by omega)
  rw [Int.toNat_of_nonneg ha.1, Int.toNat_of_nonneg hb.1] at this
  have := this hnb
  exact ⟨⟨List.isPerm_iff.mp this.1.1, this.1.2⟩, this.2⟩
theorem togK_W6 {st : List Str × Str × Str} {w : Str} (h : ∀ k ∈ st.1, k ∈ W6) (hw : w ∈ W6) : ∀ k ∈ (togK st w).1, k ∈ W6 := by
  unfold togK
  split
  · intro k hk; exact h k (List.mem_filter.mp hk).1
  · intro k hk
    rcases List.mem_append.mp hk with hk | hk
    · exact h k hk
    · rw [List.mem_singleton.mp hk]; exact hw
theorem low_inj : ∀ x ∈ W6, ∀ y ∈ W6, low x = low y → x = y := by decide +kernel
theorem low_low : ∀ x ∈ W6, low (low x) = low x := by decide +kernel
theorem base_W6 : ∀ a ∈ List.range 16, ∀ x ∈ baseW ++ wordsOf (a : Int), x ∈ W6 := by decide +kernel
theorem tab_del {ps : List (Str × Str)} {ks : List Str} {w : Str} (h : (ps.map (·.1)).Perm ks) (hw : w ∈ W6) : ((ps.filter fun p => decide (low p.1 ≠ low (low w))).map (·.1)).Perm (ks.filter fun k => decide (low k ≠ low w)) := by
  rw [low_low w hw]
  have := h.filter (fun k => decide (low k ≠ low w))
  rw [List.filter_map] at this
  exact this
theorem tab_has {ps : List (Str × Str)} {ks : List Str} {w : Str} (h : (ps.map (·.1)).Perm ks) (hk : ∀ k ∈ ks, k ∈ W6) (hw : w ∈ W6) : (∃ p ∈ ps, low p.1 = low w) ↔ w ∈ ks := by
  constructor
  · rintro ⟨p, hp, e⟩
    have hm : p.1 ∈ ks := h.mem_iff.mp (List.mem_map_of_mem hp)
    rw [← low_inj _ (hk _ hm) _ hw e]
    exact hm
  · intro hm
    obtain ⟨p, hp, e⟩ := List.mem_map.mp (h.mem_iff.mpr hm)
    exact ⟨p, hp, by rw [e]⟩
theorem togf_W6 : ∀ (ws : List Str) (st : List Str × Str × Str), (∀ k ∈ st.1, k ∈ W6) → (∀ x ∈ ws, x ∈ W6) → ∀ k ∈ (ws.foldl togK st).1, k ∈ W6
  | [], _, h, _ => h
  | w :: r, st, h, hw => togf_W6 r (togK st w) (togK_W6 h (hw w (by simp))) fun x hx => hw x (by simp [hx])
theorem togs_W6 {a : Int} (ha : 0 ≤ a ∧ a < 16) {ws : List Str} (hw : ∀ x ∈ ws, x ∈ W6) : ∀ k ∈ (togs a ws).1, k ∈ W6 :=
  togf_W6 ws _ (fun k hk => by
    have := base_W6 a.toNat (List.mem_range.mpr (by omega)) k
    rw [Int.toNat_of_nonneg ha.1] at this
    exact this hk) hw
theorem togs_snoc {a : Int} {ws : List Str} {i : Nat} {y : Str} (h : ws[i]? = some y) : togs a (ws.take (i + 1)) = togK (togs a (ws.take i)) y := by
  rw [List.take_add_one, h]
  simp only [Option.toList_some, togs, List.foldl_append, List.foldl_cons, List.foldl_nil]
theorem togs_in {a : Int} {ws : List Str} {i : Nat} {y : Str} (h : ws[i]? = some y) (hk : y ∈ (togs a (ws.take i)).1) : (togs a (ws.take (i + 1))).1 = ((togs a (ws.take i)).1.filter fun k => decide (low k ≠ low y)) ∧ (togs a (ws.take (i + 1))).2.1 = y ∧ (togs a (ws.take (i + 1))).2.2 = (togs a (ws.take i)).2.2 := by
  rw [togs_snoc h, togK, if_pos hk]; exact ⟨rfl, rfl, rfl⟩
theorem togs_out {a : Int} {ws : List Str} {i : Nat} {y : Str} (h : ws[i]? = some y) (hk : ¬ y ∈ (togs a (ws.take i)).1) : (togs a (ws.take (i + 1))).1 = (togs a (ws.take i)).1 ++ [y] ∧ (togs a (ws.take (i + 1))).2.1 = (togs a (ws.take i)).2.1 ∧ (togs a (ws.take (i + 1))).2.2 = y := by
  rw [togs_snoc h, togK, if_neg hk]; exact ⟨rfl, rfl, rfl⟩
end LStepS
section LWalkS
noncomputable def WhileSrc (prog : Program) (w : World) (A : Around) (E : Value → Shared → Prop) (env : Env) (test : Expr) (body : List Stmt) (pos : Pos) (Q : Flow → Shared → Prop) (s : Shared) : Prop := wpAny (model prog w) A (exec (.While test body [] pos) env) Q E s
theorem While_src {prog : Program} {w : World} {A : Around} {E : Value → Shared → Prop} {env : Env} {test : Expr} {body : List Stmt} {pos : Pos} {Q : Flow → Shared → Prop} {s : Shared} (h : WhileSrc prog w A E env test body pos Q s) : wpAny (model prog w) A (exec (.While test body [] pos) env) Q E s := h
noncomputable def nears (m : Int) : List Int := ((List.range' 0 16).filter fun i : Nat => nb m (i : Int)).map fun i : Nat => (i : Int)
theorem nears_len (m : Int) : (nears m).length ≤ 16 := by
  rw [nears, List.length_map]
  exact Nat.le_trans (List.length_filter_le _ _) (by decide)
theorem nears_mem {m k : Int} : k ∈ nears m ↔ (0 ≤ k ∧ k < 16) ∧ nb m k = true := by
  simp only [nears, List.mem_map, List.mem_filter, List.mem_range'_1]
  constructor
  · rintro ⟨i, ⟨hi, hb⟩, rfl⟩
    exact ⟨by omega, hb⟩
  · rintro ⟨h, hb⟩
    exact ⟨k.toNat, ⟨by omega, by rw [Int.toNat_of_nonneg h.1]; exact hb⟩, Int.toNat_of_nonneg h.1⟩
theorem nb_self : ∀ k ∈ List.range 16, nb (k : Int) (k : Int) = true := by decide +kernel
theorem nb_refl {m : Int} (h : 0 ≤ m ∧ m < 16) : nb m m = true := by
  have := nb_self m.toNat (List.mem_range.mpr (by omega))
  rwa [Int.toNat_of_nonneg h.1] at this
theorem sel_range {b : Nat → Bool} {k i : Nat} {rs : List Value} (S : Sel (fun (i : Nat) (v : Value) => ∃ t, v = .int (0 + (i : Int)) t) (fun i _ => b i) (fun _ v y => y = v) k i rs) : IntsAre rs (((List.range' i k).filter b).map fun i : Nat => (i : Int)) := by
  induction S with
  | nil => exact .nil
  | @yes k i v y ys hv ht hR _ ih =>
    subst hR
    obtain ⟨t, rfl⟩ := hv
    rw [List.range'_succ, List.filter_cons_of_pos ht, List.map_cons, Int.zero_add]
    exact .cons _ t ih
  | @no k i v ys hv ht _ ih =>
    rw [List.range'_succ, List.filter_cons_of_neg (by rw [ht]; decide)]
    exact ih
/-- b is the neighbour of a that the walk steps to -/
noncomputable def Step (ns : List Int) (a b : Int) : Prop := 0 ≤ b ∧ b < 16 ∧ nb a b = true ∧ ns.getD a.toNat 0 < ns.getD b.toNat 0 ∧ ∀ n : Int, 0 ≤ n → n < 16 → nb a n = true → ns.getD n.toNat 0 ≤ ns.getD b.toNat 0
inductive Path (ns : List Int) (a : Int) : List (Str × Str) → Int → Prop
  | nil : Path ns a [] a
  | snoc {gs b c} : Path ns a gs b → Step ns b c → Path ns a (gs ++ [(w0 (Builtin.bitAnd b (Builtin.bitNot c)), w0 (Builtin.bitAnd c (Builtin.bitNot b)))]) c
noncomputable def Top1 (ns : List Int) (a : Int) : Prop := ∀ n : Int, 0 ≤ n → n < 16 → nb a n = true → ns.getD n.toNat 0 ≤ ns.getD a.toNat 0
noncomputable def above (ns : List Int) (a : Int) : Nat := ((List.range 16).filter fun k => decide (ns.getD a.toNat 0 < ns.getD k 0)).length
theorem own_cell {g h : Heap} {L c : Addr} {oc : Obj} {v : Option Value} {own news : List (Addr × Obj)} (N : News g L h news) (hoc : ∀ p ∈ own, ∃ a b t1 t2 k, p.2 = tupO a b t1 t2 k) (hs : ∀ p ∈ own, p ∈ news) (hm : (c, oc) ∈ news) (hd : oc.data = Data.cell v) : ∀ p ∈ own, p.1 ≠ c := fun p hp e => by
  obtain ⟨a, b, t1, t2, k, e2⟩ := hoc p hp
  have h1 := (N p (hs p hp)).1
  have h2 := (N _ hm).1
  rw [e] at h1
  dsimp only at h2
  rw [h2] at h1
  have h3 : oc = p.2 := Option.some.inj h1
  rw [h3, e2] at hd
  cases hd
theorem fr_same {g h : Heap} {L : Addr} {m m' : Str → Option Value} (F : Fr g L h m) (e : m = m') : Fr g L h m' := e ▸ F
theorem xor_all : ∀ a ∈ List.range 16, ∀ b ∈ List.range 16, a ≠ b → Builtin.bitXor (a : Int) (b : Int) ∈ NS := by decide +kernel
theorem xor_NS {a b : Int} (ha : 0 ≤ a ∧ a < 16) (hb : 0 ≤ b ∧ b < 16) (hn : a ≠ b) : Builtin.bitXor a b ∈ NS := by
  have := xor_all a.toNat (List.mem_range.mpr (by omega)) b.toNat (List.mem_range.mpr (by omega)) (by omega)
  rwa [Int.toNat_of_nonneg ha.1, Int.toNat_of_nonneg hb.1] at this
theorem getD_mem {l : List Int} (h : 0 < l.length) : l.getD 0 0 ∈ l := by
  rcases l with _ | ⟨a, r⟩
  · exact absurd h (by simp)
  · exact List.Mem.head _
theorem news_drop2 {g h : Heap} {L : Addr} {p q : Addr × Obj} {r : List (Addr × Obj)} (N : News g L h (p :: q :: r)) : News g L h (p :: r) := fun u hu => N u (by
  rcases List.mem_cons.mp hu with e | e
  · rw [e]; exact List.Mem.head _
  · exact List.Mem.tail _ (List.Mem.tail _ e))
theorem news_at {g h : Heap} {L : Addr} (I : Addr) (oI : Obj) {r : List (Addr × Obj)} (N : News g L h ((I, oI) :: r)) : News g L h ((I, oI) :: r) := N
theorem own_cls {g h : Heap} {L c : Addr} {oc : Obj} {own news : List (Addr × Obj)} (N : News g L h news) (hoc : ∀ p ∈ own, ∃ a b t1 t2 k, p.2 = tupO a b t1 t2 k) (hs : ∀ p ∈ own, p ∈ news) (hm : (c, oc) ∈ news) (hd : Value.type "tuple" ≠ oc.cls) : ∀ p ∈ own, p.1 ≠ c := fun p hp => clash (N p (hs p hp)).1 (N _ hm).1 (by
  obtain ⟨a, b, t1, t2, k, e2⟩ := hoc p hp
  rw [e2]
  exact hd)
theorem filt_le {p q : Nat → Bool} (h : ∀ x, p x = true → q x = true) : ∀ l : List Nat, (l.filter p).length ≤ (l.filter q).length
  | [] => Nat.le_refl _
  | a :: r => by
    have ih := filt_le h r
    cases hp : p a with
    | true => rw [List.filter_cons_of_pos hp, List.filter_cons_of_pos (h a hp)]; exact Nat.succ_le_succ ih
    | false =>
      rw [List.filter_cons_of_neg (by simp [hp])]
      cases hq : q a with
      | true => rw [List.filter_cons_of_pos hq]; exact Nat.le_succ_of_le ih
      | false => rw [List.filter_cons_of_neg (by simp [hq])]; exact ih
theorem filt_lt {p q : Nat → Bool} (h : ∀ x, p x = true → q x = true) : ∀ l : List Nat, (∃ x ∈ l, q x = true ∧ p x = false) → (l.filter p).length < (l.filter q).length
  | [], ⟨_, hx, _⟩ => nomatch hx
  | a :: r, ⟨x, hx, hq, hp⟩ => by
    rcases List.mem_cons.mp hx with rfl | hx
    · rw [List.filter_cons_of_neg (by simp [hp]), List.filter_cons_of_pos hq]
      exact Nat.lt_succ_of_le (filt_le h r)
    · have ih := filt_lt h r ⟨x, hx, hq, hp⟩
      cases hpa : p a with
      | true => rw [List.filter_cons_of_pos hpa, List.filter_cons_of_pos (h a hpa)]; exact Nat.succ_lt_succ ih
      | false =>
        rw [List.filter_cons_of_neg (by simp [hpa])]
        cases hqa : q a with
        | true => rw [List.filter_cons_of_pos hqa]; exact Nat.lt_succ_of_lt ih
        | false => rw [List.filter_cons_of_neg (by simp [hqa])]; exact ih
theorem above_lt {ns : List Int} {a b : Int} (h : Step ns a b) : above ns b < above ns a :=
  filt_lt (fun x hx => decide_eq_true (Int.lt_trans h.2.2.2.1 (of_decide_eq_true hx))) _ ⟨b.toNat, List.mem_range.mpr (by have := h.1; have := h.2.1; omega), decide_eq_true h.2.2.2.1, decide_eq_false (by omega)⟩
theorem news_ins {g h h' : Heap} {L a : Addr} {o : Obj} {m : Str → Option Value} {n : Nat} {news : List (Addr × Obj)} (F : Fr g L h m) (N : News g L h' news) (hn : h.get? a = none) (ha : h'.get? a = some o) : News g L h' (news.take n ++ (a, o) :: news.drop n) := fun q hq => by
  rcases List.mem_append.mp hq with e | e
  · exact N q (List.mem_of_mem_take e)
  · rcases List.mem_cons.mp e with e | e
    · subst e
      exact ⟨ha, fun e => frame_ne F hn e.symm, nold F.keep hn⟩
    · exact N q (List.mem_of_mem_drop e)
theorem put_news {P : Prop} {g h h' : Heap} {L a : Addr} {o o' : Obj} {news : List (Addr × Obj)} {u : Obj → List (Addr × Obj)} (N : News g L h news) (U : UpdF a o news u) (G : Grow h h' [a]) (ho : h'.get? a = some o') (k : News g L h' (u o') → P) : P := k (by
  obtain ⟨pre, post, rfl, e, hp, hq⟩ := U.split
  rw [e]
  exact news_put N G ho hp hq)
inductive Ins (p : Addr × Obj) : List (Addr × Obj) → List (Addr × Obj) → Prop
  | here {own} : Ins p own (p :: own)
  | there {q r r'} : Ins p r r' → Ins p (q :: r) (q :: r')
theorem Ins.mem {p q : Addr × Obj} {r r' : List (Addr × Obj)} (I : Ins p r r') : q ∈ r' → q = p ∨ q ∈ r := by
  induction I with
  | here => intro h; exact List.mem_cons.mp h
  | there _ ih =>
    intro h
    rcases List.mem_cons.mp h with e | e
    · exact .inr (e ▸ List.Mem.head _)
    · exact (ih e).imp id fun h => List.Mem.tail _ h
theorem put_ins {P : Prop} {g h h' : Heap} {L a : Addr} {o : Obj} {m : Str → Option Value} {news news' : List (Addr × Obj)} (F : Fr g L h m) (N : News g L h' news) (I : Ins (a, o) news news') (hn : h.get? a = none) (ha : h'.get? a = some o) (k : News g L h' news' → P) : P := k fun q hq => by
  rcases I.mem hq with e | e
  · subst e
    exact ⟨ha, fun e => frame_ne F hn e.symm, nold F.keep hn⟩
  · exact N q e
theorem above_le (ns : List Int) (a : Int) : ([] : List (Str × Str)).length + above ns a ≤ 16 := by
  rw [List.length_nil, Nat.zero_add]
  exact Nat.le_trans (List.length_filter_le _ _) (by simp)
section
variable {w : World} {mean : ExcName → Option Value} {mg mb : Str → Option Value} {dp un : Nat} {gd : Option (List Code)} {outer : List Env} {H₀ : Heap} {s : Shared} {Q E : Value → Shared → Prop}
theorem walk_spec (C : Cx w mean mg mb H₀) (st : H₀.StaysIn s.heap) (hd1 : dp + 60 < recursionLimit) (hun : un + 200 < cLine) {d dx hl x px na : Addr} {hh hz : Int} {t0 z0 z1 tm : Tok} {n m : Nat} {refs xs vn : List Value} {ps gs : List (Str × Str)} {ns : List Int} {mk : Int}
    (hi : s.heap.get? d = some (instObj 300 dx)) (hdi : s.heap.get? dx = some (dictOf [⟨hh, .str (Str.ofString "_headers") t0, .ref hl⟩] 1)) (hls : s.heap.get? hl = some (W.listOf refs.toArray n)) (htp : TupsAre s.heap refs ps)
    (hxi : s.heap.get? x = some (accObj px xs m)) (hpx : s.heap.get? px = some (accD hz z0 z1)) (hxt : TupsAre s.heap xs gs)
    (hd0 : H₀.get? d = none) (hdx0 : H₀.get? dx = none) (hl0 : H₀.get? hl = none) (hx0 : H₀.get? x = none) (hpx0 : H₀.get? px = none)
    (hn : s.heap.IsList na vn.toArray) (hne : @Ne Nat na hl) (hni : IntsAre vn ns) (hnl : ns.length = 16) (hm : 0 ≤ mk ∧ mk < 16)
    (hr0 : ∀ a, Value.ref a ∈ refs → H₀.get? a = none) (htab : Tab ps mk) (hgl : gs.length ≤ 40) (hx1 : ∀ a, Value.ref a ∈ xs → H₀.get? a = none)
    (hret : ∀ h' tk' t' mk' refs' n' ps' xs' m' gs', Grow s.heap h' [hl, x] → h'.get? hl = some (W.listOf (List.toArray refs') n') → h'.get? x = some (accObj px xs' m') → TupsAre h' refs' ps' → TupsAre h' xs' (gs ++ gs') → Path ns mk gs' mk' → Top1 ns mk' → 0 ≤ mk' ∧ mk' < 16 → Tab ps' mk' → (∀ a, Value.ref a ∈ refs' → H₀.get? a = none) → (∀ a, Value.ref a ∈ xs' → H₀.get? a = none) → Q (.int mk' t') { s with heap := h', toks := tk' }) :
    wpAny (model PW w) (around dp un gd outer) (call (.ref 333) [.ref d, .ref x, .ref na, .int mk tm] []) Q E s := by
  k_with_none
  w_top off
  k_with "mine:fill" => (have _kf : (PySem.Challenge.rw_wk0041_01, _root_.hd.heap_1) = (PySem.Challenge.rw_wk0041_01, _root_.hd.heap_1) := by (k_fill; rfl))
  k_with "mine:room" => (first | assumption | (simp only [around, Around.deeper, Around.mark, Around.in1, recursionLimit] at *; omega))
  k_with "mine:entercases" => (
    (case ho => k_dflt k_is)
    (case hcd => k_dflt k_is)
    (case hroom => k_extra "mine:room")
    (case hbind => first | exact BindsTo.of_eq rfl | exact binds_K (by k_in) rfl (by k_is) rfl rfl rfl | exact kp_binds (Frag.In.keeps X st) fun _ => rfl)
    (case hkind => exact rfl)
    (case hnd => decide +kernel)
    (case ht => (first | exact List.forall_mem_nil _ | (simp only [List.forall_mem_cons]; simp_all)))
    (case h0 => (first | exact List.forall_mem_nil _ | (simp only [List.forall_mem_cons]; simp_all)))
    (case c1 => exact rfl)
    (case c2 => exact rfl)
    (case c3 => exact rfl))
  k_with "mine:cells" => (
    (first | (k_cells Y') | (have hY := cellsNil Y'; subst hY))
    (try simp only [List.cons_append, List.nil_append, List.append_nil] at N')
    (try dsimp only)
    (try k_fold))
  k_with "mine:go" => (
    (fail_if_success (with_reducible show LCt.CompRestT _ _ _ _ _ _ _ _ _ _ _ _ _ _ _ _ _ _ _ _))
    (fail_if_success (with_reducible show LCg.CompRest _ _ _ _ _ _ _ _ _ _ _ _ _ _ _ _ _ _ _))
    (fail_if_success (with_reducible show ForSrc _ _ _ _ _ _ _ _ _ _ _))
    (first | (k_unfold; (try dsimp only)) | (k_end; wrow_close) | walk1 | (dsimp only; walk1) | (leave1; walk_say "STEP leave1"; try dsimp only) | fail "no step"))
  k_with "mine:same" => exact ⟨_, _, rfl, by assumption, by assumption⟩
  k_with "mine:hdp" => ((try dsimp only [around, Around.deeper]); omega)
  k_with "mine:mapsA" => (repeat' (first | exact List.forall_mem_nil _ | refine List.forall_mem_cons.mpr ⟨by with_unfolding_all rfl, ?_⟩))
  k_with "mine:memS" => ((repeat (first | (with_reducible exact List.mem_cons_self) | refine List.mem_cons_of_mem _ ?_)); done)
  k_with "mine:mapsB" => (
    (intro y hy)
    (try dsimp only)
    (repeat refine (if_neg (hy _ (by k_extra "mine:memS"))).trans ?_)
    (refine Eq.symm ?_)
    (repeat refine (if_neg (hy _ (by k_extra "mine:memS"))).trans ?_)
    rfl)
  k_with "mine:ne" => (first
    | with_reducible assumption
    | exact Ne.symm (by with_reducible assumption)
    | exact Nat.ne_of_gt (by with_reducible assumption)
    | exact Nat.ne_of_lt (by with_reducible assumption)
    | exact Nat.ne_of_gt (And.left (by with_reducible assumption))
    | exact Nat.ne_of_lt (And.left (by with_reducible assumption))
    | exact id (And.left (by with_reducible assumption))
    | exact Ne.symm (And.left (by with_reducible assumption))
    | exact Nat.ne_of_gt (And.left (And.right (by with_reducible assumption)))
    | exact Nat.ne_of_lt (And.left (And.right (by with_reducible assumption)))
    | exact id (And.left (And.right (by with_reducible assumption)))
    | exact Ne.symm (And.left (And.right (by with_reducible assumption)))
    | exact Nat.ne_of_gt (And.left (And.right (And.right (by with_reducible assumption))))
    | exact Nat.ne_of_lt (And.left (And.right (And.right (by with_reducible assumption))))
    | exact id (And.left (And.right (And.right (by with_reducible assumption))))
    | exact Ne.symm (And.left (And.right (And.right (by with_reducible assumption))))
    | exact Nat.ne_of_gt (And.left (And.right (And.right (And.right (by with_reducible assumption)))))
    | exact Nat.ne_of_lt (And.left (And.right (And.right (And.right (by with_reducible assumption)))))
    | exact id (And.left (And.right (And.right (And.right (by with_reducible assumption)))))
    | exact Ne.symm (And.left (And.right (And.right (And.right (by with_reducible assumption)))))
    | exact Nat.ne_of_gt (And.left (And.right (And.right (And.right (And.right (by with_reducible assumption))))))
    | exact Nat.ne_of_lt (And.left (And.right (And.right (And.right (And.right (by with_reducible assumption))))))
    | exact id (And.left (And.right (And.right (And.right (And.right (by with_reducible assumption))))))
    | exact Ne.symm (And.left (And.right (And.right (And.right (And.right (by with_reducible assumption))))))
    | exact Nat.ne_of_gt (And.left (And.right (And.right (And.right (And.right (And.right (by with_reducible assumption)))))))
    | exact Nat.ne_of_lt (And.left (And.right (And.right (And.right (And.right (And.right (by with_reducible assumption)))))))
    | exact id (And.left (And.right (And.right (And.right (And.right (And.right (by with_reducible assumption)))))))
    | exact Ne.symm (And.left (And.right (And.right (And.right (And.right (And.right (by with_reducible assumption)))))))
    | exact Nat.ne_of_gt (And.left (And.right (And.right (And.right (And.right (And.right (And.right (by with_reducible assumption))))))))
    | exact Nat.ne_of_lt (And.left (And.right (And.right (And.right (And.right (And.right (And.right (by with_reducible assumption))))))))
    | exact id (And.left (And.right (And.right (And.right (And.right (And.right (And.right (by with_reducible assumption))))))))
    | exact Ne.symm (And.left (And.right (And.right (And.right (And.right (And.right (And.right (by with_reducible assumption))))))))
    | exact Nat.ne_of_gt (And.left (And.right (And.right (And.right (And.right (And.right (And.right (And.right (by with_reducible assumption)))))))))
    | exact Nat.ne_of_lt (And.left (And.right (And.right (And.right (And.right (And.right (And.right (And.right (by with_reducible assumption)))))))))
    | exact id (And.left (And.right (And.right (And.right (And.right (And.right (And.right (And.right (by with_reducible assumption)))))))))
    | exact Ne.symm (And.left (And.right (And.right (And.right (And.right (And.right (And.right (And.right (by with_reducible assumption)))))))))
    | exact Nat.ne_of_gt (And.left (And.right (And.right (And.right (And.right (And.right (And.right (And.right (And.right (by with_reducible assumption))))))))))
    | exact Nat.ne_of_lt (And.left (And.right (And.right (And.right (And.right (And.right (And.right (And.right (And.right (by with_reducible assumption))))))))))
    | exact id (And.left (And.right (And.right (And.right (And.right (And.right (And.right (And.right (And.right (by with_reducible assumption))))))))))
    | exact Ne.symm (And.left (And.right (And.right (And.right (And.right (And.right (And.right (And.right (And.right (by with_reducible assumption))))))))))
    | exact Nat.ne_of_gt (And.left (And.right (And.right (And.right (And.right (And.right (And.right (And.right (And.right (And.right (by with_reducible assumption)))))))))))
    | exact Nat.ne_of_lt (And.left (And.right (And.right (And.right (And.right (And.right (And.right (And.right (And.right (And.right (by with_reducible assumption)))))))))))
    | exact id (And.left (And.right (And.right (And.right (And.right (And.right (And.right (And.right (And.right (And.right (by with_reducible assumption)))))))))))
    | exact Ne.symm (And.left (And.right (And.right (And.right (And.right (And.right (And.right (And.right (And.right (And.right (by with_reducible assumption)))))))))))
    | exact Nat.ne_of_gt (And.left (And.right (And.right (And.right (And.right (And.right (And.right (And.right (And.right (And.right (And.right (by with_reducible assumption))))))))))))
    | exact Nat.ne_of_lt (And.left (And.right (And.right (And.right (And.right (And.right (And.right (And.right (And.right (And.right (And.right (by with_reducible assumption))))))))))))
    | exact id (And.left (And.right (And.right (And.right (And.right (And.right (And.right (And.right (And.right (And.right (And.right (by with_reducible assumption))))))))))))
    | exact Ne.symm (And.left (And.right (And.right (And.right (And.right (And.right (And.right (And.right (And.right (And.right (And.right (by with_reducible assumption))))))))))))
    | exact Nat.ne_of_gt (And.left (And.right (And.right (And.right (And.right (And.right (And.right (And.right (And.right (And.right (And.right (And.right (by with_reducible assumption)))))))))))))
    | exact Nat.ne_of_lt (And.left (And.right (And.right (And.right (And.right (And.right (And.right (And.right (And.right (And.right (And.right (And.right (by with_reducible assumption)))))))))))))
    | exact id (And.left (And.right (And.right (And.right (And.right (And.right (And.right (And.right (And.right (And.right (And.right (And.right (by with_reducible assumption)))))))))))))
    | exact Ne.symm (And.left (And.right (And.right (And.right (And.right (And.right (And.right (And.right (And.right (And.right (And.right (And.right (by with_reducible assumption)))))))))))))
    | exact Nat.ne_of_gt (And.left (And.right (And.right (And.right (And.right (And.right (And.right (And.right (And.right (And.right (And.right (And.right (And.right (by with_reducible assumption))))))))))))))
    | exact Nat.ne_of_lt (And.left (And.right (And.right (And.right (And.right (And.right (And.right (And.right (And.right (And.right (And.right (And.right (And.right (by with_reducible assumption))))))))))))))
    | exact id (And.left (And.right (And.right (And.right (And.right (And.right (And.right (And.right (And.right (And.right (And.right (And.right (And.right (by with_reducible assumption))))))))))))))
    | exact Ne.symm (And.left (And.right (And.right (And.right (And.right (And.right (And.right (And.right (And.right (And.right (And.right (And.right (And.right (by with_reducible assumption))))))))))))))
    | exact Nat.ne_of_gt (And.left (And.right (And.right (And.right (And.right (And.right (And.right (And.right (And.right (And.right (And.right (And.right (And.right (And.right (by with_reducible assumption)))))))))))))))
    | exact Nat.ne_of_lt (And.left (And.right (And.right (And.right (And.right (And.right (And.right (And.right (And.right (And.right (And.right (And.right (And.right (And.right (by with_reducible assumption)))))))))))))))
    | exact id (And.left (And.right (And.right (And.right (And.right (And.right (And.right (And.right (And.right (And.right (And.right (And.right (And.right (And.right (by with_reducible assumption)))))))))))))))
    | exact Ne.symm (And.left (And.right (And.right (And.right (And.right (And.right (And.right (And.right (And.right (And.right (And.right (And.right (And.right (And.right (by with_reducible assumption)))))))))))))))
    | exact Nat.ne_of_gt (And.right (by with_reducible assumption))
    | exact Ne.symm (And.right (by with_reducible assumption))
    | exact Nat.ne_of_gt (And.right (And.right (by with_reducible assumption)))
    | exact Ne.symm (And.right (And.right (by with_reducible assumption)))
    | exact Nat.ne_of_gt (And.right (And.right (And.right (by with_reducible assumption))))
    | exact Ne.symm (And.right (And.right (And.right (by with_reducible assumption))))
    | exact Nat.ne_of_gt (And.right (And.right (And.right (And.right (by with_reducible assumption)))))
    | exact Ne.symm (And.right (And.right (And.right (And.right (by with_reducible assumption)))))
    | exact Nat.ne_of_gt (And.right (And.right (And.right (And.right (And.right (by with_reducible assumption))))))
    | exact Ne.symm (And.right (And.right (And.right (And.right (And.right (by with_reducible assumption))))))
    | exact Nat.ne_of_gt (And.right (And.right (And.right (And.right (And.right (And.right (by with_reducible assumption)))))))
    | exact Ne.symm (And.right (And.right (And.right (And.right (And.right (And.right (by with_reducible assumption)))))))
    | exact Nat.ne_of_gt (And.right (And.right (And.right (And.right (And.right (And.right (And.right (by with_reducible assumption))))))))
    | exact Ne.symm (And.right (And.right (And.right (And.right (And.right (And.right (And.right (by with_reducible assumption))))))))
    | exact Nat.ne_of_gt (And.right (And.right (And.right (And.right (And.right (And.right (And.right (And.right (by with_reducible assumption)))))))))
    | exact Ne.symm (And.right (And.right (And.right (And.right (And.right (And.right (And.right (And.right (by with_reducible assumption)))))))))
    | exact Nat.ne_of_gt (And.right (And.right (And.right (And.right (And.right (And.right (And.right (And.right (And.right (by with_reducible assumption))))))))))
    | exact Ne.symm (And.right (And.right (And.right (And.right (And.right (And.right (And.right (And.right (And.right (by with_reducible assumption))))))))))
    | exact Nat.ne_of_gt (And.right (And.right (And.right (And.right (And.right (And.right (And.right (And.right (And.right (And.right (by with_reducible assumption)))))))))))
    | exact Ne.symm (And.right (And.right (And.right (And.right (And.right (And.right (And.right (And.right (And.right (And.right (by with_reducible assumption)))))))))))
    | exact Nat.ne_of_gt (And.right (And.right (And.right (And.right (And.right (And.right (And.right (And.right (And.right (And.right (And.right (by with_reducible assumption))))))))))))
    | exact Ne.symm (And.right (And.right (And.right (And.right (And.right (And.right (And.right (And.right (And.right (And.right (And.right (by with_reducible assumption))))))))))))
    | exact Nat.ne_of_gt (And.right (And.right (And.right (And.right (And.right (And.right (And.right (And.right (And.right (And.right (And.right (And.right (by with_reducible assumption)))))))))))))
    | exact Ne.symm (And.right (And.right (And.right (And.right (And.right (And.right (And.right (And.right (And.right (And.right (And.right (And.right (by with_reducible assumption)))))))))))))
    | exact Nat.ne_of_gt (And.right (And.right (And.right (And.right (And.right (And.right (And.right (And.right (And.right (And.right (And.right (And.right (And.right (by with_reducible assumption))))))))))))))
    | exact Ne.symm (And.right (And.right (And.right (And.right (And.right (And.right (And.right (And.right (And.right (And.right (And.right (And.right (And.right (by with_reducible assumption))))))))))))))
    | exact ne_hi (L := L') (by assumption) 1
    | exact ne_lo (L := L') (by assumption) 1
    | exact ne_hi (L := L') (by assumption) 2
    | exact ne_lo (L := L') (by assumption) 2
    | exact ne_hi (L := L') (by assumption) 3
    | exact ne_lo (L := L') (by assumption) 3
    | exact ne_hi (L := L') (by assumption) 4
    | exact ne_lo (L := L') (by assumption) 4
    | exact ne_hi (L := L') (by assumption) 5
    | exact ne_lo (L := L') (by assumption) 5
    | omega)
  k_with "mine:wmap" => (
    (refine maps_eq [Str.ofString "near", Str.ofString "goal", Str.ofString "goes", Str.ofString "comes", Str.ofString "word", Str.ofString "told", Str.ofString "pile", Str.ofString "desk"] ?_ ?_)
    · k_extra "mine:mapsA"
    · k_extra "mine:mapsB")
  k_with "m:k_ne" => (first | (refine neN ?_; (try dsimp only); assumption) | (refine neN ?_; (try dsimp only); refine Ne.symm ?_; assumption))
  k_with "m:k_all" => (first | exact hok4 | exact hok2)
  k_with "exec While" => (with_unfolding_all refine While_src ?_)
  k_with "exec While Constant" => (with_unfolding_all refine While_src ?_)
  k_with "last exec While" => (with_unfolding_all refine While_src ?_)
  k_with "exec For" => (with_unfolding_all refine For_src ?_ (by intro _; rfl))
  k_with "exec For Name Call cons nil" => (with_unfolding_all refine For_src ?_ (by intro _; rfl))
  k_with "CompSrc" => (k_here; k_dflt (first
    | (refine LCg.CompSrc.ledger (by rfl) (by k_asm) (by k_asm) (by k_mem) (by assumption) ?_)
    | (refine LCg.CompSrc.base (by rfl) (by k_asm) (by k_asm) (by assumption) (by assumption) ?_)); intro _)
  k_with "CompSrcT" => (k_here; k_dflt (first
    | (refine LCt.CompSrcT.ledger (by rfl) (by k_asm) (by k_asm) (by k_mem) (by assumption) ?_)
    | (refine LCt.CompSrcT.base (by rfl) (by k_asm) (by k_asm) (by assumption) (by assumption) ?_)
    | (refine LCt.CompSrcT.range (by rfl) (by k_asm) (by k_asm) (by assumption) (by first | decide | rfl) (by first | rfl | decide) (by first | size_fits | exact Nat.le_of_ble_eq_true rfl) ?_)); intro _)
  k_with "call builtin:str.lower" => (
    (with_reducible rename Fr _ _ _ _ => F9)
    (with_unfolding_all refine low_is hy10 _ _ _ _ _ _ _ _ _ (Frag.In.keeps X' F9.keep) ?_)
    (intro t9 k9))
  k_with "delItem ref str" => (k_here; (with_reducible show wpAny _ _ (delItem (Value.ref _) _) _ _ _); k_dflt (refine' del_own ?F ?X ?I ?hQ ?hS ?hF ?_; (case F => k_asm); (case X => k_asm); (case I => k_inst); (case hS => k_is); (case hF => k_is); (case hQ => k_is); k_whole))
  k_with "m:k_inst" => (refine' of_acc ?N ?h1 ?h2; (case N => k_asm); (case h1 => k_mem); (case h2 => k_mem))
  k_with "getMethod ref" => (k_here; (with_reducible show wpAny _ _ (getMethod (Value.ref _) _ _) _ _ _); k_dflt (refine' meth_L ?k1 ?k2 ?k3 ?k4 ?k5 ?k6 ?k7 ?k8 ?k9 ?_; (case k1 => k_asm); (case k2 => k_asm); (case k3 => k_inst); (case k4 => k_is); (case k5 => k_is); (case k6 => k_is); (case k7 => k_is); (case k8 => rfl); (case k9 => k_get); k_whole))
  have C0 := C
  obtain ⟨X, T⟩ := C
  have C := C0
  k_extra "mine:fill"
  refine' enterK [(d, instObj 300 dx), (dx, dictOf [⟨hh, .str (Str.ofString "_headers") t0, .ref hl⟩] 1), (hl, W.listOf refs.toArray n), (x, accObj px xs m), (px, accD hz z0 z1)] X st T.nolimit ?ho ?hcd ?hroom ?hbind ?hkind ?hnd ?ht ?h0 ?_ ?c1 ?c2 ?c3
  k_extra "mine:entercases"
  intro g' L' h' tk' cells' eL eg stg X' F' N' Y' l1
  have T' := T.keeps stg
  k_extra "mine:cells"
  try clear Y'
  rename_i o1 o2 o3 o4 d1 d2 d3 d4
  have n1 : @Ne Nat d dx := clash hi hdi (by show ¬ (Value.ref 300 = Value.type "dict"); decide)
  have n2 : @Ne Nat d hl := clash hi hls (by show ¬ (Value.ref 300 = Value.type "list"); decide)
  have n3 : @Ne Nat d x := clash hi hxi (by show ¬ (Value.ref 300 = Value.ref 163); decide)
  have n4 : @Ne Nat d px := clash hi hpx (by show ¬ (Value.ref 300 = Value.type "dict"); decide)
  have n5 : @Ne Nat dx hl := clash hdi hls (by show ¬ (Value.type "dict" = Value.type "list"); decide)
  have n6 : @Ne Nat dx x := clash hdi hxi (by show ¬ (Value.type "dict" = Value.ref 163); decide)
  have n7 : @Ne Nat hl x := clash hls hxi (by show ¬ (Value.type "list" = Value.ref 163); decide)
  have n8 : @Ne Nat hl px := clash hls hpx (by show ¬ (Value.type "list" = Value.type "dict"); decide)
  have n9 : @Ne Nat x px := clash hxi hpx (by show ¬ (Value.ref 163 = Value.type "dict"); decide)
  have nd : ∀ b o, s.heap.get? b = some o → o.cls = .type "tuple" → g'.get? b = some o := fun b o e hc => by
    refine eg ▸ hideAll_get _ e ?_
    simp only [List.map_cons, List.map_nil, List.mem_cons, List.not_mem_nil, or_false, not_or]
    refine ⟨clash e hi ?_, clash e hdi ?_, clash e hls ?_, clash e hxi ?_, clash e hpx ?_⟩ <;> rw [hc]
    · show ¬ (Value.type "tuple" = Value.ref 300); decide
    · show ¬ (Value.type "tuple" = Value.type "dict"); decide
    · show ¬ (Value.type "tuple" = Value.type "list"); decide
    · show ¬ (Value.type "tuple" = Value.ref 163); decide
    · show ¬ (Value.type "tuple" = Value.type "dict"); decide
  have htg : TupsAre g' refs ps := htp.keeps nd
  have hxg : TupsAre g' xs gs := hxt.keeps nd
  have hng : g'.IsList na vn.toArray := by
    obtain ⟨o, e, c, k, q⟩ := hn
    refine ⟨o, eg ▸ hideAll_get _ e ?_, c, k, q⟩
    simp only [List.map_cons, List.map_nil, List.mem_cons, List.not_mem_nil, or_false, not_or]
    refine ⟨clash e hi ?_, clash e hdi ?_, hne, clash e hxi ?_, clash e hpx ?_⟩ <;> rw [c]
    · show ¬ (Value.type "list" = Value.ref 300); decide
    · show ¬ (Value.type "list" = Value.type "dict"); decide
    · show ¬ (Value.type "list" = Value.ref 163); decide
    · show ¬ (Value.type "list" = Value.type "dict"); decide
  have q1 : @LT.lt Nat _ d L' := l1 (d, _) (by k_mem)
  have q2 : @LT.lt Nat _ dx L' := l1 (dx, _) (by k_mem)
  have q3 : @LT.lt Nat _ hl L' := l1 (hl, _) (by k_mem)
  have q4 : @LT.lt Nat _ x L' := l1 (x, _) (by k_mem)
  have q5 : @LT.lt Nat _ px L' := l1 (px, _) (by k_mem)
  have uhl1 : @Ne Nat (L' + 1) hl := by k_extra "mine:ne"
  have uhl2 : @Ne Nat (L' + 1 + 1) hl := by k_extra "mine:ne"
  have uhl3 : @Ne Nat (L' + 1 + 1 + 1) hl := by k_extra "mine:ne"
  have uhl4 : @Ne Nat (L' + 1 + 1 + 1 + 1) hl := by k_extra "mine:ne"
  have ux1 : @Ne Nat (L' + 1) x := by k_extra "mine:ne"
  have ux2 : @Ne Nat (L' + 1 + 1) x := by k_extra "mine:ne"
  have ux3 : @Ne Nat (L' + 1 + 1 + 1) x := by k_extra "mine:ne"
  have ux4 : @Ne Nat (L' + 1 + 1 + 1 + 1) x := by k_extra "mine:ne"
  have um0 : @Ne Nat d (L' + 1 + 1) := by k_extra "mine:ne"
  have ut0 : @Ne Nat d (L' + 1 + 1 + 1 + 1) := by k_extra "mine:ne"
  have um1 : @Ne Nat dx (L' + 1 + 1) := by k_extra "mine:ne"
  have ut1 : @Ne Nat dx (L' + 1 + 1 + 1 + 1) := by k_extra "mine:ne"
  have um2 : @Ne Nat px (L' + 1 + 1) := by k_extra "mine:ne"
  have ut2 : @Ne Nat px (L' + 1 + 1 + 1 + 1) := by k_extra "mine:ne"
  have uc0 : @Ne Nat (L' + 1) (L' + 1 + 1) := ne_off L' (i := 1) (j := 2) (by decide)
  have uc1 : @Ne Nat (L' + 1 + 1 + 1) (L' + 1 + 1) := ne_off L' (i := 3) (j := 2) (by decide)
  have uc2 : @Ne Nat (L' + 1 + 1 + 1 + 1) (L' + 1 + 1) := ne_off L' (i := 4) (j := 2) (by decide)
  have ud0 : @Ne Nat (L' + 1) (L' + 1 + 1 + 1 + 1) := ne_off L' (i := 1) (j := 4) (by decide)
  have ud1 : @Ne Nat (L' + 1 + 1) (L' + 1 + 1 + 1 + 1) := ne_off L' (i := 2) (j := 4) (by decide)
  have ud2 : @Ne Nat (L' + 1 + 1 + 1) (L' + 1 + 1 + 1 + 1) := ne_off L' (i := 3) (j := 4) (by decide)
  repeat' k_extra "mine:go"
  rename Fr _ _ _ _ => F6
  rename News _ _ _ _ => N6
  rename_i l6 h7 l6o h8 oF6 dF6
  replace F6 : Fr g' L' h8 (fun y => if y = Str.ofString "pile" then some (.ref x) else if y = Str.ofString "desk" then some (.ref d) else none) := by with_unfolding_all exact F6
  have l6h : @Ne Nat l6 hl := by k_extra "mine:ne"
  have l6x : @Ne Nat l6 x := by k_extra "mine:ne"
  have l6m : @Ne Nat l6 (L' + 1 + 1) := by k_extra "mine:ne"
  have l6t : @Ne Nat l6 (L' + 1 + 1 + 1 + 1) := by k_extra "mine:ne"
  obtain ⟨e0, e1, e2, e4, e8, N6'⟩ : ∃ e0 e1 e2 e4 e8, News g' L' h8 ((l6, W.listOf #[.int 0 e0, .int 1 e1, .int 2 e2, .int 4 e4, .int 8 e8] 0) :: (L' + 1 + 1 + 1 + 1, o1) :: (L' + 1 + 1 + 1, oF6) :: (L' + 1 + 1, o3) :: (L' + 1, o4) :: (d, instObj 300 dx) :: (dx, dictOf [⟨hh, .str (Str.ofString "_headers") t0, .ref hl⟩] 1) :: (hl, W.listOf refs.toArray n) :: (x, accObj px xs m) :: (px, accD hz z0 z1) :: []) := ⟨_, _, _, _, _, N6⟩
  clear N6
  refine While_invQ (n₀ := above ns mk) (fun k m₁ news₁ => ∃ oT vT oF oM oN cm tc refsI nI psI xsI mI gsI own, m₁ = (fun y => if y = Str.ofString "near" then m₁ y else if y = Str.ofString "goal" then m₁ y else if y = Str.ofString "goes" then m₁ y else if y = Str.ofString "comes" then m₁ y else if y = Str.ofString "word" then m₁ y else if y = Str.ofString "told" then m₁ y else if y = Str.ofString "pile" then some (.ref x) else if y = Str.ofString "desk" then some (.ref d) else none)
      ∧ news₁ = (l6, W.listOf #[.int 0 e0, .int 1 e1, .int 2 e2, .int 4 e4, .int 8 e8] 0) :: (L' + 1 + 1 + 1 + 1, oT) :: (L' + 1 + 1 + 1, oF) :: (L' + 1 + 1, oM) :: (L' + 1, oN) :: (d, instObj 300 dx) :: (dx, dictOf [⟨hh, .str (Str.ofString "_headers") t0, .ref hl⟩] 1) :: (hl, W.listOf (List.toArray refsI) nI) :: (x, accObj px xsI mI) :: (px, accD hz z0 z1) :: own
      ∧ oT.data = Data.cell vT ∧ oF.data = Data.cell (some (.ref l6)) ∧ oM.data = Data.cell (some (.int cm tc)) ∧ oN.data = Data.cell (some (.ref na))
      ∧ (∀ p ∈ own, ∃ a b t1 t2 k, p.2 = tupO a b t1 t2 k) ∧ TupsIn g' own refsI psI ∧ TupsIn g' own xsI (gs ++ gsI) ∧ Path ns mk gsI cm ∧ (0 ≤ cm ∧ cm < 16) ∧ Tab psI cm ∧ (∀ a, Value.ref a ∈ refsI → H₀.get? a = none) ∧ (∀ a, Value.ref a ∈ xsI → H₀.get? a = none) ∧ k = above ns cm ∧ gsI.length + k ≤ 16) F6 N6' ?J0 ?turn
  case J0 =>
    refine ⟨o1, _, oF6, o3, o4, mk, tm, refs, n, ps, xs, m, [], [], ?mp, ?nw, d1, dF6, ?dM, ?dN, (fun p hp => nomatch hp), .old htg, ?xg, .nil, hm, htab, hr0, hx1, rfl, ?ab⟩
    case mp => k_extra "mine:wmap"
    case dM => with_unfolding_all exact d3
    case dN => with_unfolding_all exact d4
    case nw => rfl
    case xg => rw [List.append_nil]; exact .old hxg
    case ab => exact above_le ns mk
  case turn =>
    rintro k m₁ news₁ h₁ tk₁ TW hTW F N ⟨oT, vT, oF, oM, oN, cm, tc, refsI, nI, psI, xsI, mI, gsI, own, hm₁, rfl, hT, hF, hM, hN, hoc, hti, htx, hpa, hcm, htb, hrf, hxf, rfl, hab⟩
    rw [hm₁] at F
    have hok4 := own_cell N hoc (fun p hp => by simp [hp]) (by k_mem) hT
    clear hm₁ F6 N6'
    repeat' k_extra "mine:go"
    refine restTQ (fun i _ => nb cm (i : Int)) (fun i v y => y = v) (by trivial) ?turn ?elt ?fin
    case turn =>
      intro i v I' oI' C' oC' D' m' h9 tk9 ys TC hTC hi hv hC' hx' F' N' off' ne'
      obtain ⟨t9', rfl⟩ := hv
      rw [Int.zero_add] at hx'
      repeat' k_extra "mine:go"
      all_goals (refine hTC _ _ ?_ (by k_extra "mine:same"); clear hTC; first | (simp only [nb, fewB, *]; done) | (simp only [nb, fewB, *]; rfl))
    case elt =>
      intro i v I' oI' C' oC' D' m' h9 tk9 ys TC hTC hi hv ht hC' hx' F' N' off' ne'
      obtain ⟨t9', rfl⟩ := hv
      repeat' k_extra "mine:go"
      all_goals (refine hTC _ _ ?_ (by k_extra "mine:same"); first | rfl | exact ⟨_, rfl⟩)
    case fin =>
      intro rs hrs D h9 tk9 F9 N9 off9
      simp only [LCg.Off1, and_true] at off9
      have vD : @Ne Nat D (L' + 1 + 1 + 1 + 1) := Ne.symm off9.2.1
      have hnr : IntsAre rs (nears cm) := sel_range hrs
      have hnl := nears_len cm
      have hrz : rs.toArray.size ≤ sizeLine := by rw [List.size_toArray, sizeLine_eq, hnr.length]; omega
      obtain ⟨nr, hnrs⟩ : ∃ l, l = nears cm := ⟨_, rfl⟩
      rw [← hnrs] at hnr hnl
      have hself : cm ∈ nr := hnrs ▸ nears_mem.mpr ⟨hcm, nb_refl hcm⟩
      have hnb : ∀ k ∈ nr, 0 ≤ k ∧ k < 16 := fun k hk => (nears_mem.mp (hnrs ▸ hk)).1
      clear hrs
      have hat : ∀ (i : Nat) (v : Value), i < rs.toArray.size → rs.toArray[i]? = some v → ∃ t, v = .int (nr.getD i 0) t ∧ 0 ≤ nr.getD i 0 ∧ nr.getD i 0 < 16 := fun i v hi hv => by
        obtain ⟨t, rfl⟩ := hnr.int_at i v (by simpa using hv)
        rw [List.size_toArray, hnr.length] at hi
        refine ⟨t, rfl, hnb _ ?_⟩
        simp only [List.getD, List.getElem?_eq_getElem hi, Option.getD_some]
        exact List.getElem_mem hi
      repeat' k_extra "mine:go"
      refine restUQ (fun i _ y => ∃ t, y = .int (ns.getD (nr.getD i 0).toNat 0) t) (.inr ⟨_, by k_mem, rfl, _, rfl⟩) ?turn2 ?fin2
      case turn2 =>
        intro i v I' oI' C' oC' D' m' h9 tk9 ys TC hTC hi hv hC' hx' F' N' off' ne'
        obtain ⟨t9, rfl, hb⟩ := hat i v hi hv
        obtain ⟨k, hk⟩ : ∃ k, k = nr.getD i 0 := ⟨_, rfl⟩
        rw [← hk] at hb hx'
        repeat' k_extra "mine:go"
        all_goals (refine hTC _ _ ?_ (by k_extra "mine:same"); rw [← hk]; exact ⟨_, rfl⟩)
      case fin2 =>
        intro rs2 hrs2 D2 h9 tk9 F9 N9 off8
        simp only [LCg.Off1, and_true] at off8
        have vD2 : @Ne Nat D2 (L' + 1 + 1 + 1 + 1) := Ne.symm off8.2.2.1
        have hin := sel_map (φ := fun k => ns.getD k.toNat 0) (hs := nr) hrs2 (by rw [List.size_toArray, hnr.length]; omega)
        rw [List.drop_zero] at hin
        have hpos : 0 < (nr.map fun k => ns.getD k.toNat 0).length := by rw [List.length_map]; exact List.length_pos_of_mem hself
        clear hrs2
        repeat' k_extra "mine:go"
        · rename Int => M
          rename M ∈ _ => hM1
          rename ∀ a, a ∈ _ → a ≤ M => hM2
          rename _ = M => hcM
          rename Fr _ _ _ _ => F7
          rename News _ _ _ _ => N7
          refine hTW _ _ ?_
          refine hret _ _ tc cm refsI nI psI xsI mI gsI (grow_back eg F7 N7 ?gb) (News.get N7 (by k_mem)) (News.get N7 (by k_mem)) (hti.here F7 N7 fun p hp => by simp [hp]) (htx.here F7 N7 fun p hp => by simp [hp]) hpa ?tp hcm htb hrf hxf
          case gb =>
            simp only [List.map_cons, List.map_nil, List.forall_mem_cons]
            refine ⟨fun _ o e => ?_, fun _ o e => ?_, fun q => absurd (by simp) q, fun q => absurd (by simp) q, fun _ o e => ?_, by simp⟩
            · cases hi.symm.trans e; k_mem
            · cases hdi.symm.trans e; k_mem
            · cases hpx.symm.trans e; k_mem
          case tp =>
            intro k hk0 hk1 hk
            rw [hcM]
            exact hM2 _ (List.mem_map.mpr ⟨k, hnrs ▸ nears_mem.mpr ⟨⟨hk0, hk1⟩, hk⟩, rfl⟩)
        · rename Int => M
          rename M ∈ _ => hM1
          rename ∀ a, a ∈ _ → a ≤ M => hM2
          rename _ ≠ M => hcM
          refine restTQ (fun i _ => decide (ns.getD (nr.getD i 0).toNat 0 = M)) (fun _ v y => y = v) (.inr ⟨_, by k_mem, rfl, _, rfl⟩) ?turn3 ?elt3 ?fin3
          case turn3 =>
            intro i v I' oI' C' oC' D' m' h9 tk9 ys TC hTC hi hv hC' hx' F' N' off' ne'
            obtain ⟨t9, rfl, hb⟩ := hat i v hi hv
            obtain ⟨k, hk⟩ : ∃ k, k = nr.getD i 0 := ⟨_, rfl⟩
            rw [← hk] at hb hx'
            repeat' k_extra "mine:go"
            all_goals (refine hTC _ _ ?_ (by k_extra "mine:same"); clear hTC; rw [← hk]; first | rfl | (simp only [decide_eq_true_eq, decide_eq_false_iff_not, *]; done))
          case elt3 =>
            intro i v I' oI' C' oC' D' m' h9 tk9 ys TC hTC hi hv ht hC' hx' F' N' off' ne'
            obtain ⟨t9, rfl, hb⟩ := hat i v hi hv
            repeat' k_extra "mine:go"
            all_goals (refine hTC _ _ ?_ (by k_extra "mine:same"); first | rfl | exact ⟨_, rfl⟩)
          case fin3 =>
            intro rs3 hrs3 D3 h9 tk9 F9 N9 off7
            simp only [LCg.Off1, and_true] at off7
            have hin3 := sel_filt (b := fun k => decide (ns.getD k.toNat 0 = M)) hnr hrs3 (by rw [List.size_toArray, hnr.length]; omega)
            rw [List.drop_zero] at hin3
            have hpos3 : 0 < (nr.filter fun k => decide (ns.getD k.toNat 0 = M)).length := by
              obtain ⟨k, hk, e⟩ := List.mem_map.mp hM1
              exact List.length_pos_of_mem (List.mem_filter.mpr ⟨hk, decide_eq_true e⟩)
            clear hrs3
            repeat' k_extra "mine:go"
            obtain ⟨G, hG⟩ : ∃ G, G = (nr.filter fun k => decide (ns.getD k.toNat 0 = M)).getD 0 0 := ⟨_, rfl⟩
            have hGf : G ∈ nr.filter fun k => decide (ns.getD k.toNat 0 = M) := by
              rw [hG]; exact getD_mem hpos3
            obtain ⟨hGn, hGM⟩ := List.mem_filter.mp hGf
            have hGM := of_decide_eq_true hGM
            have hGb := hnb _ hGn
            have hGnb := (nears_mem.mp (hnrs ▸ hGn)).2
            have hst : Step ns cm G := ⟨hGb.1, hGb.2, hGnb, by
              rw [hGM]; exact Int.lt_iff_le_and_ne.mpr ⟨hM2 _ (List.mem_map.mpr ⟨cm, hself, rfl⟩), hcM⟩, fun k hk0 hk1 hk => by
              rw [hGM]; exact hM2 _ (List.mem_map.mpr ⟨k, hnrs ▸ nears_mem.mpr ⟨⟨hk0, hk1⟩, hk⟩, rfl⟩)⟩
            have hcG : cm ≠ G := fun e => hcM (e ▸ hGM)
            first
              | rw [← hG]
              | rw [show (nr.filter fun k => decide (ns.getD k.toNat 0 = M)).getD (Int.toNat 0) 0 = G from hG.symm]
            rename Fr _ _ _ _ => F7
            rename News _ _ _ _ => N7
            rename Obj => oT6
            rename oT6.data = _ => dT6
            have N7 := news_tail (news_tail N7)
            have F7' : Fr g' L' _ (fun y => if y = Str.ofString "comes" then some (.str (Str.ofString "") _) else if y = Str.ofString "goes" then some (.str (Str.ofString "") _) else if y = Str.ofString "goal" then some (.int G _) else if y = Str.ofString "near" then some (Value.ref D) else if y = Str.ofString "word" then m₁ y else if y = Str.ofString "told" then m₁ y else if y = Str.ofString "pile" then some (.ref x) else if y = Str.ofString "desk" then some (.ref d) else none) := fr_same F7 (by
              rw [hG]
              k_extra "mine:wmap")
            clear F7
            with_unfolding_all refine pretty_spec C (fun b o e => F7'.keep b o (stg b o e)) ?hdp (xor_NS hcm hGb hcG) fun h6 tk6 t6 G6 => ?_
            case hdp => k_extra "mine:hdp"
            have F6 := fr_grow F7' G6
            have N6 := news_grow N7 G6
            clear F7' N7 G6
            repeat' k_extra "mine:go"
            have hNS := xor_NS hcm hGb hcG
            with_unfolding_all refine _root_.PySem.W.KSpl.split1 F6 N6 (by decide +kernel) (fun D5 l5 h5 k5 e5 S5 F5 N5 l5o => ?_) (by rw [sizeLine_eq]; exact Nat.le_trans (join_NS _ hNS) (by decide))
            clear F6 N6
            rw [e5, split_NS _ hNS] at S5
            obtain ⟨⟨hend1, hend2, hend3⟩, hW, hwl⟩ := tog_end hcm hGb hcG hGnb
            obtain ⟨ws, hws⟩ : ∃ ws, ws = prettyWords (Builtin.bitXor cm G) := ⟨_, rfl⟩
            rw [← hws] at S5 hend1 hend2 hend3 hW hwl
            have N5 := news_drop2 N5
            have hrl6 : refsI.length ≤ 6 := by
              rw [(hti.here F5 N5 fun p hp => by simp [hp]).length, ← List.length_map (f := fun p : Str × Str => p.1), htb.1.length_eq, List.length_append]
              have := wordsOf_len cm
              show 2 + _ ≤ 6
              omega
            obtain ⟨ta, tb, tc5, F5⟩ : ∃ ta tb tc, Fr g' L' h5 (fun y => if y = Str.ofString "comes" then some (.str (Str.ofString "") tb) else if y = Str.ofString "goes" then some (.str (Str.ofString "") ta) else if y = Str.ofString "goal" then some (.int G tc) else if y = Str.ofString "near" then some (Value.ref D) else if y = Str.ofString "word" then m₁ y else if y = Str.ofString "told" then m₁ y else if y = Str.ofString "pile" then some (.ref x) else if y = Str.ofString "desk" then some (.ref d) else none) := ⟨_, _, _, F5⟩
            have hsz5 : (strValues l5).toArray.size = ws.length := by rw [List.size_toArray, strs_length S5]
            refine ForSrc.listQ (its := (strValues l5).toArray) (fun i m₂ news₂ => ∃ refsJ nJ psJ own' ta tb tc, m₂ = (fun y => if y = Str.ofString "comes" then some (.str (togs cm (ws.take i)).2.2 tb) else if y = Str.ofString "goes" then some (.str (togs cm (ws.take i)).2.1 ta) else if y = Str.ofString "goal" then some (.int G tc) else if y = Str.ofString "near" then m₂ y else if y = Str.ofString "word" then m₂ y else if y = Str.ofString "told" then m₂ y else if y = Str.ofString "pile" then some (.ref x) else if y = Str.ofString "desk" then some (.ref d) else none)
              ∧ news₂ = (D5, W.listOf (strValues l5).toArray 0) :: (l6, W.listOf #[.int 0 e0, .int 1 e1, .int 2 e2, .int 4 e4, .int 8 e8] 0) :: (L' + 1 + 1 + 1 + 1, oT6) :: (L' + 1 + 1 + 1, oF) :: (L' + 1 + 1, oM) :: (L' + 1, oN) :: (d, instObj 300 dx) :: (dx, dictOf [⟨hh, .str (Str.ofString "_headers") t0, .ref hl⟩] 1) :: (hl, W.listOf (List.toArray refsJ) nJ) :: (x, accObj px xsI mI) :: (px, accD hz z0 z1) :: own'
              ∧ (∀ p ∈ own, p ∈ own') ∧ (∀ p ∈ own', ∃ a b t1 t2 k, p.2 = tupO a b t1 t2 k) ∧ TupsIn g' own' refsJ psJ ∧ (psJ.map (·.1)).Perm (togs cm (ws.take i)).1 ∧ (∀ p ∈ psJ, p.2 = Str.ofString "in") ∧ refsJ.length ≤ 6 + i ∧ (∀ a, Value.ref a ∈ refsJ → H₀.get? a = none)) (by rfl) F5 N5 (.inr ⟨_, List.Mem.head _, rfl, _, rfl⟩) ?J0 ?turn ?done
            case J0 =>
              refine ⟨refsI, nI, psI, own, ta, tb, tc5, ?mp, rfl, fun p hp => hp, hoc, hti, htb.1, htb.2, hrl6, hrf⟩
              k_extra "mine:wmap"
            case turn =>
              rintro i v m₂ news₂ I oI h tk TF hTF hi5 hv ⟨refsJ, nJ, psJ, own', ta, tb, tc, hm₂, rfl, hsub, hoc', htj, hpj, hpi, hlj, hfj⟩ hS F N off'
              rw [hm₂] at F
              clear hm₂ F5 N5
              obtain ⟨y, ty, rfl, hyw⟩ := S5.item i v (by simpa using hv)
              have hy6 : y ∈ W6 := hW _ (List.mem_of_getElem? hyw)
              have hy10 : y ∈ W10 := W6_sub _ hy6
              have hlow := low_mem _ hy10
              repeat' k_extra "mine:go"
              rename Fr _ _ _ _ => F7
              rename News _ _ _ _ => N7
              have hwi : ∀ x ∈ ws.take i, x ∈ W6 := fun x hx => hW x (List.mem_of_mem_take hx)
              have hk6 := togs_W6 hcm hwi
              have hps10 : ∀ p ∈ psJ, p.1 ∈ W10 := fun p hp => W6_sub _ (hk6 _ (hpj.mem_iff.mp (List.mem_map_of_mem hp)))
              with_unfolding_all refine' info_spec (yv := Str.ofString "out") C (fun b o e => F7.keep b o (stg b o e)) ?hdp (News.get N7 ?mb) (News.get N7 ?m1) (News.get N7 ?m2) (News.get N7 ?m3) (htj.here F7 N7 fun p hp => by simp [hp]) hd0 hdx0 hlow hps10 ?r1
              case hdp => k_extra "mine:hdp"
              case mb => k_mem
              case m1 => k_mem
              case m2 => k_mem
              case m3 => k_mem
              case r1 =>
                intro v h6 tk6 a6 u1 u2 k6 hv6 G6 n6 e6
                have F6 := fr_grow F7 G6
                have N6 := news_fresh F7 N7 G6 n6 e6
                clear F7 N7 G6 n6 e6
                have hhas := tab_has hpj hk6 hy6
                rw [low_low _ hy6] at hv6
                by_cases hk : y ∈ (togs cm (ws.take i)).1
                · have hv : v = Str.ofString "in" := by
                    rcases hv6 with ⟨p, hp, _, e⟩ | ⟨hno, _⟩
                    · rw [e]; exact hpi p hp
                    · obtain ⟨p, hp, e⟩ := hhas.mpr hk
                      exact absurd e (hno p hp)
                  subst hv
                  repeat' k_extra "mine:go"
                  rename Fr _ _ _ _ => F7
                  rename News _ _ _ _ => N7
                  first
                    | have N4 := news_at I oI (news_tail (news_tail N7))
                    | have N4 := news_at I oI (news_tail (news_tail (news_tail N7)))
                    | have N4 := news_at I oI (news_tail (news_tail (news_tail (news_tail N7))))
                    | have N4 := news_at I oI (news_tail (news_tail (news_tail (news_tail (news_tail N7)))))
                  have hok2 := own_cls N4 hoc' (fun p hp => by simp [hp]) (c := hl) (by k_mem) (by show ¬ (Value.type "tuple" = Value.type "list"); decide)
                  have r1 : @LT.lt Nat _ hl D5 := l5o (hl, _) (by k_mem)
                  have r2 : @Ne Nat hl I := off' (hl, _) (by k_mem)
                  have r4 : @Ne Nat hl D5 := Nat.ne_of_lt r1
                  have hi2 : i < 2 := by rw [hsz5] at hi5; omega
                  refine' del_spec C (fun b o e => F7.keep b o (stg b o e)) ?hdp (News.get N4 ?m1) (News.get N4 ?m2) (News.get N4 ?m3) (htj.here F7 N4 fun p hp => by simp [hp]) hd0 hdx0 hl0 hlow hps10 (by omega) ?r1
                  case hdp => k_extra "mine:hdp"
                  case m1 => k_mem
                  case m2 => k_mem
                  case m3 => k_mem
                  case r1 =>
                    intro h1 tk1 rs' nr1 G1 htr hrl1 hsub1 hl1
                    have F1 := fr_set F7 N4 G1 (a := hl) (by k_mem)
                    refine' put_news N4 ?U G1 hl1 ?_
                    case U => k_updF
                    intro N1
                    try dsimp only at N1
                    clear F7 N7 N4 G1 hl1
                    repeat' k_extra "mine:go"
                    rename Fr _ _ _ _ => F2
                    rename News _ _ _ _ => N2
                    obtain ⟨hT0, hT1, hT2⟩ := togs_in hyw hk
                    refine hTF _ _ ?_
                    dsimp only [Turned]
                    rw [hT0, hT1, hT2]
                    refine ⟨_, _, _, _, rfl, F2, N2, ?offi, .inr ⟨_, List.Mem.head _, rfl, _, rfl⟩, rs', nr1, _, own', ty, tb, tc, ?mpi, rfl, hsub, hoc', fun k a b => htr k (htj k a b), tab_del hpj hy6, fun p hp => hpi p (List.mem_filter.mp hp).1, by omega, fun a ha => hfj a (hsub1 _ ha)⟩
                    case offi =>
                      simp only [List.forall_mem_cons]
                      exact ⟨off' (D5, _) (by k_mem), off' (l6, _) (by k_mem), off' (L' + 1 + 1 + 1 + 1, _) (by k_mem), off' (L' + 1 + 1 + 1, _) (by k_mem), off' (L' + 1 + 1, _) (by k_mem), off' (L' + 1, _) (by k_mem), off' (d, _) (by k_mem), off' (dx, _) (by k_mem), off' (hl, _) (by k_mem), off' (x, _) (by k_mem), off' (px, _) (by k_mem), fun p hp => off' p (by simp [hp])⟩
                    case mpi => k_extra "mine:wmap"
                · have hno : ∀ p ∈ psJ, low p.1 ≠ low y := fun p hp e => hk (hhas.mp ⟨p, hp, e⟩)
                  have hv : v = Str.ofString "out" := by
                    rcases hv6 with ⟨p, hp, e, _⟩ | ⟨_, e⟩
                    · exact absurd e (hno p hp)
                    · exact e
                  subst hv
                  repeat' k_extra "mine:go"
                  rename Fr _ _ _ _ => F7
                  rename News _ _ _ _ => N7
                  first
                    | have N4 := news_at I oI (news_tail (news_tail N7))
                    | have N4 := news_at I oI (news_tail (news_tail (news_tail N7)))
                    | have N4 := news_at I oI (news_tail (news_tail (news_tail (news_tail N7))))
                    | have N4 := news_at I oI (news_tail (news_tail (news_tail (news_tail (news_tail N7)))))
                  have hok2 := own_cls N4 hoc' (fun p hp => by simp [hp]) (c := hl) (by k_mem) (by show ¬ (Value.type "tuple" = Value.type "list"); decide)
                  have r1 : @LT.lt Nat _ hl D5 := l5o (hl, _) (by k_mem)
                  have r2 : @Ne Nat hl I := off' (hl, _) (by k_mem)
                  have r4 : @Ne Nat hl D5 := Nat.ne_of_lt r1
                  have hi2 : i < 2 := by rw [hsz5] at hi5; omega
                  refine' setd_spec (vx := Str.ofString "in") C (fun b o e => F7.keep b o (stg b o e)) ?hdp (News.get N4 ?m1) (News.get N4 ?m2) (News.get N4 ?m3) (htj.here F7 N4 fun p hp => by simp [hp]) hd0 hdx0 hl0 hy10 hps10 (by omega) (fun p hp e => absurd e (hno p hp)) ?r1
                  case hdp => k_extra "mine:hdp"
                  case m1 => k_mem
                  case m2 => k_mem
                  case m3 => k_mem
                  case r1 =>
                    intro _
                    refine ⟨rfl, ?_⟩
                    intro h1 tk1 a8 u3 u4 k8 G1 hn8 ha8 hl1
                    have F1 := fr_set F7 N4 G1 (a := hl) (by k_mem)
                    refine' put_news N4 ?U G1 hl1 ?_
                    case U => k_updF
                    intro N3
                    try dsimp only at N3
                    have hnI := news_ne N4 hn8 (I, oI) (List.Mem.head _)
                    refine' put_ins F7 N3 (.there (.there (.there (.there (.there (.there (.there (.there (.there (.there (.there (.there .here)))))))))))) hn8 ha8 ?_
                    intro N1
                    have hf8 : H₀.get? a8 = none := nold (fun b o e => F7.keep b o (stg b o e)) hn8
                    clear F7 N7 N4 N3 G1 hl1 hn8 ha8
                    repeat' k_extra "mine:go"
                    rename Fr _ _ _ _ => F2
                    rename News _ _ _ _ => N2
                    obtain ⟨hT0, hT1, hT2⟩ := togs_out hyw hk
                    refine hTF _ _ ?_
                    dsimp only [Turned]
                    rw [hT0, hT1, hT2]
                    refine ⟨_, _, _, _, rfl, F2, N2, ?offo, .inr ⟨_, List.Mem.head _, rfl, _, rfl⟩, refsJ ++ [.ref a8], nJ + 1, psJ ++ [(y, Str.ofString "in")], (a8, tupO y (Str.ofString "in") u3 u4 k8) :: own', ta, ty, tc, ?mpo, rfl, fun p hp => List.mem_cons_of_mem _ (hsub p hp), ?oc, fun k a b => (htj k a fun p hp => b p (List.mem_cons_of_mem _ hp)).snoc (b _ (List.Mem.head _)), ?pj, ?pi, ?ln, ?fr⟩
                    case offo =>
                      simp only [List.forall_mem_cons]
                      exact ⟨off' (D5, _) (by k_mem), off' (l6, _) (by k_mem), off' (L' + 1 + 1 + 1 + 1, _) (by k_mem), off' (L' + 1 + 1 + 1, _) (by k_mem), off' (L' + 1 + 1, _) (by k_mem), off' (L' + 1, _) (by k_mem), off' (d, _) (by k_mem), off' (dx, _) (by k_mem), off' (hl, _) (by k_mem), off' (x, _) (by k_mem), off' (px, _) (by k_mem), Ne.symm hnI, fun p hp => off' p (by simp [hp])⟩
                    case mpo => k_extra "mine:wmap"
                    case oc =>
                      simp only [List.forall_mem_cons]
                      exact ⟨⟨_, _, _, _, _, rfl⟩, hoc'⟩
                    case pj => rw [List.map_append]; exact hpj.append_right _
                    case pi =>
                      intro p hp
                      rcases List.mem_append.mp hp with hp | hp
                      · exact hpi p hp
                      · rw [List.mem_singleton.mp hp]
                    case ln => rw [List.length_append, List.length_singleton]; omega
                    case fr =>
                      intro a ha
                      rcases List.mem_append.mp ha with ha | ha
                      · exact hfj a ha
                      · cases List.mem_singleton.mp ha; exact hf8
            case done =>
              rintro m₂ news₂ h tk ⟨refsJ, nJ, psJ, own', ta, tb, tc, hm₂, rfl, hsub, hoc', htj, hpj, hpi, hlj, hfj⟩ hS F N
              rw [hm₂] at F
              clear hm₂ F5 N5
              rw [hsz5, List.take_length] at F hpj
              repeat' k_extra "mine:go"
              have N4 := news_tail N
              have hxl : xsI.length + 1 ≤ 100 := by
                rw [(htx.here F N fun p hp => by simp [hsub p hp]).length, List.length_append]; omega
              refine' push_spec C (fun b o e => F.keep b o (stg b o e)) ?hdp (News.get N4 ?m1) (News.get N4 ?m2) hx0 hpx0 hxl ?r1
              case hdp => k_extra "mine:hdp"
              case m1 => k_mem
              case m2 => k_mem
              case r1 =>
                intro h1 tk1 a8 u1 u2 k8 n8 G1 hn8 ha8 hx8
                have hok3 := own_cls N4 hoc' (fun p hp => by simp [hp]) (c := x) (by k_mem) (by show ¬ (Value.type "tuple" = Value.ref 163); decide)
                have hok2 := hok3
                have F1 := fr_set F N4 G1 (a := x) (by k_mem)
                refine' put_news N4 ?U G1 hx8 ?_
                case U => k_updF
                intro N3
                try dsimp only at N3
                refine' put_ins F N3 (.there (.there (.there (.there (.there (.there (.there (.there (.there (.there .here)))))))))) hn8 ha8 ?_
                intro N1
                have hf8 : H₀.get? a8 = none := nold (fun b o e => F.keep b o (stg b o e)) hn8
                have hoc8 : ∀ p ∈ (a8, tupO (togs cm ws).2.1 (togs cm ws).2.2 u1 u2 k8) :: own', ∃ a b t1 t2 k, p.2 = tupO a b t1 t2 k := by
                  simp only [List.forall_mem_cons]
                  exact ⟨⟨_, _, _, _, _, rfl⟩, hoc'⟩
                have hok5 := own_cell N1 hoc8 (fun p hp => by
                  rcases List.mem_cons.mp hp with e | e
                  · rw [e]; k_mem
                  · simp [e]) (c := L' + 1 + 1) (by k_mem) hM
                have hok2 : ∀ p ∈ own', p.1 ≠ L' + 1 + 1 := fun p hp => hok5 p (List.mem_cons_of_mem _ hp)
                have r3 : @Ne Nat a8 (L' + 1 + 1) := hok5 _ (List.Mem.head _)
                clear N N4 N3 F G1 hn8 ha8
                repeat' k_extra "mine:go"
                rename Fr _ _ _ _ => F2
                rename News _ _ _ _ => N2
                refine hTW _ _ ?_
                dsimp only [WhileStep2]
                refine ⟨_, _, _, _, above ns G, rfl, F2, N2, above_lt hst, oT6, _, oF, _, oN, G, _, refsJ, nJ, psJ, xsI ++ [.ref a8], n8, gsI ++ [(w0 (Builtin.bitAnd cm (Builtin.bitNot G)), w0 (Builtin.bitAnd G (Builtin.bitNot cm)))], (a8, tupO (togs cm ws).2.1 (togs cm ws).2.2 u1 u2 k8) :: own', ?mpd, rfl, dT6, hF, by assumption, hN, hoc8, fun k a b => htj k a fun p hp => b p (List.mem_cons_of_mem _ hp), ?xgd, .snoc hpa hst, hGb, ⟨hpj.trans hend1, hpi⟩, hfj, ?xfd, rfl, ?abd⟩
                case mpd => k_extra "mine:wmap"
                case xgd =>
                  rw [← List.append_assoc, ← hend2, ← hend3]
                  exact fun k a b => (htx k a fun p hp => b p (List.mem_cons_of_mem _ (hsub p hp))).snoc (b _ (List.Mem.head _))
                case xfd =>
                  intro a ha
                  rcases List.mem_append.mp ha with ha | ha
                  · exact hxf a ha
                  · cases List.mem_singleton.mp ha; exact hf8
                case abd =>
                  refine Nat.le_trans ?_ hab
                  rw [List.length_append, List.length_singleton, Nat.add_assoc, Nat.add_comm 1]
                  exact Nat.add_le_add_left (above_lt hst) _
end
end LWalkS
section LSetLS
open Builtin Builtin.ObjectAttr in
theorem refuse_list (self : Value) : refuseLoop self "__setattr__" [.type "list", .type "object"] = pure () := by kernel_rfl
section
open Builtin Builtin.ObjectAttr
variable {prog : Program} {w : World} {A : Around} {K : Frag} {C x : Addr} {s : Shared} {h₀ : Heap} {L : Addr} {m : Str → Option Value} {news : List (Addr × Obj)} {R : Result → Shared → Prop}
noncomputable def listOver (K : Frag) (C : Addr) : Bool := (clsIn K C).any fun cd => cd.mro == [.ref C, .type "list", .type "object"]
theorem osaL_open {ox : Obj} {od : Option Obj} {name : Str} {tk : Tok} {v : Value} {r : Option Value} (X : K.In s.heap) (I : InstAt s.heap x ox C od) (hp : listOver K C = true) (ht : takerIn K C name = some r)
    (h : ∀ b, wpAny (model prog w) A.in1 (match r with | some a => setByDescriptor a (.ref x) v | none => storeInOwnDict (.ref x) (.ref C) (.str name tk) name v b)
      (fun fin s' => match fin with | .done f => R (.ok f) s' | .again c' => c'.quiet = true ∧ codeAny (model prog w) A c' R s') (fun e s' => R (.error e) s') s) :
    codeAny (model prog w) A (.call (.builtin "object.__setattr__") ⟨[.ref x, .str name tk, v], []⟩) R s := by
  have SF := PySem.F.store_object
  obtain ⟨cd, hc, ho⟩ := any_some hp
  have ho : cd.mro = [.ref C, .type "list", .type "object"] := beq_iff_eq.mp ho
  have ne : cd.mro.isEmpty = false := by rw [ho]; rfl
  have sub : Looks (model prog w) s.heap (isInstance (.ref x) (.type "object")) true := I.type.andThen (looks_mroIn X (by unfold mroIn; rw [hc, Option.bind_some, if_neg (by rw [ne]; decide), ho]; simp))
  refine codeAny_call_builtin SF.slot.plain SF.entry (@check_slot (model prog w) _ _ s "object.__setattr__" "object" "__setattr__" (.ref x) [.str name tk, v] [] _ SF.kind SF.split sub (SF.args (.ref x) (.str name tk) v) ?_)
  obtain ⟨attr, ha, hr⟩ := Option.bind_eq_some_iff.mp ht
  have hm : Looks (model prog w) s.heap (mroOf (.ref C)) cd.mro := (looks_clsIn X hc).andThen .now
  have L3 : Looks (model prog w) s.heap (storeTaker? attr) r := by
    cases attr with
    | none => cases hr; exact .now
    | some a =>
      obtain ⟨b, hb, rfl⟩ := Option.map_eq_some_iff.mp hr
      refine (looks_takesIn X hb).andThen ?_
      cases b <;> exact .now
  rw [osa_eq, refuse_eq]
  refine wpAny_bind (wpAny_bind (I.type.here (wpAny_bind (hm.here ?_))))
  rw [ho, refuseLoop_ref, refuse_list]
  refine wpAny_pure (wpAny_bind (I.type.here (wpAny_bind ((looks_findIn X ha).here (wpAny_bind (L3.here ?_))))))
  exact h _
theorem osaL_dict {ox od od' : Obj} {dx : Addr} {name : Str} {tk : Tok} {v : Value} {pre post : List (Addr × Obj)} {es : List DictEntry} {n : Nat} (F : Fr h₀ L s.heap m) (N : News h₀ L s.heap (pre ++ (dx, od) :: post)) (X : K.In s.heap)
    (I : InstAt s.heap x ox C (some od)) (hd : ox.dict = some dx) (hp : listOver K C = true) (ht : takerIn K C name = some none) (hh : (clsIn K C).any (·.hasDict) = true)
    (hl : (lookIn name od).isSome = true) (h1 : ∀ p ∈ pre, p.1 ≠ dx) (h2 : ∀ p ∈ post, p.1 ≠ dx)
    (e : Obj.putName name (PyData.keyHash w.params name) (.str name s.toks) v od = od') (e' : od'.data = .dict es.toArray n) (hz : es.length ≤ 1000)
    (h : ∀ h', Fr h₀ L h' m → News h₀ L h' (pre ++ (dx, od') :: post) → R (.ok (.ret .none)) { s with heap := h', toks := s.toks + 1 }) :
    codeAny (model prog w) A (.call (.builtin "object.__setattr__") ⟨[.ref x, .str name tk, v], []⟩) R s := by
  refine osaL_open X I hp ht fun b => ?_
  obtain ⟨cd, hc, hd'⟩ := any_some hh
  obtain ⟨U1, U2⟩ := news_upd (f := Obj.putName name (PyData.keyHash w.params name) (.str name s.toks) v) F N h1 h2 e (by obtain ⟨_, _, dd, _⟩ := od'; cases e'; rfl)
  have D := (N (dx, od) (by simp)).1
  have D' := (U2 (dx, od') (by simp)).1
  obtain ⟨hx, hcl, hn, -⟩ := I
  obtain ⟨oc, odi, oda, osl⟩ := ox
  dsimp only at hcl hd
  subst hcl hd
  refine wpAny_bind (wpAny_pure (wpAny_bind (wpAny_bind (wpAny_loadPart hx (wpAny_bind ((looks_clsIn X hc).here ?_))))))
  rw [hd']
  refine wpAny_pure (a := some dx) (wpAny_bind (wpAny_pure (wpAny_bind ?_)))
  unfold nsSet
  refine wpAny_bind (wpAny_bind (wpAny_askSetting (wpAny_pure (wpAny_bind (wpAny_mkText (wpAny_bind (wpAny_loadPart D ?_)))))))
  unfold lookIn at hl
  split at hl
  · rename_i es₀ n₀ q
    rw [q]
    dsimp only
    have c : (!es₀.any (·.key.isStr name) && es₀.any (·.refKey)) = false := by
      rw [← Array.any_toList, ← Array.any_toList]
      split at hl
      · rename_i en he
        rw [List.any_eq_true.mpr ⟨en, List.mem_of_find?_eq_some he, List.find?_some he⟩]; rfl
      · split at hl
        · cases hl
        · rename_i z; rw [Bool.not_eq_true] at z; rw [z, Bool.and_false]
    rw [aRefKeyMayBeTheName_at, c]
    refine wpAny_updatePart D ?_
    refine wpAny_bind (wpAny_lookBehind D' (by rw [e']; exact pastItsLine_dict (by rw [List.size_toArray, sizeLine_eq]; omega)) ?_)
    exact wpAny_pure (h _ U1 U2)
  · cases hl
theorem setL {A E} {ox : Obj} {es es' : List DictEntry} {n n' : Nat} {dx : Addr} {name : Str} {v : Value} {news' : List (Addr × Obj)} {Q : Unit → Shared → Prop} (F : Fr h₀ L s.heap m) (X₀ : K.In h₀) (N : News h₀ L s.heap news) (I : InstAt s.heap x ox C (some (dictOf es n))) (hd : ox.dict = some dx)
    (hs : findIn K (.ref C) "__setattr__" = some (some (.builtin "object.__setattr__"))) (hp : listOver K C = true) (ht : takerIn K C name = some none) (hh : hasDictIn K C = true) (hl : (getL name es).isSome = true)
    (e : (putL name (PyData.keyHash w.params name) (.str name (s.toks + 1)) v es, putN name es n) = (es', n')) (U : Upd dx (dictOf es n) (dictOf es' n') news news') (hz : es'.length ≤ 1000)
    (h : ∀ h', Fr h₀ L h' m → News h₀ L h' news' → Q () { s with heap := h', toks := s.toks + 2 }) :
    wpAny (model prog w) A (setAttr (.ref x) name v) Q E s := by
  obtain ⟨pre, post, rfl, rfl, a, b⟩ := U.split
  obtain ⟨e1, e2⟩ := Prod.mk.inj e
  exact set_plain (X₀.keeps F.keep) I hs (osaL_dict (s := { s with toks := s.toks + 1 }) F N (X₀.keeps F.keep) I hd hp ht hh hl a b (by rw [putName_dict, e1, e2]) rfl hz fun h' F' N' => h h' F' N')
end
end LSetLS
section LHdrsS
theorem none_old {h h' : Heap} {a : Addr} (st : h.StaysIn h') (e : h'.get? a = none) : h.get? a = none := by
  cases q : h.get? a with
  | none => rfl
  | some o => rw [st a o q] at e; cases e
section
variable {w : World} {mean : ExcName → Option Value} {mg mb : Str → Option Value} {dp un : Nat} {gd : Option (List Code)} {outer : List Env} {H₀ : Heap} {s : Shared} {Q E : Value → Shared → Prop}
set_option maxHeartbeats 1000000 in
theorem hdrs_spec (C : Cx w mean mg mb H₀) (st : H₀.StaysIn s.heap) (hd1 : dp + 60 < recursionLimit)
    (hret : ∀ h' tk' d dx hl hh t0, Grow s.heap h' [] → s.heap.get? d = none → s.heap.get? dx = none → s.heap.get? hl = none → h'.get? d = some (instObj 300 dx) →
      h'.get? dx = some (dictOf [⟨hh, .str (Str.ofString "_headers") t0, .ref hl⟩] 1) → h'.get? hl = some (W.listOf #[] 0) → Q (.ref d) { s with heap := h', toks := tk' }) :
    wpAny (model PW w) (around dp un gd outer) (call (.ref 300) [] []) Q E s := by
  k_with_none
  w_top off
  k_with "mine:fill" => (have _kf : (PySem.Challenge.rw_wk0041_01, _root_.hd.heap_1) = (PySem.Challenge.rw_wk0041_01, _root_.hd.heap_1) := by (k_fill; rfl))
  k_with "mine:room" => (first | assumption | (simp only [around, Around.deeper, Around.mark, Around.in1, recursionLimit] at *; omega))
  k_with "mine:entercases" => (
    (case ho => k_dflt k_is)
    (case hcd => k_dflt k_is)
    (case hroom => k_extra "mine:room")
    (case hbind => first | exact BindsTo.of_eq rfl | exact binds_K (by k_in) rfl (by k_is) rfl rfl rfl | exact kp_binds (Frag.In.keeps X st) fun _ => rfl)
    (case hkind => exact rfl)
    (case hnd => decide +kernel)
    (case ht => (first | exact List.forall_mem_nil _ | (simp only [List.forall_mem_cons]; simp_all)))
    (case h0 => (first | exact List.forall_mem_nil _ | (simp only [List.forall_mem_cons]; simp_all)))
    (case c1 => exact rfl)
    (case c2 => exact rfl)
    (case c3 => exact rfl))
  k_with "mine:cells" => (
    (first | (k_cells Y') | (have hY := cellsNil Y'; subst hY))
    (try simp only [List.cons_append, List.nil_append, List.append_nil] at N')
    (try dsimp only)
    (try k_fold))
  k_with "mine:go" => (
    (fail_if_success (with_reducible show LCt.CompRestT _ _ _ _ _ _ _ _ _ _ _ _ _ _ _ _ _ _ _ _))
    (fail_if_success (with_reducible show LCg.CompRest _ _ _ _ _ _ _ _ _ _ _ _ _ _ _ _ _ _ _))
    (fail_if_success (with_reducible show ForSrc _ _ _ _ _ _ _ _ _ _ _))
    (first | (k_unfold; (try dsimp only)) | (k_end; wrow_close) | walk1 | (dsimp only; walk1) | (leave1; walk_say "STEP leave1"; try dsimp only) | fail "no step"))
  k_with "mine:same" => exact ⟨_, _, rfl, by assumption, by assumption⟩
  k_with "mine:hdp" => ((try dsimp only [around, Around.deeper]); omega)
  k_with "mine:mapsA" => (repeat' (first | exact List.forall_mem_nil _ | refine List.forall_mem_cons.mpr ⟨by with_unfolding_all rfl, ?_⟩))
  k_with "mine:memS" => ((repeat (first | (with_reducible exact List.mem_cons_self) | refine List.mem_cons_of_mem _ ?_)); done)
  k_with "mine:mapsB" => (
    (intro y hy)
    (try dsimp only)
    (repeat refine (if_neg (hy _ (by k_extra "mine:memS"))).trans ?_)
    (refine Eq.symm ?_)
    (repeat refine (if_neg (hy _ (by k_extra "mine:memS"))).trans ?_)
    rfl)
  have C0 := C
  obtain ⟨X, T⟩ := C
  have C := C0
  k_extra "mine:fill"
  obtain ⟨hh, gs, dw, tk, os⟩ := s
  have Xs := X.keeps st
  have hn0 : hh.get? hh.objs.size = none := Heap.get?_none_of_le (Nat.le_refl _)
  have hn1 : hh.get? (hh.objs.size + 1) = none := Heap.get?_none_of_le (Nat.le_succ _)
  refine wpAny_call ?_
  refine make_core (init := .ref 192) (makes_of Xs ?hm) (looks_findIn Xs ?hi) (fun self => bind_fn Xs self ?hf) (.inl rfl) ?_
  case hm => k_dflt k_is
  case hi => k_dflt k_is
  case hf => k_dflt k_is
  rw [around_under _ _ _ _ _ rfl]
  have st2 : H₀.StaysIn ((hh.push emptyDict).push (instObj 300 hh.objs.size)) := fun b o e => Heap.get?_push_of_some _ (Heap.get?_push_of_some _ (st b o e))
  refine' enterKR [(hh.objs.size + 1, instObj 300 hh.objs.size), (hh.objs.size, emptyDict)] X st2 T.nolimit ?ho ?hcd ?hroom ?hbind ?hkind ?hnd ?ht ?h0 ?_ ?c1 ?c2 ?c3
  case ho => k_dflt k_is
  case hcd => k_dflt k_is
  case hroom => exact Nat.lt_of_le_of_lt (Nat.add_le_add_left (Nat.le_of_ble_eq_true rfl : _ ≤ 60) dp) hd1
  case hbind => exact kp_binds (Frag.In.keeps X st2) fun _ => rfl
  case hkind => exact rfl
  case hnd => decide +kernel
  case ht => 
    simp only [List.forall_mem_cons]
    refine ⟨by heap_get, by heap_get, by simp⟩
  case h0 => 
    simp only [List.forall_mem_cons]
    refine ⟨?_, ?_, by simp⟩
    · exact none_old st hn1
    · exact none_old st hn0
  case c1 => exact rfl
  case c2 => exact rfl
  case c3 => exact rfl
  intro g' L' h' tk' cells' eL eg stg X' F' N' Y' l1
  have T' := T.keeps stg
  k_extra "mine:cells"
  try clear Y'
  repeat' k_extra "mine:go"
  show _ = _ ∧ _
  refine ⟨rfl, ?_⟩
  dsimp only
  rename Fr _ _ _ _ => F9
  rename News _ _ _ _ => N9
  refine' hret _ _ _ hh.objs.size _ ?hz ?t0 ?gr ?n1 ?n2 ?n3 (News.get N9 (by k_mem)) (News.get N9 (by k_mem)) (News.get N9 (by k_mem))
  case n1 => exact hn1
  case n2 => exact hn0
  case n3 => exact Heap.get?_none_of_le (Nat.le_of_lt (by rename _ < _ ∧ _ < _ => lD; exact lD.2))
  case gr =>
    intro b o e _
    have hb := Heap.lt_size e
    refine F9.keep b o (eg ▸ hideAll_get _ (Heap.get?_push_of_some _ (Heap.get?_push_of_some _ e)) ?_)
    simp only [List.map_cons, List.map_nil, List.mem_cons, List.not_mem_nil, or_false, not_or]
    exact ⟨Nat.ne_of_lt (Nat.lt_succ_of_lt hb), Nat.ne_of_lt hb⟩
end
end LHdrsS
section LAccIS
section
variable {w : World} {mean : ExcName → Option Value} {mg mb : Str → Option Value} {dp un : Nat} {gd : Option (List Code)} {outer : List Env} {H₀ : Heap} {s : Shared} {Q E : Value → Shared → Prop}

set_option maxHeartbeats 1000000 in
theorem acc_spec (C : Cx w mean mg mb H₀) (st : H₀.StaysIn s.heap) (hd1 : dp + 60 < recursionLimit)
    (hret : ∀ h' tk' x dx hz t0 t1 n, Grow s.heap h' [] → s.heap.get? x = none → s.heap.get? dx = none → h'.get? x = some (accObj dx [] n) → h'.get? dx = some (accD hz t0 t1) → Q (.ref x) { s with heap := h', toks := tk' }) :
    wpAny (model PW w) (around dp un gd outer) (call (.ref 163) [] []) Q E s := by
  k_with_none
  w_top off
  k_with "mine:fill" => (have _kf : (PySem.Challenge.rw_wk0041_01, _root_.hd.heap_1) = (PySem.Challenge.rw_wk0041_01, _root_.hd.heap_1) := by (k_fill; rfl))
  k_with "mine:room" => (first | assumption | (simp only [around, Around.deeper, Around.mark, Around.in1, recursionLimit] at *; omega))
  k_with "mine:entercases" => (
    (case ho => k_dflt k_is)
    (case hcd => k_dflt k_is)
    (case hroom => k_extra "mine:room")
    (case hbind => first | exact BindsTo.of_eq rfl | exact binds_K (by k_in) rfl (by k_is) rfl rfl rfl | exact kp_binds (Frag.In.keeps X st) fun _ => rfl)
    (case hkind => exact rfl)
    (case hnd => decide +kernel)
    (case ht => (first | exact List.forall_mem_nil _ | (simp only [List.forall_mem_cons]; simp_all)))
    (case h0 => (first | exact List.forall_mem_nil _ | (simp only [List.forall_mem_cons]; simp_all)))
    (case c1 => exact rfl)
    (case c2 => exact rfl)
    (case c3 => exact rfl))
  k_with "mine:cells" => (
    (first | (k_cells Y') | (have hY := cellsNil Y'; subst hY))
    (try simp only [List.cons_append, List.nil_append, List.append_nil] at N')
    (try dsimp only)
    (try k_fold))
  k_with "mine:go" => (
    (fail_if_success (with_reducible show LCt.CompRestT _ _ _ _ _ _ _ _ _ _ _ _ _ _ _ _ _ _ _ _))
    (fail_if_success (with_reducible show LCg.CompRest _ _ _ _ _ _ _ _ _ _ _ _ _ _ _ _ _ _ _))
    (fail_if_success (with_reducible show ForSrc _ _ _ _ _ _ _ _ _ _ _))
    (first | (k_unfold; (try dsimp only)) | (k_end; wrow_close) | walk1 | (dsimp only; walk1) | (leave1; walk_say "STEP leave1"; try dsimp only) | fail "no step"))
  k_with "mine:same" => exact ⟨_, _, rfl, by assumption, by assumption⟩
  k_with "mine:hdp" => ((try dsimp only [around, Around.deeper]); omega)
  k_with "mine:mapsA" => (repeat' (first | exact List.forall_mem_nil _ | refine List.forall_mem_cons.mpr ⟨by with_unfolding_all rfl, ?_⟩))
  k_with "mine:memS" => ((repeat (first | (with_reducible exact List.mem_cons_self) | refine List.mem_cons_of_mem _ ?_)); done)
  k_with "mine:mapsB" => (
    (intro y hy)
    (try dsimp only)
    (repeat refine (if_neg (hy _ (by k_extra "mine:memS"))).trans ?_)
    (refine Eq.symm ?_)
    (repeat refine (if_neg (hy _ (by k_extra "mine:memS"))).trans ?_)
    rfl)
  k_with "wpAt" => (ks_step "attributeBase Call"; k_here; k_dflt (
    (refine' ks_node ?f1 ?f2 ?f3 ?f4 ?a1 ?a2 ?a3 (show InstAt _ _ (accObj _ _ _) 163 (some _) from ⟨News.get ?n1 (List.Mem.head _), rfl, rfl, News.get ?n2 (List.Mem.tail _ (List.Mem.head _))⟩) ?a4 ?a5 ?a6 ?a7 ?a8 ?a9 ?b1 ?b2 ?b3 ?b4 ?b5 ?b6 ?b7 ?b8 ?_)
    (case f1 => k_asm)
    (case f2 => k_asm)
    (case f3 => k_asm)
    (case f4 => k_asm)
    (case n1 => k_asm)
    (case n2 => k_asm)
    (case a1 => k_is)
    (case a2 => rfl)
    (case a3 => rfl)
    (case a4 => k_is)
    (case a5 => rfl)
    (case a6 => first | rfl | decide +kernel)
    (case a7 => k_is)
    (case a8 => k_is)
    (case a9 => k_is)
    (case b1 => k_is)
    (case b2 => decide)
    (case b3 => rfl)
    (case b4 => rfl)
    (case b5 => rfl)
    (case b6 => rfl)
    (case b7 => decide +kernel)
    (case b8 => first | boot_by_name | rfl | kernel_rfl)
    (intro so' h' F' N' l1)))
  k_with "m:k_inst" => (refine' of_acc ?N ?h1 ?h2; (case N => k_asm); (case h1 => k_mem); (case h2 => k_mem))
  have C0 := C
  obtain ⟨X, T⟩ := C
  have C := C0
  k_extra "mine:fill"
  obtain ⟨hh, gs, dw, tk, os⟩ := s
  have Xs := X.keeps st
  have hn0 : hh.get? hh.objs.size = none := Heap.get?_none_of_le (Nat.le_refl _)
  have hn1 : hh.get? (hh.objs.size + 1) = none := Heap.get?_none_of_le (Nat.le_succ _)
  refine wpAny_call ?_
  refine make_L (init := .ref 100) (madeL_of Xs ?hm) (looks_findIn Xs ?hi) (fun self => bind_fn Xs self ?hf) ?_
  case hm => kernel_rfl
  case hi => k_dflt k_is
  case hf => k_dflt k_is
  rw [around_under _ _ _ _ _ rfl]
  have st2 : H₀.StaysIn ((hh.push emptyDict).push (accIn 163 hh.objs.size)) := fun b o e => Heap.get?_push_of_some _ (Heap.get?_push_of_some _ (st b o e))
  refine' enterS [(hh.objs.size + 1, accObj hh.objs.size [] 0), (hh.objs.size, emptyDict)] X st2 T.nolimit ?ho ?hcd ?hroom ?hbind ?hloc ?ht ?h0 ?_ ?hcell ?c1 ?c2 ?c3
  case ho => k_dflt k_is
  case hcd => k_dflt k_is
  case hroom => exact Nat.lt_of_le_of_lt (Nat.add_le_add_left (Nat.le_of_ble_eq_true rfl : _ ≤ 60) dp) hd1
  case hbind => exact kp_binds (Frag.In.keeps X st2) fun _ => rfl
  case hloc => exact locs rfl
  case hcell => decide
  case ht => 
    simp only [List.forall_mem_cons]
    refine ⟨by heap_get, by heap_get, by simp⟩
  case h0 => 
    simp only [List.forall_mem_cons]
    refine ⟨?_, ?_, by simp⟩
    · exact none_old st hn1
    · exact none_old st hn0
  case c1 => exact rfl
  case c2 => exact rfl
  case c3 => exact rfl
  intro g' L' h' eL eg stg X' F' N' l1
  have T' := T.keeps stg
  repeat' k_extra "mine:go"
  refine' setL ?k1 ?k2 ?k3 ?k4 ?k5 ?k6 ?k7 ?k8 ?k9 ?k10 ?k11 ?k12 ?k13 ?_
  (case k1 => k_asm)
  (case k2 => k_asm)
  (case k3 => k_asm); (case k4 => k_inst); (case k5 => exact rfl); (case k6 => k_dflt k_is); (case k7 => kernel_rfl); (case k8 => k_dflt k_is); (case k9 => k_dflt k_is); (case k10 => k_dflt k_get)
  (case k11 => k_dflt k_put)
  (case k12 => k_dflt k_upd)
  (case k13 => exact Nat.le_of_ble_eq_true rfl)
  intro h8 F8 N8
  dsimp only
  clear N' F'
  refine ks_wpAt_execs_cons ?_
  refine ks_wpAt_Expr_any ?_
  refine ks_wpAt_MethodCall ?_
  k_extra "mine:go"
  rename Fr _ _ _ _ => F9
  clear N8
  rename News _ _ _ _ => N9
  have I9 : InstAt _ (hh.objs.size + 1) (accObj hh.objs.size [] 0) 163 (some _) := ⟨News.get N9 (List.Mem.tail _ (List.Mem.head _)), rfl, rfl, News.get N9 (List.Mem.tail _ (List.Mem.tail _ (List.Mem.head _)))⟩
  have hmr : mroIn (hd.heap_1 w.params) 163 (.type "list") = some true := by k_dflt k_is
  refine' sup_K (T := "wrapper_descriptor") (D := 163) F9 X' N9 ?hso I9 ?ho ?hm ?hty ?hg ?hn ?hfree (fun e q => wd_init (by subst e; exact acc_isList (X'.keeps F9.keep) I9 hmr) q) ?_
  case hso => k_mem
  case ho => k_dflt k_is
  case hm => k_dflt ks_is
  case hty => kernel_rfl
  case hg => exact slot_wd_get.lookup
  case hn => decide
  case hfree => rfl
  intro q9 h9 F7 N7 l7
  clear F9 N9 F8
  refine callWith_B0 (News.get N7 (List.Mem.head _)) (.inr rfl) (wpAny_call (bound_call (News.get N7 (List.Mem.head _)) (.inr rfl) (by decide +kernel) PySem.F.entry_list_init (fun q => ?_) ?_))
  · exact wpAny_of_eq (by kernel_rfl) q
  · refine init_at (News.get N7 (List.Mem.tail _ (List.Mem.tail _ (List.Mem.head _)))) (by simp) fun h6 n6 hs6 hx6 => ?_
    have F6 := F7.update N7 (a := hh.objs.size + 1) (o := accObj hh.objs.size [] 0) (by k_mem) hs6
    have N6 := N7.update (a := hh.objs.size + 1) (o := accObj hh.objs.size [] 0) (by k_mem) hs6 hx6
    dsimp only
    repeat' k_extra "mine:go"
    show _ = _ ∧ _
    refine ⟨rfl, ?_⟩
    dsimp only
    refine' hret _ _ (hh.objs.size + 1) hh.objs.size _ _ _ _ ?gr ?n1 ?n2 hx6 ((hs6.2 _ (Nat.ne_of_lt (Nat.lt_succ_self _))).trans (News.get N7 (by k_mem)))
    case n1 => exact hn1
    case n2 => exact hn0
    case gr =>
      intro b o e _
      have hb := Heap.lt_size e
      refine F6.keep b o (eg ▸ hideAll_get _ (Heap.get?_push_of_some _ (Heap.get?_push_of_some _ e)) ?_)
      simp only [List.map_cons, List.map_nil, List.mem_cons, List.not_mem_nil, or_false, not_or]
      exact ⟨Nat.ne_of_lt (Nat.lt_succ_of_lt hb), Nat.ne_of_lt hb⟩
end
end LAccIS
section LSumsS
theorem range_size (n : Nat) : Builtin.Range.rangeSize 0 (n : Int) 1 = ((n : Nat) : Int) := by
  unfold Builtin.Range.rangeSize
  split <;> simp_all
theorem range_small_all : ∀ n ∈ List.range 101, Builtin.Range.small 0 (n : Int) 1 = true := by decide +kernel
theorem range_small {n : Nat} (h : n ≤ 100) : Builtin.Range.small 0 (n : Int) 1 = true := range_small_all n (List.mem_range.mpr (Nat.lt_succ_of_le h))
section
variable {w : World} {mean : ExcName → Option Value} {mg mb : Str → Option Value} {dp un : Nat} {gd : Option (List Code)} {outer : List Env} {H₀ : Heap} {s : Shared} {Q E : Value → Shared → Prop}
theorem sums_spec (C : Cx w mean mg mb H₀) (st : H₀.StaysIn s.heap) (hd1 : dp + 10 < recursionLimit) {a : Addr} {vs : List Value} {ns : List Int}
    (ha : s.heap.IsList a vs.toArray) (hv : IntsAre vs ns) (hl : vs.length ≤ 63)
    (hret : ∀ h' tk' l vs' xs n, Grow s.heap h' [] → s.heap.get? l = none → h'.get? l = some (W.listOf (List.toArray vs') n) → IntsAre vs' xs → xs.length = 14 → (∀ x ∈ xs, 0 ≤ x ∧ x ≤ 30000) → Q (.ref l) { s with heap := h', toks := tk' }) :
    wpAny (model PW w) (around dp un gd outer) (call (.ref 311) [.ref a] []) Q E s := by
  k_with_none
  w_top off
  k_with "mine:fill" => (have _kf : (PySem.Challenge.rw_wk0041_01, _root_.hd.heap_1) = (PySem.Challenge.rw_wk0041_01, _root_.hd.heap_1) := by (k_fill; rfl))
  k_with "mine:room" => (first | assumption | (simp only [around, Around.deeper, Around.mark, Around.in1, recursionLimit] at *; omega))
  k_with "mine:entercases" => (
    (case ho => k_dflt k_is)
    (case hcd => k_dflt k_is)
    (case hroom => k_extra "mine:room")
    (case hbind => first | exact BindsTo.of_eq rfl | exact binds_K (by k_in) rfl (by k_is) rfl rfl rfl | exact kp_binds (Frag.In.keeps X st) fun _ => rfl)
    (case hkind => exact rfl)
    (case hnd => decide +kernel)
    (case ht => (first | exact List.forall_mem_nil _ | (simp only [List.forall_mem_cons]; simp_all)))
    (case h0 => (first | exact List.forall_mem_nil _ | (simp only [List.forall_mem_cons]; simp_all)))
    (case c1 => exact rfl)
    (case c2 => exact rfl)
    (case c3 => exact rfl))
  k_with "mine:cells" => (
    (first | (k_cells Y') | (have hY := cellsNil Y'; subst hY))
    (try simp only [List.cons_append, List.nil_append, List.append_nil] at N')
    (try dsimp only)
    (try k_fold))
  k_with "mine:go" => (
    (fail_if_success (with_reducible show LCt.CompRestT _ _ _ _ _ _ _ _ _ _ _ _ _ _ _ _ _ _ _ _))
    (fail_if_success (with_reducible show LCg.CompRest _ _ _ _ _ _ _ _ _ _ _ _ _ _ _ _ _ _ _))
    (fail_if_success (with_reducible show ForSrc _ _ _ _ _ _ _ _ _ _ _))
    (first | (k_unfold; (try dsimp only)) | (k_end; wrow_close) | walk1 | (dsimp only; walk1) | (leave1; walk_say "STEP leave1"; try dsimp only) | fail "no step"))
  k_with "mine:same" => exact ⟨_, _, rfl, by assumption, by assumption⟩
  k_with "mine:hdp" => ((try dsimp only [around, Around.deeper]); omega)
  k_with "mine:mapsA" => (repeat' (first | exact List.forall_mem_nil _ | refine List.forall_mem_cons.mpr ⟨by with_unfolding_all rfl, ?_⟩))
  k_with "mine:memS" => ((repeat (first | (with_reducible exact List.mem_cons_self) | refine List.mem_cons_of_mem _ ?_)); done)
  k_with "mine:mapsB" => (
    (intro y hy)
    (try dsimp only)
    (repeat refine (if_neg (hy _ (by k_extra "mine:memS"))).trans ?_)
    (refine Eq.symm ?_)
    (repeat refine (if_neg (hy _ (by k_extra "mine:memS"))).trans ?_)
    rfl)
  k_with "exec For" => (with_unfolding_all refine For_src ?_ (by intro _; rfl))
  k_with "exec For Name Call cons nil" => (with_unfolding_all refine For_src ?_ (by intro _; rfl))
  k_with "call builtin:len" => (
    (with_reducible rename Fr _ _ _ _ => F9)
    (with_unfolding_all refine call_len_list (isList_up hag F9.keep) ?hfit ?_)
    (case hfit => k_extra "mine:len"))
  k_with "mine:len" => (simp only [List.size_toArray]; omega)
  have C0 := C
  obtain ⟨X, T⟩ := C
  have C := C0
  k_extra "mine:fill"
  refine' enterK [] X st T.nolimit ?ho ?hcd ?hroom ?hbind ?hkind ?hnd ?ht ?h0 ?_ ?c1 ?c2 ?c3
  k_extra "mine:entercases"
  intro g' L' h' tk' cells' eL eg stg X' F' N' Y' l1
  have T' := T.keeps stg
  have eg' : g' = s.heap := eg
  k_extra "mine:cells"
  clear Y'
  replace F' : Fr g' L' h' (fun y => if y = Str.ofString "script" then some (.ref a) else none) := by with_unfolding_all exact F'
  have hag : g'.IsList a vs.toArray := eg ▸ ha
  repeat' k_extra "mine:go"
  have hend : (if ((ns.length : Nat) : Int) < 28 then ((ns.length : Nat) : Int) else 28) = ((min 28 ns.length : Nat) : Int) := by split <;> omega
  rename IsRange _ _ _ _ _ _ _ _ => hR
  rw [hend] at hR
  have hnl : vs.length = ns.length := IntsAre.length (by assumption)
  have hvi : IntsAre vs ns := by assumption
  refine ForSrc.range (n := min 28 ns.length) (fun i m₁ news₁ => ∃ l vs' xs n, m₁ = (fun y => if y = Str.ofString "k" then m₁ y else if y = Str.ofString "sums" then some (.ref l) else if y = Str.ofString "script" then some (.ref a) else none) ∧ news₁ = [(l, W.listOf (List.toArray vs') n)] ∧ IntsAre vs' xs ∧ xs.length = 14 ∧ ∀ x ∈ xs, 0 ≤ x ∧ x ≤ 9 + 1000 * (i : Int)) (by rfl) (by k_asm) (by k_asm) hR (range_small (by omega)) (range_size _) ?J0 ?turn ?done
  case J0 =>
    refine ⟨_, _, [5, 4, 1, 3, 4, 1, 3, 2, 4, 2, 2, 2, 9, 5], 0, ?_, rfl, ?_, rfl, by decide⟩
    · funext y
      by_cases h1 : y = Str.ofString "k"
      · simp only [if_pos h1]
      · simp only [if_neg h1]
    · repeat (first | exact IntsAre.nil | refine IntsAre.cons _ _ ?_)
  case done =>
    rintro m₁ news₁ h tk ⟨l, vs', xs, n, hm₁, rfl, hxs, hxl, hxb⟩ F' N'
    rw [hm₁] at F'
    clear hm₁
    repeat' k_extra "mine:go"
    dsimp only
    exact hret _ _ l vs' xs n (fun b o e _ => F'.keep b o (eg' ▸ e)) (eg' ▸ (N' _ (List.Mem.head _)).2.2) (N' _ (List.Mem.head _)).1 hxs hxl fun x hx => ⟨(hxb x hx).1, by have := (hxb x hx).2; omega⟩
  case turn =>
    rintro i m₁ news₁ I oI h tk t' hi ⟨l, vs', xs, n, hm₁, rfl, hxs, hxl, hxb⟩ F' N' off'
    have hne : @Ne Nat l I := off' _ (List.Mem.head _)
    rw [hm₁] at F'
    clear hm₁
    repeat' k_extra "mine:go"
    dsimp only [Turned]
    refine ⟨_, _, _, _, rfl, by assumption, by assumption, by simpa using hne, trivial, l, _, _, n, ?_, rfl, by assumption, by simpa using hxl, ?_⟩
    · funext y
      by_cases h1 : y = Str.ofString "k"
      · simp only [if_pos h1]
      · simp only [if_neg h1]
    · intro x hx
      rcases List.mem_or_eq_of_mem_set hx with hx | rfl
      · have := hxb x hx; omega
      · have hj : ((0 + (i : Int)).fmod 14).toNat < xs.length := by
          rw [hxl, Int.fmod_eq_emod_of_nonneg _ (by decide)]; omega
        have hm := hxb (xs.getD ((0 + (i : Int)).fmod 14).toNat 0) (by simp only [List.getD, List.getElem?_eq_getElem hj, Option.getD_some]; exact List.getElem_mem hj)
        rw [Int.fmod_eq_emod_of_nonneg (ns.getD _ 0) (by decide)]
        omega
end
end LSumsS
section PExS
noncomputable def hasB (S i : Nat) : Bool := i == 4 || S.testBit i
noncomputable def okP (S i j : Nat) : Bool := hasB S i && hasB S j && (i != j || i == 4)
noncomputable def mvOut (S i : Nat) : Nat := if i == 4 then S else S &&& (15 ^^^ (1 <<< i))
noncomputable def mvIn (S i : Nat) : Nat := if i == 4 then S else S ||| (1 <<< i)
noncomputable def cnt (S : Nat) : Nat := ((List.range 4).filter fun i => S.testBit i).length
noncomputable def upB (x y i : Nat) : Bool := if i == 4 then decide (cnt x < cnt y) else x.testBit i && !y.testBit i
noncomputable def exOk (x y i i1 j1 i2 j2 : Nat) : Bool :=
  (List.range 5).any fun j => upB y x j &&
    (let x' := mvIn (mvOut x i) j; let y' := mvOut (mvIn y i) j
     (okP x' i1 j1 && okP y' i2 j2) || (okP x' i2 j1 && okP y' i1 j2) || (okP x' i1 j2 && okP y' i2 j1) || (okP x' i2 j2 && okP y' i1 j1))
noncomputable def exAll (x : Nat) : Bool :=
  (List.range 16).all fun y => (List.range 5).all fun i => !upB x y i ||
    ((List.range 5).all fun i1 => (List.range 5).all fun j1 => !okP x i1 j1 || ((List.range 5).all fun i2 => (List.range 5).all fun j2 => !okP y i2 j2 || exOk x y i i1 j1 i2 j2))
theorem ex_0 : exAll 0 = true := by decide +kernel
theorem ex_1 : exAll 1 = true := by decide +kernel
theorem ex_2 : exAll 2 = true := by decide +kernel
theorem ex_3 : exAll 3 = true := by decide +kernel
theorem ex_4 : exAll 4 = true := by decide +kernel
theorem ex_5 : exAll 5 = true := by decide +kernel
theorem ex_6 : exAll 6 = true := by decide +kernel
theorem ex_7 : exAll 7 = true := by decide +kernel
theorem ex_8 : exAll 8 = true := by decide +kernel
theorem ex_9 : exAll 9 = true := by decide +kernel
theorem ex_10 : exAll 10 = true := by decide +kernel
theorem ex_11 : exAll 11 = true := by decide +kernel
theorem ex_12 : exAll 12 = true := by decide +kernel
theorem ex_13 : exAll 13 = true := by decide +kernel
theorem ex_14 : exAll 14 = true := by decide +kernel
theorem ex_15 : exAll 15 = true := by decide +kernel
theorem ex_all : ∀ x ∈ List.range 16, exAll x = true := by
  intro x hx
  have hx := List.mem_range.mp hx
  match x, hx with
  | 0, _ => exact ex_0
  | 1, _ => exact ex_1
  | 2, _ => exact ex_2
  | 3, _ => exact ex_3
  | 4, _ => exact ex_4
  | 5, _ => exact ex_5
  | 6, _ => exact ex_6
  | 7, _ => exact ex_7
  | 8, _ => exact ex_8
  | 9, _ => exact ex_9
  | 10, _ => exact ex_10
  | 11, _ => exact ex_11
  | 12, _ => exact ex_12
  | 13, _ => exact ex_13
  | 14, _ => exact ex_14
  | 15, _ => exact ex_15
  | n + 16, h => exact absurd h (by omega)
end PExS
section PLawS
/-! the plain law: exchange, steepest ascent -/
noncomputable def dN (x y : Nat) : Nat := max (cnt (x &&& (15 ^^^ y))) (cnt (y &&& (15 ^^^ x)))
noncomputable def nbN (x y : Nat) : Bool := decide (cnt (x &&& (15 ^^^ y)) ≤ 1) && decide (cnt (y &&& (15 ^^^ x)) ≤ 1)
/-- x less i, more j -/
noncomputable def mv (x i j : Nat) : Nat := mvIn (mvOut x i) j
/-- the move is open: x has i to give and room for j -/
noncomputable def opn (x i j : Nat) : Bool := (i == 4 || x.testBit i) && (j == 4 || !x.testBit j) && i != j
noncomputable def all16 (p : Nat → Bool) : Bool := (List.range 16).all p
noncomputable def all5 (p : Nat → Bool) : Bool := (List.range 5).all p
theorem of_all16 {p : Nat → Bool} (h : all16 p = true) {x : Nat} (hx : x < 16) : p x = true := List.all_eq_true.mp h x (List.mem_range.mpr hx)
theorem of_all5 {p : Nat → Bool} (h : all5 p = true) {x : Nat} (hx : x < 5) : p x = true := List.all_eq_true.mp h x (List.mem_range.mpr hx)
theorem imp_of {a b : Bool} (h : (!a || b) = true) (ha : a = true) : b = true := by subst ha; simpa using h
/-- a neighbour is reached by an open move -/
theorem nb_mv_all : all16 (fun x => all16 fun y => !(nbN x y && x != y) || (List.range 5).any fun i => (List.range 5).any fun j => opn x i j && (mv x i j == y)) = true := by decide +kernel
theorem nb_mv {x y : Nat} (hx : x < 16) (hy : y < 16) (h : nbN x y = true) (hn : x ≠ y) : ∃ i j, i < 5 ∧ j < 5 ∧ opn x i j = true ∧ y = mv x i j := by
  have := imp_of (of_all16 (of_all16 nb_mv_all hx) hy) (by rw [h]; simpa using hn)
  obtain ⟨i, hi, h1⟩ := List.any_eq_true.mp this
  obtain ⟨j, hj, h2⟩ := List.any_eq_true.mp h1
  simp only [Bool.and_eq_true, beq_iff_eq] at h2
  exact ⟨i, j, List.mem_range.mp hi, List.mem_range.mp hj, h2.1, h2.2.symm⟩
/-- an open move keeps to the masks and goes to a neighbour -/
theorem mv_nb_all : all16 (fun x => all5 fun i => all5 fun j => !opn x i j || (decide (mv x i j < 16) && nbN x (mv x i j) && (mvOut (mvIn x j) i == mv x i j) && (mv (mv x i j) j i == x))) = true := by decide +kernel
theorem mv_nb {x i j : Nat} (hx : x < 16) (hi : i < 5) (hj : j < 5) (h : opn x i j = true) : mv x i j < 16 ∧ nbN x (mv x i j) = true ∧ mvOut (mvIn x j) i = mv x i j ∧ mv (mv x i j) j i = x := by
  have := imp_of (of_all5 (of_all5 (of_all16 mv_nb_all hx) hi) hj) h
  simpa [and_assoc] using this
/-- up on both sides: the moves are open -/
theorem up_opn_all : all16 (fun x => all16 fun y => all5 fun i => !upB x y i || all5 fun j => !upB y x j || (opn x i j && opn y j i)) = true := by decide +kernel
theorem up_opn {x y i j : Nat} (hx : x < 16) (hy : y < 16) (hi : i < 5) (hj : j < 5) (h1 : upB x y i = true) (h2 : upB y x j = true) : opn x i j = true ∧ opn y j i = true := by
  have := imp_of (of_all5 (imp_of (of_all5 (of_all16 (of_all16 up_opn_all hx) hy) hi) h1) hj) h2
  simpa using this
theorem ne_up_all : all16 (fun x => all16 fun y => (x == y) || (List.range 5).any fun i => upB x y i) = true := by decide +kernel
theorem ne_up {x y : Nat} (hx : x < 16) (hy : y < 16) (h : x ≠ y) : ∃ i, i < 5 ∧ upB x y i = true := by
  have := of_all16 (of_all16 ne_up_all hx) hy
  rw [Bool.or_eq_true] at this
  rcases this with e | e
  · exact absurd (by simpa using e) h
  · obtain ⟨i, hi, h1⟩ := List.any_eq_true.mp e
    exact ⟨i, List.mem_range.mp hi, h1⟩
/-- a move of y towards x is one nearer -/
theorem d_near_all : all16 (fun x => all16 fun y => all5 fun i => !upB x y i || all5 fun j => !upB y x j || (dN x (mv y j i) + 1 == dN x y && (dN (mv x i j) y + 1 == dN x y))) = true := by decide +kernel
theorem d_near {x y i j : Nat} (hx : x < 16) (hy : y < 16) (hi : i < 5) (hj : j < 5) (h1 : upB x y i = true) (h2 : upB y x j = true) : dN x (mv y j i) + 1 = dN x y ∧ dN (mv x i j) y + 1 = dN x y := by
  have := imp_of (of_all5 (imp_of (of_all5 (of_all16 (of_all16 d_near_all hx) hy) hi) h1) hj) h2
  simpa using this
/-- one end of a step lies at most one nearer -/
theorem d_tri_all : all16 (fun x => all5 fun i => all5 fun j => !opn x i j || all16 fun y => decide (dN x y ≤ dN (mv x i j) y + 1)) = true := by decide +kernel
theorem d_tri {x y i j : Nat} (hx : x < 16) (hy : y < 16) (hi : i < 5) (hj : j < 5) (h1 : opn x i j = true) : dN x y ≤ dN (mv x i j) y + 1 := by
  have := of_all16 (imp_of (of_all5 (of_all5 (of_all16 d_tri_all hx) hi) hj) h1) hy
  simpa using this
/-- first step: i does not stand above in x; then y (which has it above x' = x - i + j) gives i for l -/
theorem s1_all : all16 (fun x => all5 fun i => all5 fun j => !opn x i j || all16 fun y => upB x y i || (upB y (mv x i j) i && all5 fun l => !upB (mv x i j) y l || ((l == j) || (opn x l j && (mv (mv x i j) l i == mv x l j) && (decide (dN x (mv y i l) + 1 ≤ dN x y) || (decide (dN x (mv y i l) ≤ dN x y) && upB x (mv y i l) i)))))) = true := by decide +kernel
theorem s2_all : all16 (fun x => all5 fun i => all5 fun j => !opn x i j || all16 fun y => !upB x y i || upB y x j || (upB (mv x i j) y j && all5 fun l => !upB y (mv x i j) l || (opn x i l && (mv (mv x i j) j l == mv x i l) && (decide (dN x (mv y l j) + 1 ≤ dN x y) || (decide (dN x (mv y l j) ≤ dN x y) && upB x (mv y l j) i && upB (mv y l j) x j))))) = true := by decide +kernel
end PLawS
section PLawBS
noncomputable def Ex (N : Nat → Int) : Prop := ∀ x y, x < 16 → y < 16 → ∀ i, i < 5 → upB x y i = true → ∃ j, j < 5 ∧ upB y x j = true ∧ N x + N y ≤ N (mv x i j) + N (mvOut (mvIn y i) j)
noncomputable def Mx (N : Nat → Int) (y : Nat) : Prop := y < 16 ∧ ∀ k, k < 16 → N k ≤ N y
noncomputable def Top (N : Nat → Int) (x : Nat) : Prop := ∀ n, n < 16 → nbN x n = true → N n ≤ N x
noncomputable def StepN (N : Nat → Int) (a b : Nat) : Prop := b < 16 ∧ nbN a b = true ∧ N a < N b ∧ ∀ n, n < 16 → nbN a n = true → N n ≤ N b
theorem Ex.mv {N : Nat → Int} (E : Ex N) {x y i : Nat} (hx : x < 16) (hy : y < 16) (hi : i < 5) (h : upB x y i = true) : ∃ j, j < 5 ∧ upB y x j = true ∧ opn x i j = true ∧ opn y j i = true ∧ N x + N y ≤ N (mv x i j) + N (mv y j i) := by
  obtain ⟨j, hj, h2, e⟩ := E x y hx hy i hi h
  obtain ⟨o1, o2⟩ := up_opn hx hy hi hj h h2
  rw [(mv_nb hy hj hi o2).2.2.1] at e
  exact ⟨j, hj, h2, o1, o2, e⟩
theorem top_max {N : Nat → Int} (E : Ex N) {x : Nat} (hx : x < 16) (T : Top N x) : Mx N x := by
  refine ⟨hx, ?_⟩
  suffices ∀ d y, y < 16 → dN x y ≤ d → N y ≤ N x from fun y hy => this _ y hy (Nat.le_refl _)
  intro d
  induction d with
  | zero =>
    intro y hy hd
    by_cases e : x = y
    · subst e; exact Int.le_refl _
    · obtain ⟨i, hi, hu⟩ := ne_up hx hy e
      obtain ⟨j, hj, h2, _, _, _⟩ := E.mv hx hy hi hu
      have := (d_near hx hy hi hj hu h2).1
      omega
  | succ d ih =>
    intro y hy hd
    by_cases e : x = y
    · subst e; exact Int.le_refl _
    · obtain ⟨i, hi, hu⟩ := ne_up hx hy e
      obtain ⟨j, hj, h2, o1, o2, le⟩ := E.mv hx hy hi hu
      have h1 := (d_near hx hy hi hj hu h2).1
      have h3 := T _ (mv_nb hx hi hj o1).1 (mv_nb hx hi hj o1).2.1
      have h4 := ih _ (mv_nb hy hj hi o2).1 (by omega)
      omega
/-- a nearest maximiser -/
noncomputable def Near (N : Nat → Int) (x y : Nat) : Prop := Mx N y ∧ ∀ z, Mx N z → dN x y ≤ dN x z
theorem max_ex (N : Nat → Int) : ∃ y, Mx N y := by
  suffices ∀ n, 0 < n → ∃ y, y < n ∧ ∀ k, k < n → N k ≤ N y from this 16 (by decide)
  intro n
  induction n with
  | zero => intro h; exact absurd h (by decide)
  | succ n ih =>
    intro _
    rcases Nat.eq_zero_or_pos n with rfl | hp
    · exact ⟨0, by decide, fun k hk => by rw [show k = 0 by omega]; exact Int.le_refl _⟩
    · obtain ⟨y, hy, hm⟩ := ih hp
      by_cases h : N n ≤ N y
      · refine ⟨y, by omega, fun k hk => ?_⟩
        rcases Nat.lt_or_ge k n with q | q
        · exact hm k q
        · rw [show k = n by omega]; exact h
      · refine ⟨n, by omega, fun k hk => ?_⟩
        rcases Nat.lt_or_ge k n with q | q
        · have := hm k q; omega
        · rw [show k = n by omega]; exact Int.le_refl _
theorem least_ex {P : Nat → Prop} (f : Nat → Nat) (h : ∃ y, P y) : ∃ y, P y ∧ ∀ z, P z → f y ≤ f z := by
  obtain ⟨y, hy⟩ := h
  suffices ∀ n y, P y → f y ≤ n → ∃ y, P y ∧ ∀ z, P z → f y ≤ f z from this _ y hy (Nat.le_refl _)
  intro n
  induction n with
  | zero => intro y hy e; exact ⟨y, hy, fun z _ => by omega⟩
  | succ n ih =>
    intro y hy e
    by_cases h : ∃ z, P z ∧ f z < f y
    · obtain ⟨z, hz, hl⟩ := h
      exact ih z hz (by omega)
    · exact ⟨y, hy, fun z hz => Nat.le_of_not_lt fun q => h ⟨z, hz, q⟩⟩
theorem near_ex (N : Nat → Int) (x : Nat) : ∃ y, Near N x y := least_ex (P := Mx N) (dN x) (max_ex N)
theorem mx_le {N : Nat → Int} {y z : Nat} (h : Mx N y) (hz : z < 16) (e : N y ≤ N z) : Mx N z := ⟨hz, fun k hk => Int.le_trans (h.2 k hk) e⟩
/-- some nearest maximiser lies beyond the step -/
theorem step_near {N : Nat → Int} (E : Ex N) {x i j : Nat} (hx : x < 16) (hi : i < 5) (hj : j < 5) (o : opn x i j = true) (S : StepN N x (mv x i j)) : ∃ y, Near N x y ∧ upB x y i = true ∧ upB y x j = true := by
  obtain ⟨y0, hy0⟩ := near_ex N x
  have M := mv_nb hx hi hj o
  obtain ⟨_, _, lt, top⟩ := S
  have hx' := M.1
  -- first i
  have A : ∃ y, Near N x y ∧ upB x y i = true := by
    have hy := hy0.1.1
    have h := of_all16 (imp_of (of_all5 (of_all5 (of_all16 s1_all hx) hi) hj) o) hy
    rw [Bool.or_eq_true] at h
    rcases h with h | h
    · exact ⟨y0, hy0, h⟩
    rw [Bool.and_eq_true] at h
    obtain ⟨l, hl, h2, o1, o2, le⟩ := E.mv hy hx' hi h.1
    have h3 := imp_of (of_all5 h.2 hl) h2
    rw [Bool.or_eq_true] at h3
    rcases h3 with h3 | h3
    · have e : l = j := by simpa using h3
      subst e
      rw [M.2.2.2] at le
      have := hy0.1.2 _ (mv_nb hy hi hl o1).1
      omega
    · simp only [Bool.and_eq_true, beq_iff_eq, Bool.or_eq_true, decide_eq_true_eq] at h3
      obtain ⟨⟨ol, el⟩, h4⟩ := h3
      rw [el] at le
      have t := top _ (mv_nb hx hl hj ol).1 (mv_nb hx hl hj ol).2.1
      have hm : Mx N (mv y0 i l) := mx_le hy0.1 (mv_nb hy hi hl o1).1 (by omega)
      have hd := hy0.2 _ hm
      rcases h4 with h4 | h4
      · omega
      · exact ⟨_, ⟨hm, fun z hz => Nat.le_trans h4.1 (hy0.2 z hz)⟩, h4.2⟩
  obtain ⟨y, hyn, hu⟩ := A
  have hy := hyn.1.1
  have h := of_all16 (imp_of (of_all5 (of_all5 (of_all16 s2_all hx) hi) hj) o) hy
  rw [Bool.or_eq_true, Bool.or_eq_true] at h
  rcases h with (h | h) | h
  · rw [hu] at h; exact absurd h (by decide)
  · exact ⟨y, hyn, hu, h⟩
  rw [Bool.and_eq_true] at h
  obtain ⟨l, hl, h2, o1, o2, le⟩ := E.mv hx' hy hj h.1
  have h3 := imp_of (of_all5 h.2 hl) h2
  simp only [Bool.and_eq_true, beq_iff_eq, Bool.or_eq_true, decide_eq_true_eq] at h3
  obtain ⟨⟨ol, el⟩, h4⟩ := h3
  rw [el] at le
  have t := top _ (mv_nb hx hi hl ol).1 (mv_nb hx hi hl ol).2.1
  have hm : Mx N (mv y l j) := mx_le hyn.1 (mv_nb hy hl hj o2).1 (by omega)
  have hd := hyn.2 _ hm
  rcases h4 with h4 | h4
  · omega
  · exact ⟨_, ⟨hm, fun z hz => Nat.le_trans h4.1.1 (hyn.2 z hz)⟩, h4.1.2, h4.2⟩
noncomputable def Dist (N : Nat → Int) (x k : Nat) : Prop := ∃ y, Near N x y ∧ dN x y = k
theorem Dist.uniq {N : Nat → Int} {x k l : Nat} (a : Dist N x k) (b : Dist N x l) : k = l := by
  obtain ⟨y, hy, rfl⟩ := a
  obtain ⟨z, hz, rfl⟩ := b
  exact Nat.le_antisymm (hy.2 z hz.1) (hz.2 y hy.1)
theorem Dist.ex (N : Nat → Int) (x : Nat) : ∃ k, Dist N x k := by
  obtain ⟨y, hy⟩ := near_ex N x
  exact ⟨_, y, hy, rfl⟩
theorem step_dist {N : Nat → Int} (E : Ex N) {a b k : Nat} (ha : a < 16) (S : StepN N a b) (D : Dist N b k) : Dist N a (k + 1) := by
  have hn : a ≠ b := fun e => by have := S.2.2.1; rw [e] at this; omega
  obtain ⟨i, j, hi, hj, o, rfl⟩ := nb_mv ha S.1 S.2.1 hn
  obtain ⟨y, hy, u1, u2⟩ := step_near E ha hi hj o S
  have h1 := (d_near ha hy.1.1 hi hj u1 u2).2
  obtain ⟨z, hz, e⟩ := D
  have h2 := d_tri (y := z) ha hz.1.1 hi hj o
  have h3 := hz.2 y hy.1
  have h4 := hy.2 z hz.1
  exact ⟨y, hy, by omega⟩
theorem d_self : all16 (fun x => dN x x == 0) = true := by decide +kernel
theorem max_dist {N : Nat → Int} {x : Nat} (h : Mx N x) : Dist N x 0 :=
  have e : dN x x = 0 := by simpa using of_all16 d_self h.1
  ⟨x, ⟨h, fun z _ => by rw [e]; exact Nat.zero_le _⟩, e⟩
inductive PathN (N : Nat → Int) (a : Nat) : Nat → Nat → Prop
  | nil : PathN N a 0 a
  | snoc {k b c} : PathN N a k b → StepN N b c → PathN N a (k + 1) c
theorem PathN.lt {N : Nat → Int} {a k b : Nat} (h : PathN N a k b) (ha : a < 16) : b < 16 := by
  cases h with
  | nil => exact ha
  | snoc _ s => exact s.1
theorem path_dist {N : Nat → Int} (E : Ex N) {a k b : Nat} (ha : a < 16) (h : PathN N a k b) : ∀ l, Dist N b l → Dist N a (k + l) := by
  induction h with
  | nil => intro l d; rw [Nat.zero_add]; exact d
  | @snoc k b c p s ih =>
    intro l d
    have := ih _ (step_dist E (p.lt ha) s d)
    rwa [show k + 1 + l = k + (l + 1) by omega]
theorem path_end {N : Nat → Int} (E : Ex N) {a k b : Nat} (ha : a < 16) (h : PathN N a k b) (T : Top N b) : Mx N b ∧ Dist N a k :=
  have m := top_max E (h.lt ha) T
  ⟨m, path_dist E ha h 0 (max_dist m)⟩
theorem d_le_all : all16 (fun x => all16 fun y => decide (dN x y ≤ 4)) = true := by decide +kernel
theorem d_le {x y : Nat} (hx : x < 16) (hy : y < 16) : dN x y ≤ 4 := by simpa using of_all16 (of_all16 d_le_all hx) hy
/-! behind the rise -/
noncomputable def later (N : Nat → Int) (r : Int) (e : Nat) (x : Nat) : Int := N x - (if x.testBit e then r else 0)
theorem drop_all : all16 (fun x => all16 fun y => (List.range 4).all fun e => !x.testBit e || y.testBit e || (upB x y e && all5 fun j => !upB y x j || !(mv x e j).testBit e)) = true := by decide +kernel
theorem one_step {N : Nat → Int} (E : Ex N) {r : Int} (hr : 0 < r) {e : Nat} (he : e < 4) {x : Nat} (hx : Mx N x) {b : Nat} (S : StepN (later N r e) x b) : Mx (later N r e) b ∧ x.testBit e = true ∧ b.testBit e = false := by
  have hb := S.1
  have lt := S.2.2.1
  have h1 := hx.2 b hb
  cases hxe : x.testBit e with
  | false => exfalso; unfold later at lt; rw [hxe, if_neg (by decide)] at lt; split at lt <;> omega
  | true =>
    refine ⟨⟨hb, fun k hk => ?_⟩, rfl, ?_⟩
    · cases hke : k.testBit e with
      | true =>
        have := hx.2 k hk
        simp only [later, hxe, if_true] at lt
        simp only [later, hke, if_true] at lt ⊢
        omega
      | false =>
        have h := of_all16 (of_all16 drop_all hx.1) hk
        have h := List.all_eq_true.mp h e (List.mem_range.mpr he)
        rw [hxe, hke] at h
        simp only [Bool.not_true, Bool.false_or, Bool.and_eq_true] at h
        obtain ⟨j, hj, h2, o1, o2, le⟩ := E.mv hx.1 hk (by omega) h.1
        have h3 := imp_of (of_all5 h.2 hj) h2
        have h4 := hx.2 _ (mv_nb hk hj (by omega) o2).1
        have M := mv_nb hx.1 (by omega) hj o1
        have h5 := S.2.2.2 _ M.1 M.2.1
        have h6 : (mv x e j).testBit e = false := by simpa using h3
        simp only [later, h6, hke] at h5 ⊢
        simp at h5 ⊢
        omega
    · cases hbe : b.testBit e with
      | false => rfl
      | true => simp only [later, hxe, hbe, if_true] at lt; omega
theorem short {N : Nat → Int} (E : Ex N) {r : Int} (hr : 0 < r) {e : Nat} (he : e < 4) {x : Nat} (hx : Mx N x) {k b : Nat} (h : PathN (later N r e) x k b) : (k = 0 ∧ b = x) ∨ (k = 1 ∧ StepN (later N r e) x b) := by
  induction h with
  | nil => exact .inl ⟨rfl, rfl⟩
  | @snoc k b c p s ih =>
    rcases ih with ⟨rfl, rfl⟩ | ⟨rfl, s1⟩
    · exact .inr ⟨rfl, s⟩
    · have := (one_step E hr he hx s1).1.2 _ s.1
      have := s.2.2.1
      omega
end PLawBS
section PLawCS
/-! exchange of the earnings less wages -/
noncomputable def VMax (f g : Nat → Int) (S : Nat) (v : Int) : Prop := (∃ i j, i < 5 ∧ j < 5 ∧ okP S i j = true ∧ v = f i + g j) ∧ ∀ i j, i < 5 → j < 5 → okP S i j = true → f i + g j ≤ v
noncomputable def Wg (c : Nat → Int) (S : Nat) : Int := (if S.testBit 0 then c 0 else 0) + (if S.testBit 1 then c 1 else 0) + (if S.testBit 2 then c 2 else 0) + (if S.testBit 3 then c 3 else 0)
theorem bit_all : all16 (fun x => all5 fun i => (List.range 4).all fun k => ((mvOut x i).testBit k == (x.testBit k && k != i)) && ((mvIn x i).testBit k == (x.testBit k || k == i))) = true := by decide +kernel
theorem bit_at {x i k : Nat} (hx : x < 16) (hi : i < 5) (hk : k < 4) : (mvOut x i).testBit k = (x.testBit k && k != i) ∧ (mvIn x i).testBit k = (x.testBit k || k == i) := by
  have := List.all_eq_true.mp (of_all5 (of_all16 bit_all hx) hi) k (List.mem_range.mpr hk)
  simpa using this
theorem in_lt_all : all16 (fun x => all5 fun i => decide (mvOut x i < 16) && decide (mvIn x i < 16)) = true := by decide +kernel
theorem in_lt {x i : Nat} (hx : x < 16) (hi : i < 5) : mvOut x i < 16 ∧ mvIn x i < 16 := by
  have := of_all5 (of_all16 in_lt_all hx) hi
  simpa using this
theorem t_out (b : Bool) (x : Int) (k i : Nat) : (if (b && k != i) = true then x else 0) = (if b = true then x else 0) - (if k = i then (if b = true then x else 0) else 0) := by
  by_cases h : k = i
  · subst h; simp
  · simp [h, bne_iff_ne.mpr h]
theorem t_in (b : Bool) (x : Int) (k i : Nat) : (if (b || k == i) = true then x else 0) = (if b = true then x else 0) + (if k = i then (if b = true then 0 else x) else 0) := by
  by_cases h : k = i
  · subst h; cases b <;> simp
  · simp [h]
theorem five : ∀ i : Nat, i < 5 → i = 0 ∨ i = 1 ∨ i = 2 ∨ i = 3 ∨ i = 4 := by decide
theorem at_i (P : Nat → Prop) [DecidablePred P] (c : Nat → Int) {i : Nat} (hi : i < 5) : (if i < 4 ∧ P i then c i else 0) = (if 0 = i then (if P 0 then c 0 else 0) else 0) + (if 1 = i then (if P 1 then c 1 else 0) else 0) + (if 2 = i then (if P 2 then c 2 else 0) else 0) + (if 3 = i then (if P 3 then c 3 else 0) else 0) := by
  rcases five i hi with rfl | rfl | rfl | rfl | rfl <;> simp
theorem sum_out (a b c d e f g h : Int) : a - e + (b - f) + (c - g) + (d - h) = a + b + c + d - (e + f + g + h) := by omega
theorem sum_in (a b c d e f g h : Int) : a + e + (b + f) + (c + g) + (d + h) = a + b + c + d + (e + f + g + h) := by omega
theorem wg_out {c : Nat → Int} {x i : Nat} (hx : x < 16) (hi : i < 5) : Wg c (mvOut x i) = Wg c x - (if i < 4 ∧ x.testBit i = true then c i else 0) := by
  unfold Wg
  rw [(bit_at hx hi (k := 0) (by decide)).1, (bit_at hx hi (k := 1) (by decide)).1, (bit_at hx hi (k := 2) (by decide)).1, (bit_at hx hi (k := 3) (by decide)).1, t_out, t_out, t_out, t_out, sum_out, at_i (fun i => x.testBit i = true) c hi]
theorem wg_in {c : Nat → Int} {x i : Nat} (hx : x < 16) (hi : i < 5) : Wg c (mvIn x i) = Wg c x + (if i < 4 ∧ x.testBit i = false then c i else 0) := by
  have fl : ∀ (b : Bool) (v : Int), (if b = true then 0 else v) = if b = false then v else 0 := fun b v => by cases b <;> rfl
  unfold Wg
  rw [(bit_at hx hi (k := 0) (by decide)).2, (bit_at hx hi (k := 1) (by decide)).2, (bit_at hx hi (k := 2) (by decide)).2, (bit_at hx hi (k := 3) (by decide)).2, t_in, t_in, t_in, t_in, sum_in, at_i (fun i => x.testBit i = false) c hi, fl, fl, fl, fl]
/-- the bits that the moves meet -/
theorem mv_bits_all : all16 (fun x => all16 fun y => all5 fun i => !upB x y i || all5 fun j => !upB y x j || ((i == 4 || (x.testBit i && !y.testBit i)) && (j == 4 || (!(mvOut x i).testBit j && (mvIn y i).testBit j)))) = true := by decide +kernel
theorem wg_mv {c : Nat → Int} {x y i j : Nat} (hx : x < 16) (hy : y < 16) (hi : i < 5) (hj : j < 5) (h1 : upB x y i = true) (h2 : upB y x j = true) : Wg c (mv x i j) + Wg c (mvOut (mvIn y i) j) = Wg c x + Wg c y := by
  have h := imp_of (of_all5 (imp_of (of_all5 (of_all16 (of_all16 mv_bits_all hx) hy) hi) h1) hj) h2
  simp only [Bool.and_eq_true, Bool.or_eq_true, beq_iff_eq, Bool.not_eq_true'] at h
  unfold mv
  rw [wg_in (in_lt hx hi).1 hj, wg_out (in_lt hy hi).2 hj, wg_out hx hi, wg_in hy hi]
  obtain ⟨hA, hB⟩ := h
  rcases hA with rfl | ⟨a1, a2⟩
  · rcases hB with rfl | ⟨b1, b2⟩
    · simp
    · simp [b1, b2]; omega
  · rcases hB with rfl | ⟨b1, b2⟩
    · simp [a1, a2]; omega
    · simp [a1, a2, b1, b2]; omega
theorem ex_of {f g c : Nat → Int} {V : Nat → Int} (H : ∀ S, S < 16 → VMax f g S (V S)) : Ex fun S => V S - Wg c S := by
  intro x y hx hy i hi hu
  obtain ⟨⟨i1, j1, hi1, hj1, p1, e1⟩, _⟩ := H x hx
  obtain ⟨⟨i2, j2, hi2, hj2, p2, e2⟩, _⟩ := H y hy
  have h := ex_all x (List.mem_range.mpr hx)
  have h := List.all_eq_true.mp h y (List.mem_range.mpr hy)
  have h := imp_of (List.all_eq_true.mp h i (List.mem_range.mpr hi)) hu
  have h := imp_of (List.all_eq_true.mp (List.all_eq_true.mp h i1 (List.mem_range.mpr hi1)) j1 (List.mem_range.mpr hj1)) p1
  have h := imp_of (List.all_eq_true.mp (List.all_eq_true.mp h i2 (List.mem_range.mpr hi2)) j2 (List.mem_range.mpr hj2)) p2
  obtain ⟨j, hj, h⟩ := List.any_eq_true.mp h
  have hj := List.mem_range.mp hj
  rw [Bool.and_eq_true] at h
  obtain ⟨hv, h⟩ := h
  refine ⟨j, hj, hv, ?_⟩
  have w := wg_mv (c := c) hx hy hi hj hu hv
  have A := (H _ (in_lt (in_lt hx hi).1 hj).2).2
  have B := (H _ (in_lt (in_lt hy hi).2 hj).1).2
  unfold mv at w ⊢
  show V x - Wg c x + (V y - Wg c y) ≤ V (mvIn (mvOut x i) j) - Wg c (mvIn (mvOut x i) j) + (V (mvOut (mvIn y i) j) - Wg c (mvOut (mvIn y i) j))
  simp only [Bool.or_eq_true, Bool.and_eq_true] at h
  rcases h with ((h | h) | h) | h
  · have a := A _ _ hi1 hj1 h.1
    have b := B _ _ hi2 hj2 h.2
    omega
  · have a := A _ _ hi2 hj1 h.1
    have b := B _ _ hi1 hj2 h.2
    omega
  · have a := A _ _ hi1 hj2 h.1
    have b := B _ _ hi2 hj1 h.2
    omega
  · have a := A _ _ hi2 hj2 h.1
    have b := B _ _ hi1 hj1 h.2
    omega
theorem t_late (b : Bool) (x r : Int) (k e : Nat) : (if b = true then x + (if k = e then r else 0) else 0) = (if b = true then x else 0) + (if k = e then (if b = true then r else 0) else 0) := by
  by_cases h : k = e
  · subst h; cases b <;> simp
  · simp [h]
theorem later_wg {V : Nat → Int} {c : Nat → Int} {r : Int} {e : Nat} (he : e < 4) (S : Nat) : later (fun S => V S - Wg c S) r e S = V S - Wg (fun i => c i + if i = e then r else 0) S := by
  unfold later Wg
  dsimp only
  rw [t_late, t_late, t_late, t_late, sum_in, Int.sub_sub]
  congr 2
  rcases five e (Nat.lt_succ_of_lt he) with rfl | rfl | rfl | rfl | rfl
  · simp
  · simp
  · simp
  · simp
  · exact absurd he (by decide)
theorem ex_later {f g c : Nat → Int} {V : Nat → Int} (H : ∀ S, S < 16 → VMax f g S (V S)) {r : Int} {e : Nat} (he : e < 4) : Ex (later (fun S => V S - Wg c S) r e) := by
  have := ex_of (c := fun i => c i + if i = e then r else 0) H
  rwa [show (later (fun S => V S - Wg c S) r e) = fun S => V S - Wg (fun i => c i + if i = e then r else 0) S from funext fun S => later_wg he S]
end PLawCS
section PHereS
noncomputable def NetOk (f g xs es : List Int) : Prop := ∀ k, k < es.length → ∃ v, VMax (fun i => f.getD i 0) (fun i => g.getD i 0) k v ∧ es.getD k 0 = v - Wg (fun i => Int.fmod (xs.getD (8 + i) 0) 5 - 1) k
noncomputable def hereOf (S : Nat) : List Int := ((List.range' 0 4).filter fun i => bitOf (S : Int) i).map fun i : Nat => (i : Int)
theorem here_all : ∀ S ∈ List.range 16, (hereOf S).length ≤ 4 ∧ (∀ x ∈ hereOf S, 0 ≤ x ∧ x ≤ 3) ∧ (hereOf S).Nodup := by decide +kernel
theorem here_len {S : Nat} (h : S < 16) : (hereOf S).length ≤ 4 := (here_all S (List.mem_range.mpr h)).1
theorem here_in {S : Nat} (h : S < 16) : ∀ x ∈ hereOf S, 0 ≤ x ∧ x ≤ 3 := (here_all S (List.mem_range.mpr h)).2.1
theorem here_nodup {S : Nat} (h : S < 16) : (hereOf S).Nodup := (here_all S (List.mem_range.mpr h)).2.2
theorem crew_up_all : all16 (fun S => (hereOf S).isEmpty || all5 fun i => all5 fun j => !okP S i j || (crewOf (hereOf S)).any fun i' => (crewOf (hereOf S)).any fun j' => i' != j' && (i' == (i : Int) || i == 4) && (j' == (j : Int) || j == 4)) = true := by decide +kernel
theorem crew_dn_all : all16 (fun S => (crewOf (hereOf S)).all fun i' => (crewOf (hereOf S)).all fun j' => decide (0 ≤ i' ∧ i' < 5) && (i' == j' || okP S i'.toNat j'.toNat)) = true := by decide +kernel
theorem here_nil_all : all16 (fun S => !(hereOf S).isEmpty || S == 0) = true := by decide +kernel
theorem nn_at {f : List Int} (hb : ∀ x ∈ f, 0 ≤ x ∧ x ≤ 5) (k : Nat) : 0 ≤ f.getD k 0 := by
  rcases Nat.lt_or_ge k f.length with h | h
  · exact (getD_bound hb h).1
  · simp [List.getD, List.getElem?_eq_none h]
theorem tmax_vmax {f g : List Int} (hfb : ∀ x ∈ f, 0 ≤ x ∧ x ≤ 5) (hgb : ∀ x ∈ g, 0 ≤ x ∧ x ≤ 5) (hf4 : f.getD 4 0 = 0) (hg4 : g.getD 4 0 = 0) {S : Nat} (hS : S < 16) (hn : hereOf S ≠ []) {r : Int} (T : TMax f g (crewOf (hereOf S)) r) : VMax (fun i => f.getD i 0) (fun i => g.getD i 0) S r := by
  obtain ⟨⟨i, j, hi, hj, hij, e⟩, hm⟩ := T
  have D := of_all16 crew_dn_all hS
  have D : ∀ i ∈ crewOf (hereOf S), ∀ j ∈ crewOf (hereOf S), (0 ≤ i ∧ i < 5) ∧ (i = j ∨ okP S i.toNat j.toNat = true) := fun i hi j hj => by
    have := List.all_eq_true.mp (List.all_eq_true.mp D i hi) j hj
    simpa using this
  refine ⟨⟨i.toNat, j.toNat, by have := (D i hi j hj).1; omega, by have := (D j hj i hi).1; omega, (D i hi j hj).2.resolve_left hij, e⟩, fun i j hi hj ho => ?_⟩
  have U := of_all16 crew_up_all hS
  rw [Bool.or_eq_true] at U
  have U := U.resolve_left fun q => hn (by simpa using q)
  have U := imp_of (of_all5 (of_all5 U hi) hj) ho
  obtain ⟨i', hi', U⟩ := List.any_eq_true.mp U
  obtain ⟨j', hj', U⟩ := List.any_eq_true.mp U
  simp only [Bool.and_eq_true, Bool.or_eq_true, beq_iff_eq, bne_iff_ne] at U
  obtain ⟨⟨a, b⟩, c⟩ := U
  have := hm i' j' hi' hj' a
  have h1 : f.getD i 0 ≤ f.getD i'.toNat 0 := by
    rcases b with rfl | rfl
    · rw [Int.toNat_natCast]; exact Int.le_refl _
    · rw [hf4]; exact nn_at hfb _
  have h2 : g.getD j 0 ≤ g.getD j'.toNat 0 := by
    rcases c with rfl | rfl
    · rw [Int.toNat_natCast]; exact Int.le_refl _
    · rw [hg4]; exact nn_at hgb _
  show f.getD i 0 + g.getD j 0 ≤ r
  omega
theorem ok0 : all5 (fun i => all5 fun j => !okP 0 i j || (i == 4 && j == 4)) = true := by decide +kernel
theorem vmax_nil {f g : List Int} (hf4 : f.getD 4 0 = 0) (hg4 : g.getD 4 0 = 0) {S : Nat} (hS : S < 16) (hn : hereOf S = []) : VMax (fun i => f.getD i 0) (fun i => g.getD i 0) S 0 := by
  have h0 := imp_of (of_all16 here_nil_all hS) (by rw [hn]; rfl)
  have h0 : S = 0 := by simpa using h0
  subst h0
  refine ⟨⟨4, 4, by decide, by decide, by decide, ?_⟩, fun i j hi hj ho => ?_⟩
  · show 0 = f.getD 4 0 + g.getD 4 0
    rw [hf4, hg4]; rfl
  · have := imp_of (of_all5 (of_all5 ok0 hi) hj) ho
    simp only [Bool.and_eq_true, beq_iff_eq] at this
    obtain ⟨rfl, rfl⟩ := this
    show f.getD 4 0 + g.getD 4 0 ≤ 0
    rw [hf4, hg4]; exact Int.le_refl _
theorem vmax_uniq {f g : Nat → Int} {S : Nat} {a b : Int} (A : VMax f g S a) (B : VMax f g S b) : a = b := by
  obtain ⟨⟨i, j, hi, hj, ho, rfl⟩, hA⟩ := A
  obtain ⟨⟨i', j', hi', hj', ho', rfl⟩, hB⟩ := B
  exact Int.le_antisymm (hB _ _ hi hj ho) (hA _ _ hi' hj' ho')
theorem vmax_bound {f g : List Int} (hfb : ∀ x ∈ f, 0 ≤ x ∧ x ≤ 5) (hgb : ∀ x ∈ g, 0 ≤ x ∧ x ≤ 5) (hfl : f.length = 5) (hgl : g.length = 5) {S : Nat} {r : Int} (V : VMax (fun i => f.getD i 0) (fun i => g.getD i 0) S r) : 0 ≤ r ∧ r ≤ 10 := by
  obtain ⟨⟨i, j, hi, hj, _, rfl⟩, _⟩ := V
  have a := getD_bound hfb (k := i) (by omega)
  have b := getD_bound hgb (k := j) (by omega)
  dsimp only
  omega
theorem bit_nat_all : all16 (fun S => (List.range 4).all fun i => bitOf (S : Int) i == S.testBit i) = true := by decide +kernel
theorem bit_nat {S i : Nat} (hS : S < 16) (hi : i < 4) : bitOf (S : Int) i = S.testBit i := by
  have := List.all_eq_true.mp (of_all16 bit_nat_all hS) i (List.mem_range.mpr hi)
  simpa using this
theorem here_sum {S : Nat} (hS : S < 16) (ψ : Int → Int) : ((hereOf S).map ψ).sum = Wg (fun i => ψ i) S := by
  have e : List.range' 0 4 = [0, 1, 2, 3] := rfl
  unfold hereOf Wg
  rw [e]
  simp only [List.filter_cons, List.filter_nil, bit_nat hS (i := 0) (by decide), bit_nat hS (i := 1) (by decide), bit_nat hS (i := 2) (by decide), bit_nat hS (i := 3) (by decide)]
  generalize S.testBit 0 = b0
  generalize S.testBit 1 = b1
  generalize S.testBit 2 = b2
  generalize S.testBit 3 = b3
  cases b0 <;> cases b1 <;> cases b2 <;> cases b3 <;> simp <;> omega
theorem net_snoc {f g xs es : List Int} {i : Nat} {v e : Int} (h : NetOk f g xs es) (hl : es.length = i) (hv : VMax (fun i => f.getD i 0) (fun i => g.getD i 0) i v) (he : e = v - Wg (fun i => Int.fmod (xs.getD (8 + i) 0) 5 - 1) i) : NetOk f g xs (es ++ [e]) := fun k hk => by
  rw [List.length_append, List.length_singleton] at hk
  rcases Nat.lt_or_ge k es.length with q | q
  · obtain ⟨v, hv, e⟩ := h k q
    refine ⟨v, hv, ?_⟩
    rw [← e]
    simp only [List.getD]
    rw [List.getElem?_append_left q]
  · have : k = i := by omega
    subst this
    refine ⟨v, hv, ?_⟩
    rw [← he]
    simp only [List.getD]
    rw [List.getElem?_append_right q, hl, Nat.sub_self]
    rfl
section
variable {w : World} {mean : ExcName → Option Value} {mg mb : Str → Option Value} {dp un : Nat} {gd : Option (List Code)} {outer : List Env} {H₀ : Heap} {s : Shared} {Q E : Value → Shared → Prop}
theorem told_at (C : Cx w mean mg mb H₀) (st : H₀.StaysIn s.heap) (hd1 : dp + 20 < recursionLimit) (hun : un + 200 < cLine) {fa sa ha : Addr} {vf vg vh : List Value} {f g : List Int} {S : Nat} (hS : S < 16)
    (hf : s.heap.IsList fa vf.toArray) (hfi : IntsAre vf f) (hfl : f.length = 5) (hfb : ∀ x ∈ f, 0 ≤ x ∧ x ≤ 5)
    (hg : s.heap.IsList sa vg.toArray) (hgi : IntsAre vg g) (hgl : g.length = 5) (hgb : ∀ x ∈ g, 0 ≤ x ∧ x ≤ 5) (hf4 : f.getD 4 0 = 0) (hg4 : g.getD 4 0 = 0)
    (hh : s.heap.IsList ha vh.toArray) (hhi : IntsAre vh (hereOf S))
    (hret : ∀ r, VMax (fun i => f.getD i 0) (fun i => g.getD i 0) S r → ∀ h' tk' t', Grow s.heap h' [] → Q (.int r t') { s with heap := h', toks := tk' }) :
    wpAny (model PW w) (around dp un gd outer) (call (.ref 323) [.ref fa, .ref sa, .ref ha] []) Q E s :=
  told_spec C st hd1 hun hf hfi hfl hfb hg hgi hgl hgb hh hhi (here_len hS) (here_in hS) (here_nodup hS) (fun e => hret 0 (vmax_nil hf4 hg4 hS e)) fun e r T => hret r (tmax_vmax hfb hgb hf4 hg4 hS e T)
theorem plain_at (C : Cx w mean mg mb H₀) (st : H₀.StaysIn s.heap) (hd1 : dp + 20 < recursionLimit) (hun : un + 200 < cLine) {fa sa ha : Addr} {vf vg vh : List Value} {f g : List Int} {S : Nat} (hS : S < 16)
    (hf : s.heap.IsList fa vf.toArray) (hfi : IntsAre vf f) (hfl : f.length = 5) (hfb : ∀ x ∈ f, 0 ≤ x ∧ x ≤ 5)
    (hg : s.heap.IsList sa vg.toArray) (hgi : IntsAre vg g) (hgl : g.length = 5) (hgb : ∀ x ∈ g, 0 ≤ x ∧ x ≤ 5) (hf4 : f.getD 4 0 = 0) (hg4 : g.getD 4 0 = 0)
    (hh : s.heap.IsList ha vh.toArray) (hhi : IntsAre vh (hereOf S)) {r : Int} (hr : VMax (fun i => f.getD i 0) (fun i => g.getD i 0) S r)
    (hret : ∀ h' tk' t', Grow s.heap h' [] → Q (.int r t') { s with heap := h', toks := tk' }) :
    wpAny (model PW w) (around dp un gd outer) (call (.ref 328) [.ref fa, .ref sa, .ref ha] []) Q E s :=
  plain_spec C st hd1 hun hf hfi hfl hfb hg hgi hgl hgb hf4 hg4 hh hhi (here_len hS) (here_in hS) (here_nodup hS) (fun e => vmax_uniq hr (vmax_nil hf4 hg4 hS e) ▸ hret) fun e r' T => vmax_uniq hr (tmax_vmax hfb hgb hf4 hg4 hS e T) ▸ hret
end
end PHereS
section PFinS
/-! the plain law and the walk's words -/
noncomputable def atN (ns : List Int) : Nat → Int := fun S => ns.getD S 0
theorem nb_all : all16 (fun a => all16 fun b => nb (a : Int) (b : Int) == nbN a b) = true := by decide +kernel
theorem nb_eq {a b : Nat} (ha : a < 16) (hb : b < 16) : nb (a : Int) (b : Int) = nbN a b := by
  have := of_all16 (of_all16 nb_all ha) hb
  simpa using this
theorem dOf_all : all16 (fun a => all16 fun b => dOf (a : Int) (b : Int) == ((dN a b : Nat) : Int)) = true := by decide +kernel
theorem dOf_eq {a b : Nat} (ha : a < 16) (hb : b < 16) : dOf (a : Int) (b : Int) = ((dN a b : Nat) : Int) := by
  have := of_all16 (of_all16 dOf_all ha) hb
  simpa using this
theorem natOf {a : Int} (h : 0 ≤ a ∧ a < 16) : ∃ n : Nat, n < 16 ∧ a = (n : Int) := ⟨a.toNat, by omega, by omega⟩
theorem step_n {ns : List Int} {a : Nat} {b : Int} (ha : a < 16) (S : Step ns (a : Int) b) : ∃ c : Nat, c < 16 ∧ b = (c : Int) ∧ StepN (atN ns) a c := by
  obtain ⟨h0, h1, h2, h3, h4⟩ := S
  obtain ⟨c, hc, rfl⟩ := natOf ⟨h0, h1⟩
  refine ⟨c, hc, rfl, hc, by rw [← nb_eq ha hc]; exact h2, h3, fun n hn q => ?_⟩
  exact h4 (n : Int) (by omega) (by omega) (by rw [nb_eq ha hn]; exact q)
theorem path_n {ns : List Int} {a : Nat} {gs : List (Str × Str)} {b : Int} (ha : a < 16) (P : Path ns (a : Int) gs b) : ∃ c : Nat, c < 16 ∧ b = (c : Int) ∧ PathN (atN ns) a gs.length c := by
  induction P with
  | nil => exact ⟨a, ha, rfl, .nil⟩
  | snoc _ S ih =>
    obtain ⟨c, hc, rfl, p⟩ := ih
    obtain ⟨d, hd, rfl, s⟩ := step_n hc S
    refine ⟨d, hd, rfl, ?_⟩
    rw [List.length_append, List.length_singleton]
    exact .snoc p s
theorem top_n {ns : List Int} {a : Nat} (ha : a < 16) (T : Top1 ns (a : Int)) : Top (atN ns) a := fun n hn q =>
  T (n : Int) (by omega) (by omega) (by rw [nb_eq ha hn]; exact q)
/-- what the first walk comes to -/
theorem walk_end {ns : List Int} (E : Ex (atN ns)) {a b : Int} (ha : 0 ≤ a ∧ a < 16) {gs : List (Str × Str)} (P : Path ns a gs b) (T : Top1 ns b) :
    (∀ k : Nat, k < 16 → ns.getD k 0 ≤ ns.getD b.toNat 0) ∧ gs.length ≤ 4 ∧
    ∀ r : Int, (∃ n : Nat, n < 16 ∧ (∀ k : Nat, k < 16 → ns.getD k 0 ≤ ns.getD n 0) ∧ r = dOf a n) → (∀ n : Nat, n < 16 → (∀ k : Nat, k < 16 → ns.getD k 0 ≤ ns.getD n 0) → r ≤ dOf a n) → r = (gs.length : Int) := by
  obtain ⟨a, ha', rfl⟩ := natOf ha
  obtain ⟨c, hc, rfl, p⟩ := path_n ha' P
  obtain ⟨m, y, hy, ed⟩ := path_end E ha' p (top_n hc T)
  refine ⟨m.2, by rw [← ed]; exact d_le ha' hy.1.1, fun r ⟨n, hn, hm, e⟩ hmin => ?_⟩
  have h1 := hmin y hy.1.1 hy.1.2
  rw [dOf_eq ha' hy.1.1] at h1
  rw [dOf_eq ha' hn] at e
  have h2 := hy.2 n ⟨hn, hm⟩
  omega
theorem ex_congr {N M : Nat → Int} (h : ∀ S, S < 16 → N S = M S) (E : Ex N) : Ex M := by
  intro x y hx hy i hi hu
  obtain ⟨j, hj, h2, o1, o2, e⟩ := E.mv hx hy hi hu
  refine ⟨j, hj, h2, ?_⟩
  rw [(mv_nb hy hj hi o2).2.2.1, ← h x hx, ← h y hy, ← h _ (mv_nb hx hi hj o1).1, ← h _ (mv_nb hy hj hi o2).1]
  exact e
theorem step_congr {N M : Nat → Int} (h : ∀ S, S < 16 → N S = M S) {a b : Nat} (ha : a < 16) (S : StepN N a b) : StepN M a b :=
  ⟨S.1, S.2.1, by rw [← h a ha, ← h b S.1]; exact S.2.2.1, fun n hn q => by rw [← h n hn, ← h b S.1]; exact S.2.2.2 n hn q⟩
theorem path_congr {N M : Nat → Int} (h : ∀ S, S < 16 → N S = M S) {a k b : Nat} (ha : a < 16) (P : PathN N a k b) : PathN M a k b := by
  induction P with
  | nil => exact .nil
  | snoc p s ih => exact .snoc ih (step_congr h (p.lt ha) s)
noncomputable def Plain (es lt : List Int) (dv : Int) : Prop := Ex (atN es) ∧ Ex (atN lt) ∧ ∃ (r : Int) (e : Nat), 0 < r ∧ e < 4 ∧ dv = (e : Int) ∧ ∀ S, S < 16 → atN lt S = later (atN es) r e S
theorem path_one {ns : List Int} {a b : Int} {gs : List (Str × Str)} (P : Path ns a gs b) (h : gs.length = 1) : gs = [(w0 (Builtin.bitAnd a (Builtin.bitNot b)), w0 (Builtin.bitAnd b (Builtin.bitNot a)))] ∧ Step ns a b := by
  cases P with
  | nil => cases h
  | snoc p s =>
    rw [List.length_append, List.length_singleton] at h
    cases p with
    | nil => exact ⟨rfl, s⟩
    | snoc p' s' => rw [List.length_append, List.length_singleton] at h; omega
theorem drop_word_all : all16 (fun a => all16 fun b => !nbN a b || (List.range 4).all fun e => !(a.testBit e && !b.testBit e) || (w0 (Builtin.bitAnd (a : Int) (Builtin.bitNot (b : Int))) == wordN e)) = true := by decide +kernel
theorem drop_word {a b e : Nat} (ha : a < 16) (hb : b < 16) (he : e < 4) (hn : nbN a b = true) (h1 : a.testBit e = true) (h2 : b.testBit e = false) : w0 (Builtin.bitAnd (a : Int) (Builtin.bitNot (b : Int))) = wordN e := by
  have := imp_of (List.all_eq_true.mp (imp_of (of_all16 (of_all16 drop_word_all ha) hb) hn) e (List.mem_range.mpr he)) (by rw [h1, h2]; rfl)
  simpa using this
/-- what the second walk comes to -/
theorem walk_two {es lt : List Int} {dv : Int} (PL : Plain es lt dv) {a b : Int} (ha : 0 ≤ a ∧ a < 16) (hm : ∀ k : Nat, k < 16 → es.getD k 0 ≤ es.getD a.toNat 0) {gs : List (Str × Str)} (P : Path lt a gs b) :
    gs.length ≤ 1 ∧ (gs.length = 1 → ∃ y, gs = [(wordN dv.toNat, y)]) := by
  obtain ⟨E, _, r, e, hr, he, rfl, hc⟩ := PL
  obtain ⟨a, ha', rfl⟩ := natOf ha
  obtain ⟨c, hc', rfl, p⟩ := path_n ha' P
  have q := short E hr he ⟨ha', hm⟩ (path_congr hc ha' p)
  refine ⟨by rcases q with ⟨e, _⟩ | ⟨e, _⟩ <;> omega, fun h1 => ?_⟩
  obtain ⟨e1, S⟩ := path_one P h1
  rcases q with ⟨e0, _⟩ | ⟨_, s⟩
  · omega
  · have o := one_step E hr he ⟨ha', hm⟩ s
    refine ⟨w0 (Builtin.bitAnd (c : Int) (Builtin.bitNot (a : Int))), ?_⟩
    · rw [e1, drop_word ha' hc' he s.2.1 o.2.1 o.2.2, Int.toNat_natCast]
/-! undoing -/
noncomputable def kundo (ks : List Str) (g : Str × Str) : List Str :=
  let k1 := if g.2 ≠ Str.empty then ks.filter fun k => decide (low k ≠ low (low g.2)) else ks
  if g.1 ≠ Str.empty then (k1.filter fun k => decide (low k ≠ low g.1)) ++ [g.1] else k1
theorem map_delP (ps : List (Str × Str)) (x : Str) : (delP ps x).map (·.1) = (ps.map (·.1)).filter fun k => decide (low k ≠ low x) := by
  rw [List.filter_map]; rfl
theorem map_undo (ps : List (Str × Str)) (g : Str × Str) : (undo1 ps g).map (·.1) = kundo (ps.map (·.1)) g := by
  unfold undo1 kundo setP
  dsimp only
  by_cases h2 : g.2 = Str.empty <;> by_cases h1 : g.1 = Str.empty <;> simp only [h1, h2, ne_eq, not_true_eq_false, not_false_eq_true, if_true, if_false, List.map_append, map_delP, List.map_cons, List.map_nil]
theorem kundo_perm {ks js : List Str} (h : ks.Perm js) (g : Str × Str) : (kundo ks g).Perm (kundo js g) := by
  unfold kundo
  dsimp only
  by_cases h2 : g.2 = Str.empty <;> by_cases h1 : g.1 = Str.empty <;> simp only [h1, h2, ne_eq, not_true_eq_false, not_false_eq_true, if_true, if_false]
  · exact h
  · exact (h.filter _).append (.refl _)
  · exact h.filter _
  · exact ((h.filter _).filter _).append (.refl _)
theorem undo_all : all16 (fun b => all16 fun c => !nbN b c || b == c || (kundo (baseW ++ wordsOf (c : Int)) (w0 (Builtin.bitAnd (b : Int) (Builtin.bitNot (c : Int))), w0 (Builtin.bitAnd (c : Int) (Builtin.bitNot (b : Int))))).isPerm (baseW ++ wordsOf (b : Int))) = true := by decide +kernel
theorem undo_in {ps : List (Str × Str)} {g : Str × Str} (h : ∀ p ∈ ps, p.2 = Str.ofString "in") : ∀ p ∈ undo1 ps g, p.2 = Str.ofString "in" := by
  have h1 : ∀ p ∈ (if g.2 ≠ Str.empty then delP ps (low g.2) else ps), p.2 = Str.ofString "in" := fun p hp => by
    split at hp
    · exact h p (delP_mem hp)
    · exact h p hp
  unfold undo1
  dsimp only
  split
  · intro p hp
    rcases List.mem_append.mp hp with hp | hp
    · exact h1 p (delP_mem hp)
    · rw [List.mem_singleton.mp hp]
  · exact h1
theorem tab_undo {ps : List (Str × Str)} {b c : Nat} (hb : b < 16) (hc : c < 16) (hn : nbN b c = true) (hne : b ≠ c) (T : Tab ps (c : Int)) :
    Tab (undo1 ps (w0 (Builtin.bitAnd (b : Int) (Builtin.bitNot (c : Int))), w0 (Builtin.bitAnd (c : Int) (Builtin.bitNot (b : Int))))) (b : Int) := by
  refine ⟨?_, undo_in T.2⟩
  rw [map_undo]
  refine (kundo_perm T.1 _).trans ?_
  have := of_all16 (of_all16 undo_all hb) hc
  rw [Bool.or_eq_true, Bool.or_eq_true] at this
  rcases this with (h | h) | h
  · rw [hn] at h; cases h
  · exact absurd (by simpa using h) hne
  · exact List.isPerm_iff.mp h
theorem path_undo {ns : List Int} {a : Nat} (ha : a < 16) {gs : List (Str × Str)} {b : Int} (P : Path ns (a : Int) gs b) : ∀ ps, Tab ps b → Tab (gs.reverse.foldl undo1 ps) (a : Int) := by
  induction P with
  | nil => intro ps T; exact T
  | snoc p S ih =>
    intro ps T
    obtain ⟨c, hc, rfl, _⟩ := path_n ha p
    obtain ⟨d, hd, rfl, s⟩ := step_n hc S
    rw [List.reverse_append]
    refine ih _ (tab_undo hc hd s.2.1 (fun e => ?_) T)
    subst e
    have := s.2.2.1
    omega
theorem g_all : all16 (fun b => all16 fun c => !nbN b c || b == c || (let x := w0 (Builtin.bitAnd (b : Int) (Builtin.bitNot (c : Int))); let y := w0 (Builtin.bitAnd (c : Int) (Builtin.bitNot (b : Int))); W5.contains x && W5.contains y && !(x == Str.empty && y == Str.empty))) = true := by decide +kernel
theorem path_gs {ns : List Int} {a : Nat} (ha : a < 16) {gs : List (Str × Str)} {b : Int} (P : Path ns (a : Int) gs b) : ∀ g ∈ gs, g.1 ∈ W5 ∧ g.2 ∈ W5 ∧ g ≠ (Str.empty, Str.empty) := by
  induction P with
  | nil => intro g hg; cases hg
  | snoc p S ih =>
    intro g hg
    rcases List.mem_append.mp hg with hg | hg
    · exact ih g hg
    · obtain ⟨c, hc, rfl, _⟩ := path_n ha p
      obtain ⟨d, hd, rfl, s⟩ := step_n hc S
      rw [List.mem_singleton.mp hg]
      have := of_all16 (of_all16 g_all hc) hd
      rw [Bool.or_eq_true, Bool.or_eq_true] at this
      rcases this with (h | h) | h
      · rw [s.2.1] at h; cases h
      · have e : c = d := by simpa using h
        subst e
        have := s.2.2.1
        omega
      · simp only [Bool.and_eq_true, List.contains_iff_mem] at h
        refine ⟨h.1.1, h.1.2, fun e => ?_⟩
        have e1 := congrArg Prod.fst e
        have e2 := congrArg Prod.snd e
        dsimp only at e1 e2
        rw [e1, e2] at h
        exact absurd h.2 (by decide)
/-! the facts at hand behind the sixteen staffs -/
theorem bit_later_all : all16 (fun S => (List.range 4).all fun e => Builtin.bitAnd (Int.fdiv (S : Int) (2 ^ e)) 1 == (if S.testBit e then 1 else 0)) = true := by decide +kernel
theorem plain_of {f g xs es lt : List Int} (hok : NetOk f g xs es) (hl : es.length = 16) {rv dv : Int} (hr : 1 ≤ rv) (hd : 0 ≤ dv ∧ dv < 4)
    (hlt : lt = (List.range' 0 16).map fun i : Nat => es.getD i 0 - rv * Builtin.bitAnd (Int.fdiv (i : Int) (2 ^ dv.toNat)) 1) : Plain es lt dv := by
  obtain ⟨e, rfl⟩ : ∃ e : Nat, dv = (e : Int) := ⟨dv.toNat, by omega⟩
  have he : e < 4 := by omega
  have hV : ∀ S, S < 16 → ∃ v, VMax (fun i => f.getD i 0) (fun i => g.getD i 0) S v ∧ es.getD S 0 = v - Wg (fun i => Int.fmod (xs.getD (8 + i) 0) 5 - 1) S := fun S hS => hok S (by omega)
  obtain ⟨V, hV⟩ : ∃ V : Nat → Int, ∀ S, S < 16 → VMax (fun i => f.getD i 0) (fun i => g.getD i 0) S (V S) ∧ es.getD S 0 = V S - Wg (fun i => Int.fmod (xs.getD (8 + i) 0) 5 - 1) S :=
    ⟨fun S => if h : S < 16 then (hV S h).choose else 0, fun S h => by
      have := (hV S h).choose_spec
      simp only [dif_pos h]
      exact this⟩
  have H : ∀ S, S < 16 → VMax (fun i => f.getD i 0) (fun i => g.getD i 0) S (V S) := fun S hS => (hV S hS).1
  have hes : ∀ S, S < 16 → (fun S => V S - Wg (fun i => Int.fmod (xs.getD (8 + i) 0) 5 - 1) S) S = atN es S := fun S hS => ((hV S hS).2).symm
  have hl2 : ∀ S, S < 16 → atN lt S = later (atN es) rv e S := fun S hS => by
    have hb := List.all_eq_true.mp (of_all16 bit_later_all hS) e (List.mem_range.mpr he)
    have hb : Builtin.bitAnd (Int.fdiv (S : Int) (2 ^ e)) 1 = (if S.testBit e then 1 else 0) := by simpa using hb
    have : atN lt S = es.getD S 0 - rv * Builtin.bitAnd (Int.fdiv (S : Int) (2 ^ e)) 1 := by
      unfold atN
      rw [hlt, Int.toNat_natCast]
      simp only [List.getD, List.getElem?_map]
      rw [List.getElem?_range' (by simpa using hS)]
      simp
    rw [this, hb]
    unfold later atN
    cases S.testBit e <;> simp
  refine ⟨ex_congr hes (ex_of H), ?_, rv, e, by omega, he, rfl, hl2⟩
  refine ex_congr (fun S hS => ?_) (ex_later (r := rv) (e := e) (c := fun i => Int.fmod (xs.getD (8 + i) 0) 5 - 1) H he)
  rw [hl2 S hS]
  unfold later
  rw [← hes S hS]
end PFinS
section LEndS
theorem nodup_take {l : List Str} (h : l.Nodup) {i : Nat} {y : Str} (hy : l[i]? = some y) : ¬ y ∈ l.take i := fun hm => by
  obtain ⟨j, hj, e⟩ := List.getElem_of_mem hm
  have hj' : j < i := by rw [List.length_take] at hj; omega
  have hi : i < l.length := (List.getElem?_eq_some_iff.mp hy).1
  have e2 : l[i] = y := (List.getElem?_eq_some_iff.mp hy).2
  rw [List.getElem_take] at e
  exact (List.pairwise_iff_getElem.mp h j i (by omega) hi hj') (e.trans e2.symm)
theorem list_of {g h : Heap} {L a : Addr} {vs : List Value} {n : Nat} {news : List (Addr × Obj)} (N : News g L h news) (hm : (a, W.listOf (List.toArray vs) n) ∈ news) : h.IsList a vs.toArray := ⟨_, (N _ hm).1, rfl, _, rfl⟩
theorem news_add {g h h' : Heap} {L a : Addr} {o : Obj} {m : Str → Option Value} {news : List (Addr × Obj)} (F : Fr g L h m) (N : News g L h' news) (hn : h.get? a = none) (ha : h'.get? a = some o) : News g L h' ((a, o) :: news) :=
  put_ins F N .here hn ha fun n => n
theorem tups_own {g h : Heap} {L : Addr} {m : Str → Option Value} (F : Fr g L h m) {refs : List Value} {ps : List (Str × Str)} (T : TupsAre h refs ps) : (∀ a, Value.ref a ∈ refs → g.get? a = none) →
    ∃ own, News g L h own ∧ TupsIn g own refs ps ∧ ∀ p ∈ own, ∃ a b t1 t2 k, p.2 = tupO a b t1 t2 k := by
  induction T with
  | nil => intro _; exact ⟨[], .nil, fun _ _ _ => .nil, fun p hp => nomatch hp⟩
  | @cons a x y t1 t2 n vs ps ha _ ih =>
    intro h0
    obtain ⟨own, N, T, ho⟩ := ih fun b hb => h0 b (List.mem_cons_of_mem _ hb)
    refine ⟨(a, tupO x y t1 t2 n) :: own, ?_, fun k q r => .cons (r _ (List.Mem.head _)) (T k q fun p hp => r p (List.mem_cons_of_mem _ hp)), ?_⟩
    · intro p hp
      rcases List.mem_cons.mp hp with rfl | hp
      · refine ⟨ha, fun e => ?_, h0 a (List.Mem.head _)⟩
        obtain ⟨o, _, _, ho, hd, _⟩ := F.ns
        dsimp only at e
        rw [e, ho] at ha
        cases ha
        cases hd
      · exact N p hp
    · intro p hp
      rcases List.mem_cons.mp hp with rfl | hp
      · exact ⟨x, y, t1, t2, n, rfl⟩
      · exact ho p hp
theorem news_app {g h : Heap} {L : Addr} {a b : List (Addr × Obj)} (A : News g L h a) (B : News g L h b) : News g L h (a ++ b) := fun p hp => (List.mem_append.mp hp).elim (A p) (B p)
theorem start_all : ∀ k ∈ List.range 16, (∀ x ∈ prettyWords (4296015872 + (k : Int)), x ∈ W6) ∧ (prettyWords (4296015872 + (k : Int))).length ≤ 6 ∧ (prettyWords (4296015872 + (k : Int))).Nodup ∧ (prettyWords (4296015872 + (k : Int))).isPerm (baseW ++ wordsOf (k : Int)) = true ∧ (4296015872 + (k : Int)) ∈ NS := by decide +kernel
theorem start_of {k : Int} (h : 0 ≤ k ∧ k < 16) : (∀ x ∈ prettyWords (4296015872 + k), x ∈ W6) ∧ (prettyWords (4296015872 + k)).length ≤ 6 ∧ (prettyWords (4296015872 + k)).Nodup ∧ (prettyWords (4296015872 + k)).Perm (baseW ++ wordsOf k) ∧ (4296015872 + k) ∈ NS := by
  obtain ⟨n, hn, rfl⟩ := natOf h
  have := start_all n (List.mem_range.mpr hn)
  exact ⟨this.1, this.2.1, this.2.2.1, List.isPerm_iff.mp this.2.2.2.1, this.2.2.2.2⟩
theorem max_hit {es : List Int} {m M : Int} (hl : es.length = 16) (hm : 0 ≤ m ∧ m < 16) (E : ∀ k : Nat, k < 16 → es.getD k 0 ≤ es.getD m.toNat 0) (h1 : M ∈ es) (h2 : ∀ a, a ∈ es → a ≤ M) : es.getD m.toNat 0 = M := by
  obtain ⟨k, hk, rfl⟩ := List.getElem_of_mem h1
  have a := E k (by omega)
  have b := h2 (es.getD m.toNat 0) (by simp only [List.getD, List.getElem?_eq_getElem (show m.toNat < es.length by omega), Option.getD_some]; exact List.getElem_mem _)
  simp only [List.getD, List.getElem?_eq_getElem hk, Option.getD_some] at a
  simp only [List.getD] at b ⊢
  omega
theorem tab_len {h : Heap} {refs : List Value} {ps : List (Str × Str)} {mk : Int} (T : TupsAre h refs ps) (tb : Tab ps mk) : refs.length ≤ 6 := by
  rw [T.length, ← List.length_map (f := fun p : Str × Str => p.1), tb.1.length_eq, List.length_append]
  have := wordsOf_len mk
  show 2 + _ ≤ 6
  omega
theorem tab_W10 {ps : List (Str × Str)} {mk : Int} (h : 0 ≤ mk ∧ mk < 16) (T : Tab ps mk) : ∀ p ∈ ps, p.1 ∈ W10 := fun p hp => by
  have := T.1.mem_iff.mp (List.mem_map_of_mem hp)
  obtain ⟨n, hn, rfl⟩ := natOf h
  exact W6_sub _ (base_W6 n (List.mem_range.mpr hn) _ this)
theorem dear_all : ∀ e ∈ List.range 4, (0 ≤ (1 : Int) * 2 ^ e ∧ (1 : Int) * 2 ^ e < 16) ∧ wordsOf (1 * 2 ^ e) = [wordN e] := by decide +kernel
theorem dear_word {dv : Int} (h : 0 ≤ dv ∧ dv < 4) : (0 ≤ (1 : Int) * 2 ^ dv.toNat ∧ (1 : Int) * 2 ^ dv.toNat < 16) ∧ wordsOf (1 * 2 ^ dv.toNat) = [wordN dv.toNat] := dear_all _ (List.mem_range.mpr (by omega))
theorem bne_self (x : Str) : ¬ ((x != [x].getD (Int.toNat 0) Str.empty) = true) := by
  rw [show [x].getD (Int.toNat 0) Str.empty = x from rfl]
  simp
structure Apart (d dx hl x px lL lN c4 c2 : Addr) : Prop where
  a : @Ne Nat d hl ∧ @Ne Nat dx hl ∧ @Ne Nat px hl ∧ @Ne Nat lL hl ∧ @Ne Nat lN hl ∧ @Ne Nat c4 hl ∧ @Ne Nat c2 hl
  b : @Ne Nat d x ∧ @Ne Nat dx x ∧ @Ne Nat px x ∧ @Ne Nat lL x ∧ @Ne Nat lN x ∧ @Ne Nat c4 x ∧ @Ne Nat c2 x
  c : @Ne Nat hl x
theorem news_keep {g h h' : Heap} {L a b : Addr} {p : Addr × Obj} {news r : List (Addr × Obj)} (N : News g L h news) (G : Grow h h' [a, b]) (hp : p ∈ news) (h1 : @Ne Nat p.1 a) (h2 : @Ne Nat p.1 b) (R : News g L h' r) : News g L h' (p :: r) := fun q hq => by
  rcases List.mem_cons.mp hq with rfl | hq
  · exact ⟨G _ _ (N _ hp).1 (by simp only [List.mem_cons, List.not_mem_nil, or_false, not_or]; exact ⟨h1, h2⟩), (N _ hp).2⟩
  · exact R q hq
theorem news_chg {g h h' : Heap} {L a : Addr} {o o' : Obj} {news r : List (Addr × Obj)} (N : News g L h news) (hp : (a, o) ∈ news) (ha : h'.get? a = some o') (R : News g L h' r) : News g L h' ((a, o') :: r) := fun q hq => by
  rcases List.mem_cons.mp hq with rfl | hq
  · exact ⟨ha, (N _ hp).2⟩
  · exact R q hq
theorem walk_ledger {g h h' : Heap} {L : Addr} {m : Str → Option Value} {d dx hl x px lL lN c4 c2 : Addr} {O1 O2 O3 O4 O5 O6 O7 O8 O9 P3 P4 : Obj} {own : List (Addr × Obj)} {refs xs : List Value} {ps gs : List (Str × Str)} (AP : Apart d dx hl x px lL lN c4 c2)
    (F : Fr g L h m) (N : News g L h ((x, O4) :: (px, O5) :: (d, O1) :: (dx, O2) :: (hl, O3) :: (lL, O6) :: (lN, O7) :: (c4, O8) :: (c2, O9) :: own)) (G : Grow h h' [hl, x]) (h1 : h'.get? hl = some P3) (h2 : h'.get? x = some P4)
    (T1 : TupsAre h' refs ps) (T2 : TupsAre h' xs gs) (r1 : ∀ a, Value.ref a ∈ refs → g.get? a = none) (r2 : ∀ a, Value.ref a ∈ xs → g.get? a = none) :
    Fr g L h' m ∧ ∃ own', News g L h' ((x, P4) :: (px, O5) :: (d, O1) :: (dx, O2) :: (hl, P3) :: (lL, O6) :: (lN, O7) :: (c4, O8) :: (c2, O9) :: own') ∧ TupsIn g own' refs ps ∧ TupsIn g own' xs gs := by
  have F' : Fr g L h' m := fr_touch F N G fun b hb => by
    simp only [List.mem_cons, List.not_mem_nil, or_false] at hb
    rcases hb with rfl | rfl
    · exact ⟨O3, List.Mem.tail _ (List.Mem.tail _ (List.Mem.tail _ (List.Mem.tail _ (List.Mem.head _))))⟩
    · exact ⟨O4, List.Mem.head _⟩
  obtain ⟨o1, A1, B1, _⟩ := tups_own F' T1 r1
  obtain ⟨o2, A2, B2, _⟩ := tups_own F' T2 r2
  obtain ⟨⟨a1, a2, a3, a4, a5, a6, a7⟩, ⟨b1, b2, b3, b4, b5, b6, b7⟩, c⟩ := AP
  refine ⟨F', o1 ++ o2, ?_, B1.up fun p hp => List.mem_append_left _ hp, B2.up fun p hp => List.mem_append_right _ hp⟩
  refine news_chg N (List.Mem.head _) h2 ?_
  refine news_keep N G (List.Mem.tail _ (List.Mem.head _)) a3 b3 ?_
  refine news_keep N G (List.Mem.tail _ (List.Mem.tail _ (List.Mem.head _))) a1 b1 ?_
  refine news_keep N G (List.Mem.tail _ (List.Mem.tail _ (List.Mem.tail _ (List.Mem.head _)))) a2 b2 ?_
  refine news_chg N (List.Mem.tail _ (List.Mem.tail _ (List.Mem.tail _ (List.Mem.tail _ (List.Mem.head _))))) h1 ?_
  refine news_keep N G (List.mem_append_right [_, _, _, _, _] (List.Mem.head _)) a4 b4 ?_
  refine news_keep N G (List.mem_append_right [_, _, _, _, _, _] (List.Mem.head _)) a5 b5 ?_
  refine news_keep N G (List.mem_append_right [_, _, _, _, _, _, _] (List.Mem.head _)) a6 b6 ?_
  refine news_keep N G (List.mem_append_right [_, _, _, _, _, _, _, _] (List.Mem.head _)) a7 b7 ?_
  exact news_app A1 A2
theorem undo_ledger {g h h' : Heap} {L : Addr} {m : Str → Option Value} {d dx hl x px lL lN c4 c2 l : Addr} {O1 O2 O3 O4 O5 O6 O7 O8 O9 P3 Pl : Obj} {own : List (Addr × Obj)} {refs : List Value} {ps : List (Str × Str)} (AP : Apart d dx hl x px lL lN c4 c2)
    (F : Fr g L h m) (N : News g L h ((x, O4) :: (px, O5) :: (d, O1) :: (dx, O2) :: (hl, O3) :: (lL, O6) :: (lN, O7) :: (c4, O8) :: (c2, O9) :: own)) (G : Grow h h' [hl, x]) (h1 : h'.get? hl = some P3)
    (nl : h.get? l = none) (h2 : h'.get? l = some Pl) (T1 : TupsAre h' refs ps) (r1 : ∀ a, Value.ref a ∈ refs → g.get? a = none) :
    Fr g L h' m ∧ ∃ own', News g L h' ((l, Pl) :: (d, O1) :: (dx, O2) :: (hl, P3) :: (lL, O6) :: (lN, O7) :: (c4, O8) :: (c2, O9) :: own') ∧ TupsIn g own' refs ps := by
  have F' : Fr g L h' m := fr_touch F N G fun b hb => by
    simp only [List.mem_cons, List.not_mem_nil, or_false] at hb
    rcases hb with rfl | rfl
    · exact ⟨O3, List.Mem.tail _ (List.Mem.tail _ (List.Mem.tail _ (List.Mem.tail _ (List.Mem.head _))))⟩
    · exact ⟨O4, List.Mem.head _⟩
  obtain ⟨o1, A1, B1, _⟩ := tups_own F' T1 r1
  obtain ⟨⟨a1, a2, a3, a4, a5, a6, a7⟩, ⟨b1, b2, b3, b4, b5, b6, b7⟩, c⟩ := AP
  refine ⟨F', o1, ?_, B1⟩
  refine news_add F ?_ nl h2
  refine news_keep N G (List.Mem.tail _ (List.Mem.tail _ (List.Mem.head _))) a1 b1 ?_
  refine news_keep N G (List.Mem.tail _ (List.Mem.tail _ (List.Mem.tail _ (List.Mem.head _)))) a2 b2 ?_
  refine news_chg N (List.Mem.tail _ (List.Mem.tail _ (List.Mem.tail _ (List.Mem.tail _ (List.Mem.head _))))) h1 ?_
  refine news_keep N G (List.mem_append_right [_, _, _, _, _] (List.Mem.head _)) a4 b4 ?_
  refine news_keep N G (List.mem_append_right [_, _, _, _, _, _] (List.Mem.head _)) a5 b5 ?_
  refine news_keep N G (List.mem_append_right [_, _, _, _, _, _, _] (List.Mem.head _)) a6 b6 ?_
  refine news_keep N G (List.mem_append_right [_, _, _, _, _, _, _, _] (List.Mem.head _)) a7 b7 ?_
  exact A1
noncomputable def lawFn (w : World) : List Stmt × Scope := match (hd.heap_1 w.params).lookup 359 with
  | some ⟨_, _, .func f, _⟩ => ((match f.body with | .stmts b => b | _ => []), f.scope)
  | _ => ([], { kind := .function, names := [], isGenerator := false, isCoroutine := false })
theorem lawFn_is {w : World} {oc : Value} {od : Option Addr} {osl : Array (Option Value)} {name qual : Str} {params : Arguments} {body : List Stmt} {scope : Scope} {dV kV doc pm cdv ct : Value} {an : Option Addr}
    (ho : (hd.heap_1 w.params).lookup 359 = some ⟨oc, od, .func (fnOf name qual params body scope dV kV doc pm an cdv ct), osl⟩) : lawFn w = (body, scope) := by
  unfold lawFn
  rw [ho]
section
variable {w : World} {mean : ExcName → Option Value} {mg mb : Str → Option Value} {dp un : Nat} {gd : Option (List Code)} {outer : List Env} {H₀ : Heap} {Q : Value → Shared → Prop}
theorem law_end (C : Cx w mean mg mb H₀) (hd1 : dp + 80 < recursionLimit) (hun : un + 300 < cLine) {L' fa : Addr} {cd : Value} {m : Str → Option Value} {h9 : Heap} {tk9 : Nat} {gs : Array GenState} {dw : Drawn} {os : OsState} {d dx hl x px lL lN : Addr} {es lt : List Int} {vL vN refs : List Value} {nL nN nR mx : Nat} {oD oN : Obj} {sv dv hh hz : Int} {st0 dt t0 z0 z1 : Tok} {ps : List (Str × Str)} {own : List (Addr × Obj)}
    (F9 : Fr H₀ L' h9 (fun y => if y = Str.ofString "pile" then some (.ref x) else if y = Str.ofString "desk" then some (.ref d) else if y = Str.ofString "later" then some (.ref lL) else if y = Str.ofString "start" then some (.int sv st0) else m y))
    (N9 : News H₀ L' h9 ((x, accObj px [] mx) :: (px, accD hz z0 z1) :: (d, instObj 300 dx) :: (dx, dictOf [⟨hh, .str (Str.ofString "_headers") t0, .ref hl⟩] 1) :: (hl, W.listOf (List.toArray refs) nR) :: (lL, W.listOf (List.toArray vL) nL) :: (lN, W.listOf (List.toArray vN) nN) :: (L' + 1 + 1 + 1 + 1, oD) :: (L' + 1 + 1, oN) :: own))
    (AP : Apart d dx hl x px lL lN (L' + 1 + 1 + 1 + 1) (L' + 1 + 1)) (hd0 : H₀.get? d = none) (hdx0 : H₀.get? dx = none) (hl0 : H₀.get? hl = none) (hx0 : H₀.get? x = none) (hpx0 : H₀.get? px = none)
    (T : TupsIn H₀ own refs ps) (htab : Tab ps sv) (hr0 : ∀ a, Value.ref a ∈ refs → H₀.get? a = none)
    (dD : oD.data = Data.cell (some (.int dv dt))) (dN : oN.data = Data.cell (some (.ref lN))) (hes : IntsAre vN es) (hel : es.length = 16) (hlt : IntsAre vL lt) (hll : lt.length = 16) (hsb : 0 ≤ sv ∧ sv < 16) (hdb : 0 ≤ dv ∧ dv < 4) (PL : Plain es lt dv)
    (hQ : ∀ h' tk', (∀ b o, H₀.get? b = some o → h'.get? b = some o) → Q (.bool true) { heap := h', gens := gs, drawn := dw, toks := tk', os := os }) :
    wpAny (model PW w) ((around dp un gd outer).deeper (envOfC (Str.ofString "law") (lawFn w).2 L' fa cd)) (execs ((lawFn w).1.drop 12) (envOfC (Str.ofString "law") (lawFn w).2 L' fa cd))
      (fun fl s' => Q (match fl with | .ret v => v | _ => .none) s') (fun _ _ => False) { heap := h9, gens := gs, drawn := dw, toks := tk9, os := os } := by
  k_with_none
  w_top off
  k_with "mine:fill" => (have _kf : (PySem.Challenge.rw_wk0041_01, _root_.hd.heap_1) = (PySem.Challenge.rw_wk0041_01, _root_.hd.heap_1) := by (k_fill; rfl))
  k_with "mine:room" => (first | assumption | (simp only [around, Around.deeper, Around.mark, Around.in1, recursionLimit] at *; omega))
  k_with "mine:entercases" => (
    (case ho => k_dflt k_is)
    (case hcd => k_dflt k_is)
    (case hroom => k_extra "mine:room")
    (case hbind => first | exact BindsTo.of_eq rfl | exact binds_K (by k_in) rfl (by k_is) rfl rfl rfl | exact kp_binds (Frag.In.keeps X st) fun _ => rfl)
    (case hkind => exact rfl)
    (case hnd => decide +kernel)
    (case ht => (first | exact List.forall_mem_nil _ | (simp only [List.forall_mem_cons]; simp_all)))
    (case h0 => (first | exact List.forall_mem_nil _ | (simp only [List.forall_mem_cons]; simp_all)))
    (case c1 => exact rfl)
    (case c2 => exact rfl)
    (case c3 => exact rfl))
  k_with "mine:cells" => (
    (first | (k_cells Y') | (have hY := cellsNil Y'; subst hY))
    (try simp only [List.cons_append, List.nil_append, List.append_nil] at N')
    (try dsimp only)
    (try k_fold))
  k_with "mine:go" => (
    (fail_if_success (with_reducible show LCt.CompRestT _ _ _ _ _ _ _ _ _ _ _ _ _ _ _ _ _ _ _ _))
    (fail_if_success (with_reducible show LCg.CompRest _ _ _ _ _ _ _ _ _ _ _ _ _ _ _ _ _ _ _))
    (fail_if_success (with_reducible show ForSrc _ _ _ _ _ _ _ _ _ _ _))
    (first | (k_unfold; (try dsimp only)) | (k_end; wrow_close) | walk1 | (dsimp only; walk1) | (leave1; walk_say "STEP leave1"; try dsimp only) | fail "no step"))
  k_with "mine:same" => exact ⟨_, _, rfl, by assumption, by assumption⟩
  k_with "mine:hdp" => ((try dsimp only [around, Around.deeper]); omega)
  k_with "mine:mapsA" => (repeat' (first | exact List.forall_mem_nil _ | refine List.forall_mem_cons.mpr ⟨by with_unfolding_all rfl, ?_⟩))
  k_with "mine:memS" => ((repeat (first | (with_reducible exact List.mem_cons_self) | refine List.mem_cons_of_mem _ ?_)); done)
  k_with "mine:mapsB" => (
    (intro y hy)
    (try dsimp only)
    (repeat refine (if_neg (hy _ (by k_extra "mine:memS"))).trans ?_)
    (refine Eq.symm ?_)
    (repeat refine (if_neg (hy _ (by k_extra "mine:memS"))).trans ?_)
    rfl)
  k_with "m:k_ne" => (first | (refine neN ?_; (try dsimp only); assumption) | (refine neN ?_; (try dsimp only); refine Ne.symm ?_; assumption))
  k_with "exec For" => (with_unfolding_all refine For_src ?_ (by intro _; rfl))
  k_with "exec For Name Call cons nil" => (with_unfolding_all refine For_src ?_ (by intro _; rfl))
  k_with "mine:dmap" => (
    (funext y)
    (try dsimp only)
    (by_cases h1 : y = Str.ofString "word")
    · (first | (simp only [if_pos h1]; done) | (subst h1; rfl))
    (simp only [if_neg h1]))
  k_with "call builtin:str.lower" => (
    (with_reducible rename Fr _ _ _ _ => F9)
    (with_unfolding_all refine low_is hy10 _ _ _ _ _ _ _ _ _ (Frag.In.keeps X F9.keep) ?_)
    (intro t9 k9))
  k_with "m:k_all" => exact hok2
  k_with "m:k_inst" => (refine' of_acc ?N ?h1 ?h2; (case N => k_asm); (case h1 => k_mem); (case h2 => k_mem))
  k_with "getMethod ref" => (k_here; (with_reducible show wpAny _ _ (getMethod (Value.ref _) _ _) _ _ _); k_dflt (refine' meth_L ?k1 ?k2 ?k3 ?k4 ?k5 ?k6 ?k7 ?k8 ?k9 ?_; (case k1 => k_asm); (case k2 => k_asm); (case k3 => k_inst); (case k4 => k_is); (case k5 => k_is); (case k6 => k_is); (case k7 => k_is); (case k8 => rfl); (case k9 => k_get); k_whole))
  have TT := T
  have C0 := C
  obtain ⟨X, T⟩ := C
  have C := C0
  k_extra "mine:fill"
  have e := lawFn_is (w := w) (by k_dflt k_is)
  rw [e]
  clear e
  dsimp only [List.drop]
  have hpE : 0 < es.length := by omega
  have hpL : 0 < lt.length := by omega
  repeat' k_extra "mine:go"
  rename Fr _ _ _ _ => F7
  rename News _ _ _ _ => N7
  with_unfolding_all refine' walk_spec C (fun b o e => F7.keep b o e) ?hdp ?hun (News.get N7 ?m1) (News.get N7 ?m2) (News.get N7 ?m3) (TT.here F7 N7 fun p hp => List.mem_append_right [_, _, _, _, _, _, _, _, _] hp) (News.get N7 ?m4) (News.get N7 ?m5) .nil hd0 hdx0 hl0 hx0 hpx0 (list_of (n := nN) N7 ?m6) AP.a.2.2.2.2.1 hes hel hsb hr0 htab (Nat.zero_le _) (fun a ha => nomatch ha) ?wret
  case hdp => k_extra "mine:hdp"
  case hun => k_extra "mine:hdp"
  case m1 => k_mem
  case m2 => k_mem
  case m3 => k_mem
  case m4 => k_mem
  case m5 => k_mem
  case m6 => k_mem
  case wret =>
    intro h8 tk8 t8 m1 refs1 n1 ps1 xs1 mx1 gs1 G8 k1 k2 T1 T2 P1 top1 mb1 tab1 r1 r2
    obtain ⟨F8, own1, N8, I1, I2⟩ := walk_ledger AP F7 N7 G8 k1 k2 T1 T2 r1 r2
    rw [List.nil_append] at I2
    obtain ⟨E1, gl1, far1⟩ := walk_end PL.1 hsb P1 top1
    clear F7 N7 G8 k1 k2 T1 T2 TT
    repeat' k_extra "mine:go"
    · exact absurd (max_hit hel mb1 E1 (by assumption) (by assumption)) (by assumption)
    rename Fr _ _ _ _ => F7
    rename News _ _ _ _ => N7
    have zl1 := tab_len (I1.here F7 N7 fun p hp => List.mem_append_right [_, _, _, _, _, _, _, _, _] hp) tab1
    with_unfolding_all refine' holds_spec C (fun b o e => F7.keep b o e) ?hdp ?hun (News.get N7 ?b1) (News.get N7 ?b2) (News.get N7 ?b3) (I1.here F7 N7 fun p hp => List.mem_append_right [_, _, _, _, _, _, _, _, _] hp) hd0 hdx0 hl0 (Nat.le_trans zl1 (by decide)) r1 mb1 tab1.1 ?hret1
    case hdp => k_extra "mine:hdp"
    case hun => k_extra "mine:hdp"
    case b1 => k_mem
    case b2 => k_mem
    case b3 => k_mem
    case hret1 =>
      intro h6 tk6 G6
      have F6 := fr_grow F7 G6
      have N6 := news_grow N7 G6
      clear F7 N7 G6
      repeat' k_extra "mine:go"
      with_unfolding_all refine far_spec C (fun b o e => F6.keep b o e) ?hdp (list_of (n := nN) N6 ?b4) hes hel hsb (fun r h7 tk7 t7 u1 u2 G7 => ?_)
      case hdp => k_extra "mine:hdp"
      case b4 => k_mem
      obtain rfl := far1 r u1 u2
      have F7 := fr_grow F6 G7
      have N7 := news_grow N6 G7
      clear F6 N6 G7 u1 u2 far1
      repeat' k_extra "mine:go"
      rename Fr _ _ _ _ => F7
      rename News _ _ _ _ => N7
      have L2 := I2.here F7 N7 fun p hp => List.mem_append_right [_, _, _, _, _, _, _, _, _] hp
      have L3 := L2.length
      with_unfolding_all refine pc_spec (xs := xs1) (n := mx1) (od := accD hz z0 z1) C (fun b o e => F7.keep b o e) ?hdp (News.get N7 ?b1) (News.get N7 ?b2) hx0 hpx0 ?b3 (fun h6 tk6 t6 G6 => ?_)
      case hdp => k_extra "mine:hdp"
      case b1 => k_mem
      case b2 => k_mem
      case b3 => omega
      rw [L3]
      clear L2 L3
      have F6 := fr_grow F7 G6
      have N6 := news_grow N7 G6
      clear F7 N7 G6
      repeat' k_extra "mine:go"
      · exact absurd rfl (by assumption)
      rename Fr _ _ _ _ => F7
      rename News _ _ _ _ => N7
      have L2 := I2.here F7 N7 fun p hp => List.mem_append_right [_, _, _, _, _, _, _, _, _] hp
      have L1 := I1.here F7 N7 fun p hp => List.mem_append_right [_, _, _, _, _, _, _, _, _] hp
      with_unfolding_all refine' walk_spec C (fun b o e => F7.keep b o e) ?hdp ?hun (News.get N7 ?m1) (News.get N7 ?m2) (News.get N7 ?m3) L1 (News.get N7 ?m4) (News.get N7 ?m5) L2 hd0 hdx0 hl0 hx0 hpx0 (list_of (n := nL) N7 ?m6) AP.a.2.2.2.1 hlt hll mb1 r1 tab1 (Nat.le_trans gl1 (by decide)) r2 ?wret2
      case hdp => k_extra "mine:hdp"
      case hun => k_extra "mine:hdp"
      case m1 => k_mem
      case m2 => k_mem
      case m3 => k_mem
      case m4 => k_mem
      case m5 => k_mem
      case m6 => k_mem
      case wret2 =>
        intro h8 tk8 t8' m2 refs2 n2 ps2 xs2 mx2 gs2 G8 k1 k2 T1 T2 P2 top2 mb2 tab2 r3 r4
        clear L1 L2
        obtain ⟨F8, own2, N8, J1, J2⟩ := walk_ledger AP F7 N7 G8 k1 k2 T1 T2 r3 r4
        obtain ⟨E2, gl2, far2⟩ := walk_end PL.2.1 mb1 P2 top2
        obtain ⟨one1, one2⟩ := walk_two PL mb1 E1 P2
        clear F7 N7 G8 k1 k2 T1 T2 I1 I2 r1 r2 r4
        repeat' k_extra "mine:go"
        · exact absurd (max_hit hll mb2 E2 (by assumption) (by assumption)) (by assumption)
        rename Fr _ _ _ _ => F7
        rename News _ _ _ _ => N7
        have zl2 := tab_len (J1.here F7 N7 fun p hp => List.mem_append_right [_, _, _, _, _, _, _, _, _] hp) tab2
        with_unfolding_all refine' holds_spec C (fun b o e => F7.keep b o e) ?hdp ?hun (News.get N7 ?b1) (News.get N7 ?b2) (News.get N7 ?b3) (J1.here F7 N7 fun p hp => List.mem_append_right [_, _, _, _, _, _, _, _, _] hp) hd0 hdx0 hl0 (Nat.le_trans zl2 (by decide)) r3 mb2 tab2.1 ?hret2
        case hdp => k_extra "mine:hdp"
        case hun => k_extra "mine:hdp"
        case b1 => k_mem
        case b2 => k_mem
        case b3 => k_mem
        case hret2 =>
          intro h6 tk6 G6
          have F6 := fr_grow F7 G6
          have N6 := news_grow N7 G6
          clear F7 N7 G6
          have L2 := J2.here F6 N6 fun p hp => List.mem_append_right [_, _, _, _, _, _, _, _, _] hp
          have L3 := L2.length
          rw [List.length_append] at L3
          repeat' k_extra "mine:go"
          with_unfolding_all refine pc_spec (xs := xs2) (n := mx2) (od := accD hz z0 z1) C (fun b o e => F6.keep b o e) ?hdp (News.get N6 ?b1) (News.get N6 ?b2) hx0 hpx0 ?b3 (fun h7 tk7 t7' G7 => ?_)
          case hdp => k_extra "mine:hdp"
          case b1 => k_mem
          case b2 => k_mem
          case b3 => omega
          rw [L3, Int.natCast_add]
          clear L2 L3
          have F7 := fr_grow F6 G7
          have N7 := news_grow N6 G7
          clear F6 N6 G7
          repeat' k_extra "mine:go"
          rename Fr _ _ _ _ => F6
          rename News _ _ _ _ => N6
          with_unfolding_all refine far_spec C (fun b o e => F6.keep b o e) ?hdp (list_of (n := nL) N6 ?b4) hlt hll mb1 (fun r h8 tk8 t8 u1 u2 G8 => ?_)
          case hdp => k_extra "mine:hdp"
          case b4 => k_mem
          obtain rfl := far2 r u1 u2
          have F8 := fr_grow F6 G8
          have N8 := news_grow N6 G8
          clear F6 N6 G8 u1 u2 far2
          repeat' k_extra "mine:go"
          · exfalso; omega
          rename Fr _ _ _ _ => F7
          rename News _ _ _ _ => N7
          have L2 := J2.here F7 N7 fun p hp => List.mem_append_right [_, _, _, _, _, _, _, _, _] hp
          have L1 := J1.here F7 N7 fun p hp => List.mem_append_right [_, _, _, _, _, _, _, _, _] hp
          obtain ⟨sn, hsn, rfl⟩ := natOf hsb
          obtain ⟨mn, hmn, rfl⟩ := natOf mb1
          have hgs : ∀ g ∈ gs1 ++ gs2, g.1 ∈ W5 ∧ g.2 ∈ W5 ∧ g ≠ (Str.empty, Str.empty) := fun g hg => (List.mem_append.mp hg).elim (path_gs hsn P1 g) (path_gs hmn P2 g)
          have tab3 : Tab ((gs1 ++ gs2).reverse.foldl undo1 ps2) (sn : Int) := by
            rw [List.reverse_append, List.foldl_append]
            exact path_undo hsn P1 _ (path_undo hmn P2 _ tab2)
          with_unfolding_all refine' undone_spec C (fun b o e => F7.keep b o e) ?hdp ?hun (News.get N7 ?m1) (News.get N7 ?m2) (News.get N7 ?m3) L1 (News.get N7 ?m4) (News.get N7 ?m5) L2 hd0 hdx0 hl0 hx0 hpx0 (Nat.le_trans zl2 (by decide)) r3 (tab_W10 mb2 tab2) ?hlen hgs ?wret3
          case hdp => k_extra "mine:hdp"
          case hun => k_extra "mine:hdp"
          case m1 => k_mem
          case m2 => k_mem
          case m3 => k_mem
          case m4 => k_mem
          case m5 => k_mem
          case hlen => rw [List.length_append]; omega
          case wret3 =>
            intro h9 tk9 lG vG kG refs3 n3 G9 nG kl T3 k1 T1 rl3 r5
            obtain ⟨F9, own3, N9, I3⟩ := undo_ledger AP F7 N7 G9 k1 nG kl T1 r5
            clear F7 N7 G9 k1 T1 nG kl L1 L2 J1 J2
            repeat' k_extra "mine:go"
            · rename Fr _ _ _ _ => F7
              rename News _ _ _ _ => N7
              obtain ⟨y2, ey⟩ := one2 (by omega)
              have hg0 : (List.map (fun p : Str × Str => p.1) (gs1 ++ gs2).reverse).getD (Int.toNat 0) Str.empty = wordN dv.toNat := by rw [ey, List.reverse_append]; rfl
              rw [hg0]
              have hw1 := dear_word hdb
              with_unfolding_all refine words_spec C (fun b o e => F7.keep b o e) ?hdp ?hmw fun l2 h8 tk8 vs2 G8 nl2 kl2 S2 => ?_
              case hdp => k_extra "mine:hdp"
              case hmw => exact hw1.1
              replace S2 : StrsAre vs2 [wordN dv.toNat] := hw1.2 ▸ S2
              have F8 := fr_grow F7 G8
              have N8 := news_add F7 (news_grow N7 G8) nl2 kl2
              clear F7 N7 G8 nl2 kl2
              repeat' k_extra "mine:go"
              · rename (_ != _) = true => q
                exact absurd q (bne_self (wordN dv.toNat))
              have zl3 := tab_len (I3.here F8 N8 fun p hp => List.mem_append_right [_, _, _, _, _, _, _, _, _] hp) tab3
              with_unfolding_all refine' holds_spec C (fun b o e => F8.keep b o e) ?hdp ?hun (News.get N8 ?b1) (News.get N8 ?b2) (News.get N8 ?b3) (I3.here F8 N8 fun p hp => List.mem_append_right [_, _, _, _, _, _, _, _, _] hp) hd0 hdx0 hl0 (Nat.le_trans zl3 (by decide)) r5 hsb tab3.1 ?hret3
              case hdp => k_extra "mine:hdp"
              case hun => k_extra "mine:hdp"
              case b1 => k_mem
              case b2 => k_mem
              case b3 => k_mem
              case hret3 =>
                intro h6 tk6 G6
                have F6 := fr_grow F8 G6
                exact hQ _ _ F6.keep
            · rename Fr _ _ _ _ => F7
              rename News _ _ _ _ => N7
              have zl3 := tab_len (I3.here F7 N7 fun p hp => List.mem_append_right [_, _, _, _, _, _, _, _] hp) tab3
              with_unfolding_all refine' holds_spec C (fun b o e => F7.keep b o e) ?hdp ?hun (News.get N7 ?b1) (News.get N7 ?b2) (News.get N7 ?b3) (I3.here F7 N7 fun p hp => List.mem_append_right [_, _, _, _, _, _, _, _] hp) hd0 hdx0 hl0 (Nat.le_trans zl3 (by decide)) r5 hsb tab3.1 ?hret4
              case hdp => k_extra "mine:hdp"
              case hun => k_extra "mine:hdp"
              case b1 => k_mem
              case b2 => k_mem
              case b3 => k_mem
              case hret4 =>
                intro h6 tk6 G6
                have F6 := fr_grow F7 G6
                exact hQ _ _ F6.keep
end
end LEndS
section LTailS
section
variable {w : World} {mean : ExcName → Option Value} {mg mb : Str → Option Value} {dp un : Nat} {gd : Option (List Code)} {outer : List Env} {H₀ : Heap} {Q : Value → Shared → Prop}
theorem law_tail (C : Cx w mean mg mb H₀) (hd1 : dp + 80 < recursionLimit) (hun : un + 300 < cLine) {L' fa : Addr} {cd : Value} {m : Str → Option Value} {h9 : Heap} {tk9 : Nat} {gs : Array GenState} {dw : Drawn} {os : OsState} {lL lN : Addr} {es lt : List Int} {vL vN : List Value} {nL nN : Nat} {oD oN : Obj} {sv dv : Int} {st0 dt : Tok}
    (F9 : Fr H₀ L' h9 (fun y => if y = Str.ofString "later" then some (.ref lL) else if y = Str.ofString "start" then some (.int sv st0) else m y))
    (N9 : News H₀ L' h9 ((lL, W.listOf (List.toArray vL) nL) :: (lN, W.listOf (List.toArray vN) nN) :: (L' + 1 + 1 + 1 + 1, oD) :: (L' + 1 + 1, oN) :: []))
    (dD : oD.data = Data.cell (some (.int dv dt))) (dN : oN.data = Data.cell (some (.ref lN))) (hes : IntsAre vN es) (hel : es.length = 16) (hlt : IntsAre vL lt) (hll : lt.length = 16) (hsb : 0 ≤ sv ∧ sv < 16) (hdb : 0 ≤ dv ∧ dv < 4) (PL : Plain es lt dv) (pL : @Ne Nat lN lL)
    (hQ : ∀ h' tk', (∀ b o, H₀.get? b = some o → h'.get? b = some o) → Q (.bool true) { heap := h', gens := gs, drawn := dw, toks := tk', os := os }) :
    wpAny (model PW w) ((around dp un gd outer).deeper (envOfC (Str.ofString "law") (lawFn w).2 L' fa cd)) (execs ((lawFn w).1.drop 9) (envOfC (Str.ofString "law") (lawFn w).2 L' fa cd))
      (fun fl s' => Q (match fl with | .ret v => v | _ => .none) s') (fun _ _ => False) { heap := h9, gens := gs, drawn := dw, toks := tk9, os := os } := by
  k_with_none
  w_top off
  k_with "mine:fill" => (have _kf : (PySem.Challenge.rw_wk0041_01, _root_.hd.heap_1) = (PySem.Challenge.rw_wk0041_01, _root_.hd.heap_1) := by (k_fill; rfl))
  k_with "mine:room" => (first | assumption | (simp only [around, Around.deeper, Around.mark, Around.in1, recursionLimit] at *; omega))
  k_with "mine:entercases" => (
    (case ho => k_dflt k_is)
    (case hcd => k_dflt k_is)
    (case hroom => k_extra "mine:room")
    (case hbind => first | exact BindsTo.of_eq rfl | exact binds_K (by k_in) rfl (by k_is) rfl rfl rfl | exact kp_binds (Frag.In.keeps X st) fun _ => rfl)
    (case hkind => exact rfl)
    (case hnd => decide +kernel)
    (case ht => (first | exact List.forall_mem_nil _ | (simp only [List.forall_mem_cons]; simp_all)))
    (case h0 => (first | exact List.forall_mem_nil _ | (simp only [List.forall_mem_cons]; simp_all)))
    (case c1 => exact rfl)
    (case c2 => exact rfl)
    (case c3 => exact rfl))
  k_with "mine:cells" => (
    (first | (k_cells Y') | (have hY := cellsNil Y'; subst hY))
    (try simp only [List.cons_append, List.nil_append, List.append_nil] at N')
    (try dsimp only)
    (try k_fold))
  k_with "mine:go" => (
    (fail_if_success (with_reducible show LCt.CompRestT _ _ _ _ _ _ _ _ _ _ _ _ _ _ _ _ _ _ _ _))
    (fail_if_success (with_reducible show LCg.CompRest _ _ _ _ _ _ _ _ _ _ _ _ _ _ _ _ _ _ _))
    (fail_if_success (with_reducible show ForSrc _ _ _ _ _ _ _ _ _ _ _))
    (first | (k_unfold; (try dsimp only)) | (k_end; wrow_close) | walk1 | (dsimp only; walk1) | (leave1; walk_say "STEP leave1"; try dsimp only) | fail "no step"))
  k_with "mine:same" => exact ⟨_, _, rfl, by assumption, by assumption⟩
  k_with "mine:hdp" => ((try dsimp only [around, Around.deeper]); omega)
  k_with "mine:mapsA" => (repeat' (first | exact List.forall_mem_nil _ | refine List.forall_mem_cons.mpr ⟨by with_unfolding_all rfl, ?_⟩))
  k_with "mine:memS" => ((repeat (first | (with_reducible exact List.mem_cons_self) | refine List.mem_cons_of_mem _ ?_)); done)
  k_with "mine:mapsB" => (
    (intro y hy)
    (try dsimp only)
    (repeat refine (if_neg (hy _ (by k_extra "mine:memS"))).trans ?_)
    (refine Eq.symm ?_)
    (repeat refine (if_neg (hy _ (by k_extra "mine:memS"))).trans ?_)
    rfl)
  k_with "m:k_ne" => (first | (refine neN ?_; (try dsimp only); assumption) | (refine neN ?_; (try dsimp only); refine Ne.symm ?_; assumption))
  k_with "exec For" => (with_unfolding_all refine For_src ?_ (by intro _; rfl))
  k_with "exec For Name Call cons nil" => (with_unfolding_all refine For_src ?_ (by intro _; rfl))
  k_with "mine:dmap" => (
    (refine maps_eq [Str.ofString "word"] ?_ ?_)
    · k_extra "mine:mapsA"
    · k_extra "mine:mapsB")
  k_with "call builtin:str.lower" => (
    (with_reducible rename Fr _ _ _ _ => F9)
    (with_unfolding_all refine low_is hy10 _ _ _ _ _ _ _ _ _ (Frag.In.keeps X F9.keep) ?_)
    (intro t9 k9))
  k_with "m:k_all" => exact hok2
  k_with "m:k_inst" => (refine' of_acc ?N ?h1 ?h2; (case N => k_asm); (case h1 => k_mem); (case h2 => k_mem))
  k_with "getMethod ref" => (k_here; (with_reducible show wpAny _ _ (getMethod (Value.ref _) _ _) _ _ _); k_dflt (refine' meth_L ?k1 ?k2 ?k3 ?k4 ?k5 ?k6 ?k7 ?k8 ?k9 ?_; (case k1 => k_asm); (case k2 => k_asm); (case k3 => k_inst); (case k4 => k_is); (case k5 => k_is); (case k6 => k_is); (case k7 => k_is); (case k8 => rfl); (case k9 => k_get); k_whole))
  have C0 := C
  obtain ⟨X, T⟩ := C
  have C := C0
  k_extra "mine:fill"
  have e := lawFn_is (w := w) (by k_dflt k_is)
  rw [e]
  clear e
  dsimp only [List.drop]
  have stg : H₀.StaysIn H₀ := fun b o e => e
  repeat' k_extra "mine:go"
  with_unfolding_all refine hdrs_spec C F9.keep ?hdp fun h8 tk8 d dx hl hh t0 G8 nd ndx nhl kd kdx khl => ?_
  case hdp => k_extra "mine:hdp"
  have q1 := news_ne N9 nd
  have q2 := news_ne N9 ndx
  have q3 := news_ne N9 nhl
  have e1 : @Ne Nat lL hl := q3 (lL, _) (by k_mem)
  have e2 : @Ne Nat lN hl := q3 (lN, _) (by k_mem)
  have nc4 : @Ne Nat (L' + 1 + 1 + 1 + 1) hl := q3 (L' + 1 + 1 + 1 + 1, _) (by k_mem)
  have nc2 : @Ne Nat (L' + 1 + 1) hl := q3 (L' + 1 + 1, _) (by k_mem)
  have hd0 := nold F9.keep nd
  have hdx0 := nold F9.keep ndx
  have hl0 := nold F9.keep nhl
  have F8 := fr_grow F9 G8
  have N8 := news_add F9 (news_add F9 (news_add F9 (news_grow N9 G8) nhl khl) ndx kdx) nd kd
  clear q1 q2 q3 F9 N9 G8
  repeat' k_extra "mine:go"
  rename Fr _ _ _ _ => F7
  rename News _ _ _ _ => N7
  obtain ⟨hW6, hwl, hwn, hwp, hNS⟩ := start_of hsb
  with_unfolding_all refine pretty_spec (fl := 4296015872 + sv) C (fun b o e => F7.keep b o e) ?hdp hNS fun h6 tk6 t6 G6 => ?_
  case hdp => k_extra "mine:hdp"
  have F6 := fr_grow F7 G6
  have N6 := news_grow N7 G6
  clear F7 N7 G6
  repeat' k_extra "mine:go"
  with_unfolding_all refine _root_.PySem.W.KSpl.split1 F6 N6 (by decide +kernel) (fun D5 l5 h5 k5 e5 S5 F5 N5 l5o => ?_) (by rw [sizeLine_eq]; exact Nat.le_trans (join_NS _ hNS) (by decide))
  clear F6 N6
  rw [e5, split_NS _ hNS] at S5
  obtain ⟨ws, hws⟩ : ∃ ws, ws = prettyWords (4296015872 + sv) := ⟨_, rfl⟩
  rw [← hws] at S5 hW6 hwl hwn hwp
  have hsz5 : (strValues l5).toArray.size = ws.length := by rw [List.size_toArray, strs_length S5]
  replace F5 : Fr H₀ L' h5 (fun y => if y = Str.ofString "desk" then some (.ref d) else if y = Str.ofString "later" then some (.ref lL) else if y = Str.ofString "start" then some (.int sv st0) else m y) := by with_unfolding_all exact F5
  have n5 : @Ne Nat dx hl := clash kdx khl (by show ¬ (Value.type "dict" = Value.type "list"); decide)
  have n2 : @Ne Nat d hl := clash kd khl (by show ¬ (Value.ref 300 = Value.type "list"); decide)
  have v1 : @Ne Nat (L' + 1 + 1 + 1 + 1) hl := nc4
  have v2 : @Ne Nat (L' + 1 + 1) hl := nc2
  refine ForSrc.listQ (its := (strValues l5).toArray) (fun i m₂ news₂ => ∃ refsJ nJ own, m₂ = (fun y => if y = Str.ofString "word" then m₂ y else if y = Str.ofString "desk" then some (.ref d) else if y = Str.ofString "later" then some (.ref lL) else if y = Str.ofString "start" then some (.int sv st0) else m y)
    ∧ news₂ = (D5, W.listOf (strValues l5).toArray 0) :: (d, instObj 300 dx) :: (dx, dictOf [⟨hh, .str (Str.ofString "_headers") t0, .ref hl⟩] 1) :: (hl, W.listOf (List.toArray refsJ) nJ) :: (lL, W.listOf (List.toArray vL) nL) :: (lN, W.listOf (List.toArray vN) nN) :: (L' + 1 + 1 + 1 + 1, oD) :: (L' + 1 + 1, oN) :: own
    ∧ (∀ p ∈ own, ∃ a b t1 t2 k, p.2 = tupO a b t1 t2 k) ∧ TupsIn H₀ own refsJ ((ws.take i).map fun x => (x, Str.ofString "in")) ∧ refsJ.length = i ∧ (∀ a, Value.ref a ∈ refsJ → H₀.get? a = none)) (by rfl) F5 N5 (.inr ⟨_, List.Mem.head _, rfl, _, rfl⟩) ?J0 ?turn ?done
  case J0 =>
    refine ⟨[], 0, [], ?mp, rfl, (fun p hp => nomatch hp), (fun _ _ _ => .nil), rfl, (fun a ha => nomatch ha)⟩
    k_extra "mine:dmap"
  case turn =>
    rintro i v m₂ news₂ I oI h tk TF hTF hi5 hv ⟨refsJ, nJ, own', hm₂, rfl, hoc', htj, hlj, hfj⟩ hS F N off'
    rw [hm₂] at F
    clear hm₂ F5 N5
    obtain ⟨y, ty, rfl, hyw⟩ := S5.item i v (by simpa using hv)
    have hy6 : y ∈ W6 := hW6 _ (List.mem_of_getElem? hyw)
    have hy10 : y ∈ W10 := W6_sub _ hy6
    have hlow := low_mem _ hy10
    have hps10 : ∀ p ∈ (ws.take i).map fun x => (x, Str.ofString "in"), p.1 ∈ W10 := fun p hp => by
      obtain ⟨x, hx, rfl⟩ := List.mem_map.mp hp
      exact W6_sub _ (hW6 _ (List.mem_of_mem_take hx))
    have hi6 : i < 6 := by omega
    have hno : ∀ p ∈ (ws.take i).map fun x => (x, Str.ofString "in"), low p.1 ≠ low y := fun p hp e => by
      obtain ⟨x, hx, rfl⟩ := List.mem_map.mp hp
      have e := low_inj _ (hW6 _ (List.mem_of_mem_take hx)) _ hy6 e
      subst e
      exact nodup_take hwn hyw hx
    repeat' k_extra "mine:go"
    rename Fr _ _ _ _ => F7
    rename News _ _ _ _ => N4
    have hok2 := own_cls N4 hoc' (fun p hp => by simp [hp]) (c := hl) (by k_mem) (by show ¬ (Value.type "tuple" = Value.type "list"); decide)
    have r1 : @LT.lt Nat _ hl D5 := l5o (hl, _) (by k_mem)
    have r2 : @Ne Nat hl I := off' (hl, _) (by k_mem)
    have r4 : @Ne Nat hl D5 := Nat.ne_of_lt r1
    with_unfolding_all refine' setd_spec (vx := Str.ofString "in") C (fun b o e => F7.keep b o e) ?hdp (News.get N4 ?m1) (News.get N4 ?m2) (News.get N4 ?m3) (htj.here F7 N4 fun p hp => by simp [hp]) hd0 hdx0 hl0 hy10 hps10 (by omega) (fun p hp e => absurd e (hno p hp)) ?r1
    case hdp => k_extra "mine:hdp"
    case m1 => k_mem
    case m2 => k_mem
    case m3 => k_mem
    case r1 =>
      intro _
      refine ⟨rfl, ?_⟩
      intro h1 tk1 a8 u3 u4 k8 G1 hn8 ha8 hl1
      have F1 := fr_set F7 N4 G1 (a := hl) (by k_mem)
      refine' put_news N4 ?U G1 hl1 ?_
      case U => k_updF
      intro N3
      try dsimp only at N3
      have hnI := news_ne N4 hn8 (I, oI) (List.Mem.head _)
      refine' put_ins F7 N3 (.there (.there (.there (.there (.there (.there (.there (.there (.there .here))))))))) hn8 ha8 ?_
      intro N1
      have hf8 : H₀.get? a8 = none := nold (fun b o e => F7.keep b o e) hn8
      clear F7 N4 N3 G1 hl1 hn8 ha8
      repeat' k_extra "mine:go"
      rename Fr _ _ _ _ => F5
      have hoc1 : ∀ p ∈ (a8, tupO y (Str.ofString "in") u3 u4 k8) :: own', ∃ a b t1 t2 k, p.2 = tupO a b t1 t2 k := by
        simp only [List.forall_mem_cons]
        exact ⟨⟨_, _, _, _, _, rfl⟩, hoc'⟩
      have ht1 : TupsIn H₀ ((a8, tupO y (Str.ofString "in") u3 u4 k8) :: own') (refsJ ++ [.ref a8]) (((ws.take i).map fun x => (x, Str.ofString "in")) ++ [(y, Str.ofString "in")]) := fun k a b => (htj k a fun p hp => b p (List.mem_cons_of_mem _ hp)).snoc (b _ (List.Mem.head _))
      have hps11 : ∀ p ∈ ((ws.take i).map fun x => (x, Str.ofString "in")) ++ [(y, Str.ofString "in")], p.1 ∈ W10 := fun p hp => by
        rcases List.mem_append.mp hp with hp | hp
        · exact hps10 p hp
        · rw [List.mem_singleton.mp hp]; exact hy10
      have hrl : (refsJ ++ [Value.ref a8]).length ≤ 100 := by rw [List.length_append, List.length_singleton]; omega
      have hll2 := low_low y hy6
      with_unfolding_all refine' setd_spec (vx := Str.ofString "out") C (fun b o e => F5.keep b o e) ?hdp (News.get N1 ?m1) (News.get N1 ?m2) (News.get N1 ?m3) (ht1.here F5 N1 fun p hp => List.mem_append_right [_, _, _, _, _, _, _, _, _] hp) hd0 hdx0 hl0 hlow hps11 hrl ?r1 (fun hn => absurd (by rw [hll2]) (hn (y, Str.ofString "in") (by simp)))
      case hdp => k_extra "mine:hdp"
      case m1 => k_mem
      case m2 => k_mem
      case m3 => k_mem
      case r1 =>
        intro p hp _ h2 tk2 t2 G2
        have hp2 : p.2 = Str.ofString "in" := by
          rcases List.mem_append.mp hp with hp | hp
          · obtain ⟨x, _, rfl⟩ := List.mem_map.mp hp; rfl
          · rw [List.mem_singleton.mp hp]
        rw [hp2]
        have F4 := fr_grow F5 G2
        have N4 := news_grow N1 G2
        clear F5 N1 G2 hp hp2
        repeat' k_extra "mine:go"
        rename Fr _ _ _ _ => F2
        rename News _ _ _ _ => N2
        have N2 := news_at I oI (news_tail (news_tail N2))
        refine hTF _ _ ?_
        dsimp only [Turned]
        refine ⟨_, _, _, _, rfl, F2, N2, ?offo, .inr ⟨_, List.Mem.head _, rfl, _, rfl⟩, refsJ ++ [.ref a8], nJ + 1, (a8, tupO y (Str.ofString "in") u3 u4 k8) :: own', ?mpo, rfl, hoc1, ?ti, ?ln, ?fr⟩
        case offo =>
          simp only [List.forall_mem_cons]
          exact ⟨off' (D5, _) (by k_mem), off' (d, _) (by k_mem), off' (dx, _) (by k_mem), off' (hl, _) (by k_mem), off' (lL, _) (by k_mem), off' (lN, _) (by k_mem), off' (L' + 1 + 1 + 1 + 1, _) (by k_mem), off' (L' + 1 + 1, _) (by k_mem), Ne.symm hnI, fun p hp => off' p (List.mem_append_right [_, _, _, _, _, _, _, _] hp)⟩
        case mpo => k_extra "mine:dmap"
        case ti =>
          rw [List.take_add_one, hyw, List.map_append]
          exact ht1
        case ln => rw [List.length_append, List.length_singleton, hlj]
        case fr =>
          intro a ha
          rcases List.mem_append.mp ha with ha | ha
          · exact hfj a ha
          · cases List.mem_singleton.mp ha; exact hf8
  case done =>
    rintro m₂ news₂ h tk ⟨refsJ, nJ, own, hm₂, rfl, hoc, htj, hlj, hfj⟩ hS F N
    rw [hm₂] at F
    clear hm₂ F5 N5
    rw [hsz5, List.take_length] at htj
    rw [hsz5] at hlj
    have N := news_tail N
    have htab : Tab (ws.map fun x => (x, Str.ofString "in")) sv := by
      refine ⟨?_, fun p hp => ?_⟩
      · rw [List.map_map]
        exact (List.map_id ws).symm ▸ hwp
      · obtain ⟨x, _, rfl⟩ := List.mem_map.mp hp; rfl
    repeat' k_extra "mine:go"
    with_unfolding_all refine acc_spec C (fun b o e => F.keep b o e) ?hdp fun h8 tk8 x px hz z0 z1 mx G8 nx npx kx kpx => ?_
    case hdp => k_extra "mine:hdp"
    have hx0 := nold F.keep nx
    have hpx0 := nold F.keep npx
    have q1 := news_ne N nx
    have q2 := news_ne N npx
    have w1 : @Ne Nat d x := q1 (d, _) (by k_mem)
    have w2 : @Ne Nat dx x := q1 (dx, _) (by k_mem)
    have w3 : @Ne Nat hl x := q1 (hl, _) (by k_mem)
    have w4 : @Ne Nat lL x := q1 (lL, _) (by k_mem)
    have w5 : @Ne Nat lN x := q1 (lN, _) (by k_mem)
    have w6 : @Ne Nat (L' + 1 + 1 + 1 + 1) x := q1 (L' + 1 + 1 + 1 + 1, _) (by k_mem)
    have w7 : @Ne Nat (L' + 1 + 1) x := q1 (L' + 1 + 1, _) (by k_mem)
    have w8 : @Ne Nat hl px := q2 (hl, _) (by k_mem)
    have w9 : @Ne Nat x px := clash kx kpx (by show ¬ (Value.ref 163 = Value.type "dict"); decide)
    have AP : Apart d dx hl x px lL lN (L' + 1 + 1 + 1 + 1) (L' + 1 + 1) := ⟨⟨n2, n5, Ne.symm w8, e1, e2, v1, v2⟩, ⟨w1, w2, Ne.symm w9, w4, w5, w6, w7⟩, w3⟩
    have F8 := fr_grow F G8
    have N8 := news_add F (news_add F (news_grow N G8) npx kpx) nx kx
    clear q1 q2 F N G8 n2 n5 v1 v2 e1 w1 w2 w3 w4 w5 w6 w7 w8 w9
    k_extra "mine:go"
    dsimp only
    rename Fr _ _ _ _ => F7
    rename News _ _ _ _ => N7
    have F6 : Fr H₀ L' _ (fun y => if y = Str.ofString "pile" then some (.ref x) else if y = Str.ofString "desk" then some (.ref d) else if y = Str.ofString "later" then some (.ref lL) else if y = Str.ofString "start" then some (.int sv st0) else (fun y => if y = Str.ofString "word" then m₂ y else m y) y) := fr_same F7 (by
      funext y
      dsimp only
      by_cases h0 : y = Str.ofString "word"
      · subst h0; rfl
      · simp only [if_neg h0])
    have e12 := lawFn_is (w := w) (by k_dflt k_is)
    have K := law_end (dp := dp) (un := un) (gd := gd) (outer := outer) (fa := fa) (cd := cd) (tk9 := tk8 + 1) (gs := gs) (dw := dw) (os := os) C hd1 hun F6 N7 AP hd0 hdx0 hl0 hx0 hpx0 htj htab hfj dD dN hes hel hlt hll hsb hdb PL hQ
    rw [e12] at K
    dsimp only [List.drop] at K
    exact K
end
end LTailS
section LFinS
theorem sel_rmap {P : Nat → Value → Prop} {tst : Nat → Value → Bool} {φ : Nat → Int} {k i : Nat} {rs : List Value} (ht : ∀ i v, tst i v = true) (S : Sel P tst (fun i _ y => ∃ t, y = .int (φ i) t) k i rs) : IntsAre rs ((List.range' i k).map φ) := by
  induction S with
  | nil => exact .nil
  | yes _ _ hR _ ih =>
    obtain ⟨t, rfl⟩ := hR
    rw [List.range'_succ, List.map_cons]
    exact .cons _ t ih
  | no _ h _ _ => rw [ht] at h; cases h
theorem news_erase {g h : Heap} {L : Addr} {l : List (Addr × Obj)} (i : Nat) (N : News g L h l) : News g L h (l.eraseIdx i) := fun p hp => N p (List.mem_of_mem_eraseIdx hp)
theorem fmod_in {x d : Int} (h : 0 < d) : 0 ≤ Int.fmod x d ∧ Int.fmod x d < d := ⟨Int.fmod_nonneg_of_pos x h, Int.fmod_lt_of_pos x h⟩
theorem rise_in {x : Int} : 1 ≤ 1 + Int.fmod x 4 ∧ 1 + Int.fmod x 4 ≤ 4 := by
  have := fmod_in (x := x) (d := 4) (by decide)
  omega
theorem fmods_ok (φ : Nat → Int) : (((List.range' 0 4).map fun i => Int.fmod (φ i) 6) ++ [0]).length = 5 ∧ (∀ x ∈ ((List.range' 0 4).map fun i => Int.fmod (φ i) 6) ++ [0], 0 ≤ x ∧ x ≤ 5) ∧ (((List.range' 0 4).map fun i => Int.fmod (φ i) 6) ++ [0]).getD 4 0 = 0 := by
  refine ⟨rfl, fun x hx => ?_, rfl⟩
  rcases List.mem_append.mp hx with h | h
  · obtain ⟨i, _, rfl⟩ := List.mem_map.mp h
    rw [Int.fmod_eq_emod_of_nonneg _ (by decide)]
    omega
  · rw [List.mem_singleton.mp h]; decide
section
variable {w : World} {mean : ExcName → Option Value} {mg mb : Str → Option Value} {dp un : Nat} {gd : Option (List Code)} {outer : List Env} {H₀ : Heap} {s : Shared} {Q E : Value → Shared → Prop}
theorem fin0 : PySem.Challenge.rw_wk0041_01.Holds := hd (by
  k_with_none
  w_top off
  k_with "mine:fill" => (have _kf : (PySem.Challenge.rw_wk0041_01, _root_.hd.heap_1) = (PySem.Challenge.rw_wk0041_01, _root_.hd.heap_1) := by (k_fill; rfl))
  k_with "mine:room" => (first | assumption | (simp only [around, Around.deeper, Around.mark, Around.in1, recursionLimit] at *; omega))
  k_with "mine:entercases" => (
    (case ho => k_dflt k_is)
    (case hcd => k_dflt k_is)
    (case hroom => k_extra "mine:room")
    (case hbind => first | exact BindsTo.of_eq rfl | exact binds_K (by k_in) rfl (by k_is) rfl rfl rfl | exact kp_binds (Frag.In.keeps X st) fun _ => rfl)
    (case hkind => exact rfl)
    (case hnd => decide +kernel)
    (case ht => (first | exact List.forall_mem_nil _ | (simp only [List.forall_mem_cons]; simp_all)))
    (case h0 => (first | exact List.forall_mem_nil _ | (simp only [List.forall_mem_cons]; simp_all)))
    (case c1 => exact rfl)
    (case c2 => exact rfl)
    (case c3 => exact rfl))
  k_with "mine:cells" => (
    (first | (k_cells Y') | (have hY := cellsNil Y'; subst hY))
    (try simp only [List.cons_append, List.nil_append, List.append_nil] at N')
    (try dsimp only)
    (try k_fold))
  k_with "mine:go" => (
    (fail_if_success (with_reducible show LCt.CompRestT _ _ _ _ _ _ _ _ _ _ _ _ _ _ _ _ _ _ _ _))
    (fail_if_success (with_reducible show LCg.CompRest _ _ _ _ _ _ _ _ _ _ _ _ _ _ _ _ _ _ _))
    (fail_if_success (with_reducible show ForSrc _ _ _ _ _ _ _ _ _ _ _))
    (first | (k_unfold; (try dsimp only)) | (k_end; wrow_close) | walk1 | (dsimp only; walk1) | (leave1; walk_say "STEP leave1"; try dsimp only) | fail "no step"))
  k_with "mine:same" => exact ⟨_, _, rfl, by assumption, by assumption⟩
  k_with "mine:hdp" => ((try dsimp only [around, Around.deeper]); omega)
  k_with "mine:mapsA" => (repeat' (first | exact List.forall_mem_nil _ | refine List.forall_mem_cons.mpr ⟨by with_unfolding_all rfl, ?_⟩))
  k_with "mine:memS" => ((repeat (first | (with_reducible exact List.mem_cons_self) | refine List.mem_cons_of_mem _ ?_)); done)
  k_with "mine:mapsB" => (
    (intro y hy)
    (try dsimp only)
    (repeat refine (if_neg (hy _ (by k_extra "mine:memS"))).trans ?_)
    (refine Eq.symm ?_)
    (repeat refine (if_neg (hy _ (by k_extra "mine:memS"))).trans ?_)
    rfl)
  k_with "mine:ne" => (first
    | with_reducible assumption
    | exact Ne.symm (by with_reducible assumption)
    | exact Nat.ne_of_gt (by with_reducible assumption)
    | exact Nat.ne_of_lt (by with_reducible assumption)
    | exact Nat.ne_of_gt (And.left (by with_reducible assumption))
    | exact Nat.ne_of_lt (And.left (by with_reducible assumption))
    | exact id (And.left (by with_reducible assumption))
    | exact Ne.symm (And.left (by with_reducible assumption))
    | exact Nat.ne_of_gt (And.left (And.right (by with_reducible assumption)))
    | exact Nat.ne_of_lt (And.left (And.right (by with_reducible assumption)))
    | exact id (And.left (And.right (by with_reducible assumption)))
    | exact Ne.symm (And.left (And.right (by with_reducible assumption)))
    | exact Nat.ne_of_gt (And.left (And.right (And.right (by with_reducible assumption))))
    | exact Nat.ne_of_lt (And.left (And.right (And.right (by with_reducible assumption))))
    | exact id (And.left (And.right (And.right (by with_reducible assumption))))
    | exact Ne.symm (And.left (And.right (And.right (by with_reducible assumption))))
    | exact Nat.ne_of_gt (And.left (And.right (And.right (And.right (by with_reducible assumption)))))
    | exact Nat.ne_of_lt (And.left (And.right (And.right (And.right (by with_reducible assumption)))))
    | exact id (And.left (And.right (And.right (And.right (by with_reducible assumption)))))
    | exact Ne.symm (And.left (And.right (And.right (And.right (by with_reducible assumption)))))
    | exact Nat.ne_of_gt (And.left (And.right (And.right (And.right (And.right (by with_reducible assumption))))))
    | exact Nat.ne_of_lt (And.left (And.right (And.right (And.right (And.right (by with_reducible assumption))))))
    | exact id (And.left (And.right (And.right (And.right (And.right (by with_reducible assumption))))))
    | exact Ne.symm (And.left (And.right (And.right (And.right (And.right (by with_reducible assumption))))))
    | exact Nat.ne_of_gt (And.left (And.right (And.right (And.right (And.right (And.right (by with_reducible assumption)))))))
    | exact Nat.ne_of_lt (And.left (And.right (And.right (And.right (And.right (And.right (by with_reducible assumption)))))))
    | exact id (And.left (And.right (And.right (And.right (And.right (And.right (by with_reducible assumption)))))))
    | exact Ne.symm (And.left (And.right (And.right (And.right (And.right (And.right (by with_reducible assumption)))))))
    | exact Nat.ne_of_gt (And.left (And.right (And.right (And.right (And.right (And.right (And.right (by with_reducible assumption))))))))
    | exact Nat.ne_of_lt (And.left (And.right (And.right (And.right (And.right (And.right (And.right (by with_reducible assumption))))))))
    | exact id (And.left (And.right (And.right (And.right (And.right (And.right (And.right (by with_reducible assumption))))))))
    | exact Ne.symm (And.left (And.right (And.right (And.right (And.right (And.right (And.right (by with_reducible assumption))))))))
    | exact Nat.ne_of_gt (And.left (And.right (And.right (And.right (And.right (And.right (And.right (And.right (by with_reducible assumption)))))))))
    | exact Nat.ne_of_lt (And.left (And.right (And.right (And.right (And.right (And.right (And.right (And.right (by with_reducible assumption)))))))))
    | exact id (And.left (And.right (And.right (And.right (And.right (And.right (And.right (And.right (by with_reducible assumption)))))))))
    | exact Ne.symm (And.left (And.right (And.right (And.right (And.right (And.right (And.right (And.right (by with_reducible assumption)))))))))
    | exact Nat.ne_of_gt (And.left (And.right (And.right (And.right (And.right (And.right (And.right (And.right (And.right (by with_reducible assumption))))))))))
    | exact Nat.ne_of_lt (And.left (And.right (And.right (And.right (And.right (And.right (And.right (And.right (And.right (by with_reducible assumption))))))))))
    | exact id (And.left (And.right (And.right (And.right (And.right (And.right (And.right (And.right (And.right (by with_reducible assumption))))))))))
    | exact Ne.symm (And.left (And.right (And.right (And.right (And.right (And.right (And.right (And.right (And.right (by with_reducible assumption))))))))))
    | exact Nat.ne_of_gt (And.left (And.right (And.right (And.right (And.right (And.right (And.right (And.right (And.right (And.right (by with_reducible assumption)))))))))))
    | exact Nat.ne_of_lt (And.left (And.right (And.right (And.right (And.right (And.right (And.right (And.right (And.right (And.right (by with_reducible assumption)))))))))))
    | exact id (And.left (And.right (And.right (And.right (And.right (And.right (And.right (And.right (And.right (And.right (by with_reducible assumption)))))))))))
    | exact Ne.symm (And.left (And.right (And.right (And.right (And.right (And.right (And.right (And.right (And.right (And.right (by with_reducible assumption)))))))))))
    | exact Nat.ne_of_gt (And.left (And.right (And.right (And.right (And.right (And.right (And.right (And.right (And.right (And.right (And.right (by with_reducible assumption))))))))))))
    | exact Nat.ne_of_lt (And.left (And.right (And.right (And.right (And.right (And.right (And.right (And.right (And.right (And.right (And.right (by with_reducible assumption))))))))))))
    | exact id (And.left (And.right (And.right (And.right (And.right (And.right (And.right (And.right (And.right (And.right (And.right (by with_reducible assumption))))))))))))
    | exact Ne.symm (And.left (And.right (And.right (And.right (And.right (And.right (And.right (And.right (And.right (And.right (And.right (by with_reducible assumption))))))))))))
    | exact Nat.ne_of_gt (And.left (And.right (And.right (And.right (And.right (And.right (And.right (And.right (And.right (And.right (And.right (And.right (by with_reducible assumption)))))))))))))
    | exact Nat.ne_of_lt (And.left (And.right (And.right (And.right (And.right (And.right (And.right (And.right (And.right (And.right (And.right (And.right (by with_reducible assumption)))))))))))))
    | exact id (And.left (And.right (And.right (And.right (And.right (And.right (And.right (And.right (And.right (And.right (And.right (And.right (by with_reducible assumption)))))))))))))
    | exact Ne.symm (And.left (And.right (And.right (And.right (And.right (And.right (And.right (And.right (And.right (And.right (And.right (And.right (by with_reducible assumption)))))))))))))
    | exact Nat.ne_of_gt (And.left (And.right (And.right (And.right (And.right (And.right (And.right (And.right (And.right (And.right (And.right (And.right (And.right (by with_reducible assumption))))))))))))))
    | exact Nat.ne_of_lt (And.left (And.right (And.right (And.right (And.right (And.right (And.right (And.right (And.right (And.right (And.right (And.right (And.right (by with_reducible assumption))))))))))))))
    | exact id (And.left (And.right (And.right (And.right (And.right (And.right (And.right (And.right (And.right (And.right (And.right (And.right (And.right (by with_reducible assumption))))))))))))))
    | exact Ne.symm (And.left (And.right (And.right (And.right (And.right (And.right (And.right (And.right (And.right (And.right (And.right (And.right (And.right (by with_reducible assumption))))))))))))))
    | exact Nat.ne_of_gt (And.left (And.right (And.right (And.right (And.right (And.right (And.right (And.right (And.right (And.right (And.right (And.right (And.right (And.right (by with_reducible assumption)))))))))))))))
    | exact Nat.ne_of_lt (And.left (And.right (And.right (And.right (And.right (And.right (And.right (And.right (And.right (And.right (And.right (And.right (And.right (And.right (by with_reducible assumption)))))))))))))))
    | exact id (And.left (And.right (And.right (And.right (And.right (And.right (And.right (And.right (And.right (And.right (And.right (And.right (And.right (And.right (by with_reducible assumption)))))))))))))))
    | exact Ne.symm (And.left (And.right (And.right (And.right (And.right (And.right (And.right (And.right (And.right (And.right (And.right (And.right (And.right (And.right (by with_reducible assumption)))))))))))))))
    | exact Nat.ne_of_gt (And.right (by with_reducible assumption))
    | exact Ne.symm (And.right (by with_reducible assumption))
    | exact Nat.ne_of_gt (And.right (And.right (by with_reducible assumption)))
    | exact Ne.symm (And.right (And.right (by with_reducible assumption)))
    | exact Nat.ne_of_gt (And.right (And.right (And.right (by with_reducible assumption))))
    | exact Ne.symm (And.right (And.right (And.right (by with_reducible assumption))))
    | exact Nat.ne_of_gt (And.right (And.right (And.right (And.right (by with_reducible assumption)))))
    | exact Ne.symm (And.right (And.right (And.right (And.right (by with_reducible assumption)))))
    | exact Nat.ne_of_gt (And.right (And.right (And.right (And.right (And.right (by with_reducible assumption))))))
    | exact Ne.symm (And.right (And.right (And.right (And.right (And.right (by with_reducible assumption))))))
    | exact Nat.ne_of_gt (And.right (And.right (And.right (And.right (And.right (And.right (by with_reducible assumption)))))))
    | exact Ne.symm (And.right (And.right (And.right (And.right (And.right (And.right (by with_reducible assumption)))))))
    | exact Nat.ne_of_gt (And.right (And.right (And.right (And.right (And.right (And.right (And.right (by with_reducible assumption))))))))
    | exact Ne.symm (And.right (And.right (And.right (And.right (And.right (And.right (And.right (by with_reducible assumption))))))))
    | exact Nat.ne_of_gt (And.right (And.right (And.right (And.right (And.right (And.right (And.right (And.right (by with_reducible assumption)))))))))
    | exact Ne.symm (And.right (And.right (And.right (And.right (And.right (And.right (And.right (And.right (by with_reducible assumption)))))))))
    | exact Nat.ne_of_gt (And.right (And.right (And.right (And.right (And.right (And.right (And.right (And.right (And.right (by with_reducible assumption))))))))))
    | exact Ne.symm (And.right (And.right (And.right (And.right (And.right (And.right (And.right (And.right (And.right (by with_reducible assumption))))))))))
    | exact Nat.ne_of_gt (And.right (And.right (And.right (And.right (And.right (And.right (And.right (And.right (And.right (And.right (by with_reducible assumption)))))))))))
    | exact Ne.symm (And.right (And.right (And.right (And.right (And.right (And.right (And.right (And.right (And.right (And.right (by with_reducible assumption)))))))))))
    | exact Nat.ne_of_gt (And.right (And.right (And.right (And.right (And.right (And.right (And.right (And.right (And.right (And.right (And.right (by with_reducible assumption))))))))))))
    | exact Ne.symm (And.right (And.right (And.right (And.right (And.right (And.right (And.right (And.right (And.right (And.right (And.right (by with_reducible assumption))))))))))))
    | exact Nat.ne_of_gt (And.right (And.right (And.right (And.right (And.right (And.right (And.right (And.right (And.right (And.right (And.right (And.right (by with_reducible assumption)))))))))))))
    | exact Ne.symm (And.right (And.right (And.right (And.right (And.right (And.right (And.right (And.right (And.right (And.right (And.right (And.right (by with_reducible assumption)))))))))))))
    | exact Nat.ne_of_gt (And.right (And.right (And.right (And.right (And.right (And.right (And.right (And.right (And.right (And.right (And.right (And.right (And.right (by with_reducible assumption))))))))))))))
    | exact Ne.symm (And.right (And.right (And.right (And.right (And.right (And.right (And.right (And.right (And.right (And.right (And.right (And.right (And.right (by with_reducible assumption))))))))))))))
    | exact ne_hi (L := L') (by assumption) 1
    | exact ne_lo (L := L') (by assumption) 1
    | exact ne_hi (L := L') (by assumption) 2
    | exact ne_lo (L := L') (by assumption) 2
    | exact ne_hi (L := L') (by assumption) 3
    | exact ne_lo (L := L') (by assumption) 3
    | exact ne_hi (L := L') (by assumption) 4
    | exact ne_lo (L := L') (by assumption) 4
    | exact ne_hi (L := L') (by assumption) 5
    | exact ne_lo (L := L') (by assumption) 5
    | omega)
  k_with "exec For" => (with_unfolding_all refine For_src ?_ (by intro _; rfl))
  k_with "exec For Name Call cons nil" => (with_unfolding_all refine For_src ?_ (by intro _; rfl))
  k_with "CompSrc" => (k_here; k_dflt (first
    | (refine LCg.CompSrc.ledger (by rfl) (by k_asm) (by k_asm) (by k_mem) (by assumption) ?_)
    | (refine LCg.CompSrc.base (by rfl) (by k_asm) (by k_asm) (by assumption) (by assumption) ?_)
    | (refine LCg.CompSrc.range (by rfl) (by k_asm) (by k_asm) (by assumption) (by first | decide | rfl) (by first | rfl | decide) (by first | size_fits | exact Nat.le_of_ble_eq_true rfl) ?_)); intro _)
  k_with "CompSrcT" => (k_here; k_dflt (first
    | (refine LCt.CompSrcT.ledger (by rfl) (by k_asm) (by k_asm) (by k_mem) (by assumption) ?_)
    | (refine LCt.CompSrcT.base (by rfl) (by k_asm) (by k_asm) (by assumption) (by assumption) ?_)
    | (refine LCt.CompSrcT.range (by rfl) (by k_asm) (by k_asm) (by assumption) (by first | decide | rfl) (by first | rfl | decide) (by first | size_fits | exact Nat.le_of_ble_eq_true rfl) ?_)); intro _)
  k_with "m:k_ne" => (refine neN ?_; (try dsimp only); k_extra "mine:ne")
  k_with "mine:lmap" => (
    (refine maps_eq [Str.ofString "here", Str.ofString "earned", Str.ofString "second", Str.ofString "first", Str.ofString "script"] ?_ ?_)
    · k_extra "mine:mapsA"
    · k_extra "mine:mapsB")
  k_go0
  rename_i w s0 s1 mg mb G Y fa o pm doc ho hgens KX X0 V GL T B TE TW wA wO M cA cB hcd ns hs hlay0 hL1 hr1 hl2 w9 w8 a vs w5 ha ra w1 r0 hv hr hc1 hc2 K0 hD h₁ tk₁ F o5 o4 o3 o2 o1 d5 d4 d3 d2 d1 N Y0
  clear G Y ho X0 V GL B TE TW M hcd hs hlay0 hL1 hr1 hl2 w9 w8 ra w1 r0 hr hc2 K0 hD Y0
  obtain ⟨H₀, gs, dw, tk, os⟩ := s1
  dsimp only at *
  have hl : vs.length ≤ 63 := by rw [hv.length]; omega
  generalize eL : H₀.objs.size = L' at *
  refine wpAny_mono (Q := fun fl s' => (fun v s' => v = Value.bool true ∧ (∀ b o, H₀.get? b = some o → s'.heap.get? b = some o) ∧ s'.gens = gs ∧ s'.os = os) (match fl with | .ret v => v | _ => .none) s') (E := fun _ _ => False) ?walk ?ok (fun _ _ e => e.elim)
  case ok =>
    rintro fl s' ⟨e, hk, hg, ho⟩
    have key : GoodW Challenge.rw_wk0041_01.row.claim (classAt s0.heap) (ExcName.means s0.heap) [ofPy (PyData.list (List.map PyData.int ns))] { heap := H₀, gens := gs, drawn := dw, toks := tk, os := os } (Except.ok (Flow.ret (Value.bool true))) s' :=
      by
        refine ⟨.inl ⟨.bool true, .bool true, [], rfl, fun cls => rfl, .bool true, ?post, fun _ => ⟨List.nodup_nil, fun a ha => nomatch ha⟩⟩, hk, ho, hg.trans hgens⟩
        wrow_post
    cases fl with
    | ret v =>
      have e : v = Value.bool true := e
      subst e
      exact key
    | _ => cases e
  have hQ : ∀ h' tk', (∀ b o, H₀.get? b = some o → h'.get? b = some o) → (fun (v : Value) (s' : Shared) => v = Value.bool true ∧ (∀ b o, H₀.get? b = some o → s'.heap.get? b = some o) ∧ s'.gens = gs ∧ s'.os = os) (.bool true) ({ heap := h', gens := gs, drawn := dw, toks := tk', os := os } : Shared) := fun h' tk' k => ⟨rfl, k, rfl, rfl⟩
  generalize (fun (v : Value) (s' : Shared) => v = Value.bool true ∧ (∀ b o, H₀.get? b = some o → s'.heap.get? b = some o) ∧ s'.gens = gs ∧ s'.os = os) = Q at hQ ⊢
  have hA : callerA = around (1 + claimMargin) 4 (some []) [] := rfl
  rw [hA]
  clear hA
  have hd1 : (1 + claimMargin) + 80 < recursionLimit := by decide
  have hun : 4 + 300 < cLine := by decide
  generalize 1 + claimMargin = dp at hd1 ⊢
  have C : Cx w (ExcName.means s0.heap) mg mb H₀ := ⟨KX, T⟩
  have stg : H₀.StaysIn H₀ := fun b o e => e
  clear hc1 hgens
  generalize ExcName.means s0.heap = mean at *
  repeat' k_extra "mine:go"
  rename Fr _ _ _ _ => F9
  rename News _ _ _ _ => N9
  with_unfolding_all refine sums_spec C (fun b o e => F9.keep b o (stg b o e)) ?hdp (let ⟨o, e, r⟩ := ha; ⟨o, F9.keep _ _ e, r⟩) hv hl ?_
  case hdp => k_extra "mine:hdp"
  intro h9 tk9 ls vs9 xs n9 G9 nn9 e9 hsx hxl hxb
  have F8 := fr_grow F9 G9
  have N8 := news_fresh F9 N9 G9 nn9 e9
  have hn9 := news_ne N9 nn9
  simp only [List.forall_mem_cons] at hn9
  try dsimp only at hn9
  have c5 : @Ne Nat (L' + 1 + 1 + 1 + 1 + 1) ls := hn9.1
  have c4 : @Ne Nat (L' + 1 + 1 + 1 + 1) ls := hn9.2.1
  have c3 : @Ne Nat (L' + 1 + 1 + 1) ls := hn9.2.2.1
  have c2 : @Ne Nat (L' + 1 + 1) ls := hn9.2.2.2.1
  have c1 : @Ne Nat (L' + 1) ls := hn9.2.2.2.2.1
  clear hn9
  clear F9 N9 G9 nn9 e9
  repeat' k_extra "mine:go"
  refine restUQ (fun i _ y => ∃ t, y = .int (Int.fmod (xs.getD i 0) 6) t) (by trivial) ?turn1 ?fin1
  case turn1 =>
    intro i v I' oI' C' oC' D' m' h9 tk9 ys TC hTC hi hv hC' hx' F' N' off' ne'
    obtain ⟨t9', rfl⟩ := hv
    rw [Int.zero_add] at hx'
    have hi4 : i < 4 := hi
    clear hi
    obtain ⟨k, hk⟩ : ∃ k : Int, k = (i : Int) := ⟨_, rfl⟩
    have hkb : 0 ≤ k ∧ k < 4 := by omega
    rw [← hk] at hx'
    repeat' k_extra "mine:go"
    all_goals (refine hTC _ _ ?_ (by k_extra "mine:same"); rw [show xs.getD i 0 = xs.getD k.toNat 0 by rw [hk]; rfl]; exact ⟨_, rfl⟩)
  case fin1 =>
    intro rs1 hrs1 D1 h9 tk9 F9 N9 off1
    simp only [LCg.Off1, and_true] at off1
    have hin1 := sel_rmap (φ := fun i => Int.fmod (xs.getD i 0) 6) (fun _ _ => rfl) hrs1
    clear hrs1
    repeat' k_extra "mine:go"
    rename_i l8 h8 l81 lF vF h7 hIF lF1 h6 F6 N6 h5 tk5 t5 u5 v5 hR5 F5 N5 up5 g5
    have hf9 : ∃ f, IntsAre vF f ∧ f.length = 5 ∧ (∀ x ∈ f, 0 ≤ x ∧ x ≤ 5) ∧ f.getD 4 0 = 0 := ⟨_, hIF, fmods_ok _⟩
    obtain ⟨f, hfi, hfl, hfb, hf4⟩ := hf9
    clear hIF hin1
    refine restUQ (fun i _ y => ∃ t, y = .int (Int.fmod (xs.getD (4 + i) 0) 6) t) (by trivial) ?turn2 ?fin2
    case turn2 =>
      intro i v I' oI' C' oC' D' m' h9 tk9 ys TC hTC hi hv hC' hx' F' N' off' ne'
      obtain ⟨t9', rfl⟩ := hv
      rw [Int.zero_add] at hx'
      have hi4 : i < 4 := hi
      clear hi
      obtain ⟨k, hk⟩ : ∃ k : Int, k = (i : Int) := ⟨_, rfl⟩
      have hkb : 0 ≤ k ∧ k < 4 := by omega
      have e4 : 4 + i = (4 + k).toNat := by omega
      rw [← hk] at hx'
      repeat' k_extra "mine:go"
      all_goals (refine hTC _ _ ?_ (by k_extra "mine:same"); rw [show xs.getD (4 + i) 0 = xs.getD (4 + k).toNat 0 by rw [e4]]; exact ⟨_, rfl⟩)
    case fin2 =>
      intro rs2 hrs2 D2 h9 tk9 F9 N9 off2
      simp only [LCg.Off1, and_true] at off2
      have hin2 := sel_rmap (φ := fun i => Int.fmod (xs.getD (4 + i) 0) 6) (fun _ _ => rfl) hrs2
      clear hrs2
      repeat' k_extra "mine:go"
      rename_i l9 h8 l91 lS vS h7 hIS lS1 h61 tk61 lN h62 lN1 h63 oN F63 N63 dN h64 tk64 t6 u6 v6 hR F N up6
      have hg9 : ∃ f, IntsAre vS f ∧ f.length = 5 ∧ (∀ x ∈ f, 0 ≤ x ∧ x ≤ 5) ∧ f.getD 4 0 = 0 := ⟨_, hIS, fmods_ok _⟩
      obtain ⟨g, hgi, hgl, hgb, hg4⟩ := hg9
      clear hIS hin2
      clear F63 N63 up6
      replace F : Fr H₀ L' h64 (fun y => if y = Str.ofString "second" then some (.ref lS) else if y = Str.ofString "first" then some (.ref lF) else if y = Str.ofString "script" then some (.ref a) else none) := by with_unfolding_all exact F
      obtain ⟨oR, oD, oM, oS, vR, vD, vM, dR, dD, dM, dS, N⟩ : ∃ oR oD oM oS vR vD vM, oR.data = Data.cell vR ∧ oD.data = Data.cell vD ∧ oM.data = Data.cell vM ∧ oS.data = Data.cell (some (.ref ls)) ∧ News H₀ L' h64 ((lN, W.listOf #[] 0) :: (lS, W.listOf (List.toArray vS) 0) :: (lF, W.listOf (List.toArray vF) 0) :: (ls, W.listOf (List.toArray vs9) n9) :: (L' + 1 + 1 + 1 + 1 + 1, oR) :: (L' + 1 + 1 + 1 + 1, oD) :: (L' + 1 + 1 + 1, oM) :: (L' + 1 + 1, oN) :: (L' + 1, oS) :: []) := ⟨_, _, _, _, _, _, _, by assumption, by assumption, by assumption, by assumption, news_erase 2 (news_erase 3 (news_erase 5 (news_erase 6 N)))⟩
      have p1 : @Ne Nat lN lS := by k_extra "mine:ne"
      have p2 : @Ne Nat lN lF := by k_extra "mine:ne"
      have p3 : @Ne Nat lN ls := by k_extra "mine:ne"
      have p41 : @Ne Nat lN (L' + 1) := by k_extra "mine:ne"
      have p42 : @Ne Nat lN (L' + 1 + 1) := by k_extra "mine:ne"
      have p43 : @Ne Nat lN (L' + 1 + 1 + 1) := by k_extra "mine:ne"
      have p44 : @Ne Nat lN (L' + 1 + 1 + 1 + 1) := by k_extra "mine:ne"
      have p45 : @Ne Nat lN (L' + 1 + 1 + 1 + 1 + 1) := by k_extra "mine:ne"
      have p5 : @Ne Nat lS (L' + 1 + 1 + 1) := by k_extra "mine:ne"
      have p6 : @Ne Nat lF (L' + 1 + 1 + 1) := by k_extra "mine:ne"
      have p7 : @Ne Nat (L' + 1) (L' + 1 + 1 + 1) := ne_off L' (i := 1) (j := 3) (by decide)
      have p8 : @Ne Nat (L' + 1 + 1) (L' + 1 + 1 + 1) := ne_off L' (i := 2) (j := 3) (by decide)
      have p9 : @Ne Nat (L' + 1 + 1 + 1 + 1) (L' + 1 + 1 + 1) := ne_off L' (i := 4) (j := 3) (by decide)
      have p10 : @Ne Nat (L' + 1 + 1 + 1 + 1 + 1) (L' + 1 + 1 + 1) := ne_off L' (i := 5) (j := 3) (by decide)
      have r4lS : @Ne Nat lS (L' + 1 + 1 + 1 + 1) := by k_extra "mine:ne"
      have r4lF : @Ne Nat lF (L' + 1 + 1 + 1 + 1) := by k_extra "mine:ne"
      have r4ls : @Ne Nat ls (L' + 1 + 1 + 1 + 1) := by k_extra "mine:ne"
      have r41 : @Ne Nat (L' + 1) (L' + 1 + 1 + 1 + 1) := ne_off L' (i := 1) (j := 4) (by decide)
      have r42 : @Ne Nat (L' + 1 + 1) (L' + 1 + 1 + 1 + 1) := ne_off L' (i := 2) (j := 4) (by decide)
      have r43 : @Ne Nat (L' + 1 + 1 + 1) (L' + 1 + 1 + 1 + 1) := ne_off L' (i := 3) (j := 4) (by decide)
      have r45 : @Ne Nat (L' + 1 + 1 + 1 + 1 + 1) (L' + 1 + 1 + 1 + 1) := ne_off L' (i := 5) (j := 4) (by decide)
      have r5lS : @Ne Nat lS (L' + 1 + 1 + 1 + 1 + 1) := by k_extra "mine:ne"
      have r5lF : @Ne Nat lF (L' + 1 + 1 + 1 + 1 + 1) := by k_extra "mine:ne"
      have r5ls : @Ne Nat ls (L' + 1 + 1 + 1 + 1 + 1) := by k_extra "mine:ne"
      have r51 : @Ne Nat (L' + 1) (L' + 1 + 1 + 1 + 1 + 1) := ne_off L' (i := 1) (j := 5) (by decide)
      have r52 : @Ne Nat (L' + 1 + 1) (L' + 1 + 1 + 1 + 1 + 1) := ne_off L' (i := 2) (j := 5) (by decide)
      have r53 : @Ne Nat (L' + 1 + 1 + 1) (L' + 1 + 1 + 1 + 1 + 1) := ne_off L' (i := 3) (j := 5) (by decide)
      clear lF1 lS1 lN1 l91 l81 off1 off2 up5 hR5
      refine ForSrc.rangeQ (n := 16) (fun i m₁ news₁ => ∃ oM vM ws es n, m₁ = (fun y => if y = Str.ofString "here" then m₁ y else if y = Str.ofString "earned" then m₁ y else if y = Str.ofString "second" then some (.ref lS) else if y = Str.ofString "first" then some (.ref lF) else if y = Str.ofString "script" then some (.ref a) else none)
        ∧ news₁ = (lN, W.listOf (List.toArray ws) n) :: (lS, W.listOf (List.toArray vS) 0) :: (lF, W.listOf (List.toArray vF) 0) :: (ls, W.listOf (List.toArray vs9) n9) :: (L' + 1 + 1 + 1 + 1 + 1, oR) :: (L' + 1 + 1 + 1 + 1, oD) :: (L' + 1 + 1 + 1, oM) :: (L' + 1 + 1, oN) :: (L' + 1, oS) :: []
        ∧ oM.data = Data.cell vM ∧ IntsAre ws es ∧ es.length = i ∧ NetOk f g xs es) (by rfl) F N hR (by decide) (by rfl) ?J0 ?turn ?done
      case J0 =>
        refine ⟨oM, vM, [], [], 0, ?_, rfl, dM, .nil, rfl, fun k hk => absurd hk (Nat.not_lt_zero _)⟩
        k_extra "mine:lmap"
      case done =>
        rintro m₁ news₁ h tk ⟨oM, vM, ws, es, n, hm₁, rfl, dM, hws, hel, hok⟩ F1 N1
        rw [hm₁] at F1
        clear hm₁ F N
        have hpos : 0 < es.length := by omega
        have x12 : 0 ≤ xs.getD 12 0 := (getD_bound hxb (by omega)).1
        have x13 : 0 ≤ xs.getD 13 0 ∧ xs.getD 13 0 ≤ 30000 := getD_bound hxb (by omega)
        repeat' k_extra "mine:go"
        rename_i ts1 h3 ts2 h4 oD2 dD2 ts3 h5 oR2 F5 N5 dR2 h6 tk6 t6 u6 v6 hR6 F6 N6 up6 g6
        clear F5 N5 up6 hR6
        obtain ⟨dv, dt, hdb, dD2⟩ : ∃ dv dt, (0 ≤ dv ∧ dv < 4) ∧ oD2.data = Data.cell (some (.int dv dt)) := ⟨_, _, fmod_in (by decide), dD2⟩
        obtain ⟨rv, rt, hrb, dR2⟩ : ∃ rv rt, (1 ≤ rv ∧ rv ≤ 4) ∧ oR2.data = Data.cell (some (.int rv rt)) := ⟨_, _, rise_in, dR2⟩
        refine restUQ (fun i _ y => ∃ t, y = .int (es.getD i 0 - rv * Builtin.bitAnd (Int.fdiv (i : Int) (2 ^ dv.toNat)) 1) t) (by trivial) ?turn4 ?fin4
        case turn4 =>
          intro i v I' oI' C' oC' D' m' h9 tk9 ys TC hTC hi hv hC' hx' F' N' off' ne'
          obtain ⟨t9', rfl⟩ := hv
          rw [Int.zero_add] at hx'
          have hi4 : i < 16 := hi
          clear hi
          obtain ⟨k, hk⟩ : ∃ k : Int, k = (i : Int) := ⟨_, rfl⟩
          have hkb : 0 ≤ k ∧ k < 16 := by omega
          rw [← hk] at hx'
          repeat' k_extra "mine:go"
          all_goals (refine hTC _ _ ?_ (by k_extra "mine:same"); rw [← hk, show es.getD i 0 = es.getD k.toNat 0 by rw [hk]; rfl]; exact ⟨_, rfl⟩)
        case fin4 =>
          intro rs4 hrs4 lL h9 tk9 F9 N9 off4
          simp only [LCg.Off1, and_true] at off4
          have hin4 := sel_rmap (φ := fun i => es.getD i 0 - rv * Builtin.bitAnd (Int.fdiv (i : Int) (2 ^ dv.toNat)) 1) (fun _ _ => rfl) hrs4
          clear hrs4
          obtain ⟨lt, hlt⟩ : ∃ lt, lt = (List.range' 0 16).map fun i : Nat => es.getD i 0 - rv * Builtin.bitAnd (Int.fdiv (i : Int) (2 ^ dv.toNat)) 1 := ⟨_, rfl⟩
          replace hin4 : IntsAre rs4 lt := hlt ▸ hin4
          have hll : lt.length = 16 := by rw [hlt]; rfl
          have pL : @Ne Nat lN lL := off4.1
          obtain ⟨sv, st0, hsb, F9⟩ : ∃ sv st0, (0 ≤ sv ∧ sv < 16) ∧ Fr H₀ L' h9 (fun y => if y = Str.ofString "later" then some (.ref lL) else if y = Str.ofString "start" then some (.int sv st0) else if y = Str.ofString "here" then m₁ y else if y = Str.ofString "earned" then m₁ y else if y = Str.ofString "second" then some (.ref lS) else if y = Str.ofString "first" then some (.ref lF) else if y = Str.ofString "script" then some (.ref a) else none) := ⟨_, _, fmod_in (by decide), F9⟩
          have N9 : News H₀ L' h9 ((lL, LCg.lst rs4) :: (lN, W.listOf (List.toArray ws) n) :: (L' + 1 + 1 + 1 + 1, oD2) :: (L' + 1 + 1, oN) :: []) := news_erase 2 (news_erase 3 (news_erase 4 (news_erase 5 (news_erase 7 (news_erase 9 N9)))))
          clear off4 N6 dR2 dM dS
          dsimp only
          have N9 : News H₀ L' h9 ((lL, W.listOf (List.toArray rs4) rs4.length) :: (lN, W.listOf (List.toArray ws) n) :: (L' + 1 + 1 + 1 + 1, oD2) :: (L' + 1 + 1, oN) :: []) := N9
          have e9 := lawFn_is (w := w) (by k_dflt k_is)
          have K := law_tail (dp := dp) (un := 4) (gd := some []) (outer := []) (fa := fa) (cd := Value.ref cA) (tk9 := tk9) (gs := gs) (dw := dw) (os := os) (m := fun y => if y = Str.ofString "here" then m₁ y else if y = Str.ofString "earned" then m₁ y else if y = Str.ofString "second" then some (.ref lS) else if y = Str.ofString "first" then some (.ref lF) else if y = Str.ofString "script" then some (.ref a) else none) C hd1 hun F9 N9 dD2 dN hws hel hin4 hll hsb hdb (plain_of hok hel hrb.1 hdb hlt) pL hQ
          rw [e9] at K
          dsimp only [List.drop] at K
          exact K
      case turn =>
        rintro i m₁ news₁ I oI h tk t' TF hTF hi ⟨oM, vM, ws, es, n, hm₁, rfl, dM, hws, hel, hok⟩ F1 N1 off1
        rw [hm₁] at F1
        clear hm₁ F N
        rw [Int.zero_add]
        simp only [List.forall_mem_cons] at off1
        obtain ⟨i1, i2, i3, i4, i5, i6, i7, i8, i9, _⟩ := off1
        have i1 : @Ne Nat lN I := i1
        have i7 : @Ne Nat (L' + 1 + 1 + 1) I := i7
        have i2 : @Ne Nat lS I := i2
        have i3 : @Ne Nat lF I := i3
        obtain ⟨mk, hmk⟩ : ∃ mk : Int, mk = (i : Int) := ⟨_, rfl⟩
        have hmb : 0 ≤ mk ∧ mk < 16 := by omega
        rw [← hmk]
        repeat' k_extra "mine:go"
        refine restTQ (fun j _ => bitOf mk j) (fun _ v y => y = v) (by trivial) ?turn ?elt ?fin
        case turn =>
          intro i v I' oI' C' oC' D' m' h9 tk9 ys TC hTC hi hv hC' hx' F' N' off' ne'
          obtain ⟨t9', rfl⟩ := hv
          repeat' k_extra "mine:go"
          all_goals (refine hTC _ _ ?_ (by k_extra "mine:same"); rfl)
        case elt =>
          intro i v I' oI' C' oC' D' m' h9 tk9 ys TC hTC hi hv ht hC' hx' F' N' off' ne'
          obtain ⟨t9', rfl⟩ := hv
          repeat' k_extra "mine:go"
          all_goals (refine hTC _ _ ?_ (by k_extra "mine:same"); rfl)
        case fin =>
          intro rh hrh lH h9 tk9 F9 N9 off9
          have hhi : IntsAre rh (hereOf i) := by
            have h := sel_range hrh
            rw [hmk] at h
            exact h
          clear hrh
          simp only [LCg.Off1, and_true] at off9
          have j1 : @Ne Nat lN lH := off9.2.1
          have j2 : @Ne Nat (L' + 1 + 1 + 1) lH := by k_extra "mine:ne"
          clear off9
          repeat' k_extra "mine:go"
          with_unfolding_all refine told_at C (fun b o e => F9.keep b o (stg b o e)) ?hdp ?hun hi ⟨_, News.get N9 (by k_mem), rfl, _, rfl⟩ hfi hfl hfb ⟨_, News.get N9 (by k_mem), rfl, _, rfl⟩ hgi hgl hgb hf4 hg4 ⟨_, News.get N9 (by k_mem), rfl, _, rfl⟩ hhi fun r hr h8 tk8 t8 G8 => ?_
          case hdp => k_extra "mine:hdp"
          case hun => k_extra "mine:hdp"
          have F8 := fr_grow F9 G8
          have N8 := news_grow N9 G8
          clear F9 N9 G8
          repeat' k_extra "mine:go"
          rename Fr _ _ _ _ => F7
          rename News _ _ _ _ => N7
          with_unfolding_all refine plain_at C (fun b o e => F7.keep b o (stg b o e)) ?hdp ?hun hi ⟨_, News.get N7 (by k_mem), rfl, _, rfl⟩ hfi hfl hfb ⟨_, News.get N7 (by k_mem), rfl, _, rfl⟩ hgi hgl hgb hf4 hg4 ⟨_, News.get N7 (by k_mem), rfl, _, rfl⟩ hhi hr fun h6 tk6 t6 G6 => ?_
          case hdp => k_extra "mine:hdp"
          case hun => k_extra "mine:hdp"
          have F6 := fr_grow F7 G6
          have N6 := news_grow N7 G6
          clear F7 N7 G6
          have hhl := here_len hi
          have hhb := here_in hi
          have hrl : rh.toArray.size ≤ sizeLine := by rw [List.size_toArray, sizeLine_eq, hhi.length]; omega
          have hrb := vmax_bound hfb hgb hfl hgl hr
          obtain ⟨hs, hhs⟩ : ∃ hs, hs = hereOf i := ⟨_, rfl⟩
          rw [← hhs] at hhi hhl hhb
          have hat : ∀ (i : Nat) (v : Value), i < rh.toArray.size → rh.toArray[i]? = some v → ∃ t, v = .int (hs.getD i 0) t ∧ 0 ≤ hs.getD i 0 ∧ hs.getD i 0 ≤ 3 := fun i v hi hv => by
            obtain ⟨t, rfl⟩ := hhi.int_at i v (by simpa using hv)
            rw [List.size_toArray, hhi.length] at hi
            refine ⟨t, rfl, hhb _ ?_⟩
            simp only [List.getD, List.getElem?_eq_getElem hi, Option.getD_some]
            exact List.getElem_mem hi
          repeat' k_extra "mine:go"
          · rename r ≠ r => q; exact absurd rfl q
          refine restUQ (fun i _ y => ∃ t, y = .int (Int.fmod (xs.getD (8 + hs.getD i 0).toNat 0) 5 - 1) t) (.inr ⟨_, by k_mem, rfl, _, rfl⟩) ?turn3 ?fin3
          case turn3 =>
            intro i v I' oI' C' oC' D' m' h9 tk9 ys TC hTC hi hv hC' hx' F' N' off' ne'
            obtain ⟨t9, rfl, hb⟩ := hat i v hi hv
            obtain ⟨k, hk⟩ : ∃ k, k = hs.getD i 0 := ⟨_, rfl⟩
            rw [← hk] at hb hx'
            repeat' k_extra "mine:go"
            all_goals (refine hTC _ _ ?_ (by k_extra "mine:same"); rw [← hk]; exact ⟨_, rfl⟩)
          case fin3 =>
            intro rs3 hrs3 D3 h9 tk9 F9 N9 off3
            simp only [LCg.Off1, and_true] at off3
            have hin3 := sel_map (φ := fun k => Int.fmod (xs.getD (8 + k).toNat 0) 5 - 1) (hs := hs) hrs3 (by rw [List.size_toArray, hhi.length]; omega)
            rw [List.drop_zero] at hin3
            clear hrs3
            repeat' k_extra "mine:go"
            rename Fr _ _ _ _ => F8
            rename News _ _ _ _ => N8
            have N8 := news_erase 0 (news_erase 1 N8)
            have N8 : News H₀ L' _ ((I, oI) :: (lN, _) :: (lS, _) :: (lF, _) :: (ls, _) :: (L' + 1 + 1 + 1 + 1 + 1, _) :: (L' + 1 + 1 + 1 + 1, _) :: (L' + 1 + 1 + 1, _) :: (L' + 1 + 1, _) :: (L' + 1, _) :: []) := N8
            refine hTF _ _ ?_
            dsimp only [Turned]
            refine ⟨_, _, _, _, rfl, F8, N8, ?offI, trivial, _, some (Value.int mk t'), _, es ++ [r - (hs.map fun k => Int.fmod (xs.getD (8 + k).toNat 0) 5 - 1).sum], _, ?mp, rfl, ?dm, ?ia, ?len, ?net⟩
            case offI =>
              simp only [List.forall_mem_cons]
              exact ⟨i1, i2, i3, i4, i5, i6, i7, i8, i9, fun p hp => nomatch hp⟩
            case mp => k_extra "mine:lmap"
            case dm => assumption
            case ia =>
              rw [List.concat_eq_append]
              exact IntsAre.append hws (.cons _ _ .nil)
            case len => rw [List.length_append, List.length_singleton, hel]
            case net =>
              refine net_snoc hok hel hr ?_
              rw [hhs, here_sum hi]
              rfl)
end
end LFinS
end Mine
theorem PySem.Challenge.cw_wk0041_01_holds : PySem.Challenge.rw_wk0041_01.Holds := by
  exact Mine.fin0
